import JvmDerived
import JvmDerived.Pilot.@@N@@Statement
import JvmDerived.Pilot.@@N@@Code
set_option linter.unusedVariables false
set_option linter.unusedSimpArgs false
namespace Jvm.Pilot.@@N@@
open Jvm Jvm.ClassFile Sem Op Lib Jvm.Free Jvm.Stand Jvm.LawKit Jvm.RoadKit Bundle Jvm.Pilot.@@N@@.Jvm.D
section OwnBase
abbrev Ent : Type := Addr × (Cell → Prop)
/-- what is known of the heap h: O, the objects that the law has made and still writes; P, those that nobody writes any more -/
def Lay (Z : State) (EL : List (String × Nat)) (vm : Vm) (h : Heap) (O P : List Ent) : Prop :=
  (∀ (i : Nat) (x : Ent), O[i]? = some x → (∃ c, h[x.1]? = some c ∧ x.2 c) ∧ Z.heap.size ≤ x.1 ∧ Safe Z EL vm h x.1) ∧
  (∀ (i j : Nat) (x y : Ent), O[i]? = some x → O[j]? = some y → x.1 = y.1 → i = j) ∧
  (∀ y ∈ P, (∃ c, h[y.1]? = some c ∧ y.2 c) ∧ ∀ (i : Nat) (x : Ent), O[i]? = some x → x.1 ≠ y.1)
section LayLaws
variable {Z : State} {EL : List (String × Nat)} {vm vm' : Vm} {h h' : Heap} {O P : List Ent} {a : Addr} {φ ψ : Cell → Prop} {i : Nat}
theorem Lay.nil (E : ∀ y ∈ P, ∃ c, h[y.1]? = some c ∧ y.2 c) : Lay Z EL vm h [] P := ⟨fun i x q => (by simp at q), fun i j x y q => (by simp at q), fun y q => ⟨E y q, fun i x q => (by simp at q)⟩⟩
theorem Lay.lt (L : Lay Z EL vm h O P) {x : Ent} (hi : O[i]? = some x) : x.1 < h.size := by
  obtain ⟨⟨c, q, -⟩, -⟩ := L.1 i x hi; exact (Array.getElem?_eq_some_iff.mp q).1
theorem Lay.mono (A : CHr Z EL vm h vm' h') (E : Ext h h') (L : Lay Z EL vm h O P) : Lay Z EL vm' h' O P := by
  refine ⟨fun i x q => ?_, L.2.1, fun y q => ?_⟩
  · obtain ⟨⟨c, q1, q2⟩, q3, q4⟩ := L.1 i x q
    exact ⟨⟨c, E.2 _ _ q1, q2⟩, q3, A.safe (Array.getElem?_eq_some_iff.mp q1).1 q4⟩
  · obtain ⟨⟨c, q1, q2⟩, q3⟩ := L.2.2 y q
    exact ⟨⟨c, E.2 _ _ q1, q2⟩, q3⟩
theorem Lay.new (L : Lay Z EL vm h O P) (hc : ∃ c, h[a]? = some c ∧ φ c) (hz : Z.heap.size ≤ a) (S : Safe Z EL vm h a) (f1 : ∀ (i : Nat) (x : Ent), O[i]? = some x → x.1 ≠ a) (f2 : ∀ y ∈ P, y.1 ≠ a) : Lay Z EL vm h ((a, φ) :: O) P := by
  refine ⟨fun i x q => ?_, fun i j x y q r e => ?_, fun y q => ⟨(L.2.2 y q).1, fun i x r => ?_⟩⟩
  · cases i with
    | zero => simp at q; subst q; exact ⟨hc, hz, S⟩
    | succ i => exact L.1 i x (by simpa using q)
  · cases i with
    | zero =>
      simp at q; subst q
      cases j with
      | zero => rfl
      | succ j => exact absurd e.symm (f1 j y (by simpa using r))
    | succ i =>
      cases j with
      | zero => simp at r; subst r; exact absurd e (f1 i x (by simpa using q))
      | succ j => exact congrArg _ (L.2.1 i j x y (by simpa using q) (by simpa using r) e)
  · cases i with
    | zero => simp at r; subst r; exact fun z => f2 y q z.symm
    | succ i => exact (L.2.2 y q).2 i x (by simpa using r)
theorem own_set_get {O : List Ent} {x y : Ent} {j : Nat} (hi : O[i]? = some x) (q : (O.set i y)[j]? = some a') : (j = i ∧ a' = y) ∨ (j ≠ i ∧ O[j]? = some a') := by
  by_cases e : j = i
  · subst e
    have := (List.getElem?_eq_some_iff.mp hi).1
    simp [this] at q
    exact Or.inl ⟨rfl, q.symm⟩
  · rw [List.getElem?_set_ne (fun z => e z.symm)] at q
    exact Or.inr ⟨e, q⟩
/-- one owned cell is written (or anything else happens to it) -/
theorem Lay.keep1 (L : Lay Z EL vm h O P) (A : CHr Z EL vm h vm' h') (K : Keep h h' [a]) (hi : O[i]? = some (a, φ)) (hψ : ∃ c, h'[a]? = some c ∧ ψ c) : Lay Z EL vm' h' (O.set i (a, ψ)) P := by
  have st : ∀ (x : Addr) (c : Cell), h[x]? = some c → x ≠ a → h'[x]? = some c := fun x c q r => K.2.1 x c q (by simpa using r)
  refine ⟨fun j x q => ?_, fun j j' x y q r e => ?_, fun y q => ?_⟩
  · rcases own_set_get hi q with ⟨rfl, rfl⟩ | ⟨ne, q⟩
    · obtain ⟨⟨c, q1, q2⟩, q3, q4⟩ := L.1 _ _ hi
      exact ⟨hψ, q3, A.safe (Array.getElem?_eq_some_iff.mp q1).1 q4⟩
    · obtain ⟨⟨c, q1, q2⟩, q3, q4⟩ := L.1 _ _ q
      exact ⟨⟨c, st _ _ q1 (fun z => ne (L.2.1 _ _ _ _ q hi z)), q2⟩, q3, A.safe (Array.getElem?_eq_some_iff.mp q1).1 q4⟩
  · rcases own_set_get hi q with ⟨e1, e2⟩ | ⟨ne, q'⟩ <;> rcases own_set_get hi r with ⟨e3, e4⟩ | ⟨ne', r'⟩
    · rw [e1, e3]
    · rw [e2] at e; exact absurd (L.2.1 _ _ _ _ r' hi e.symm) ne'
    · rw [e4] at e; exact absurd (L.2.1 _ _ _ _ q' hi e) ne
    · exact L.2.1 _ _ _ _ q' r' e
  · obtain ⟨⟨c, q1, q2⟩, q3⟩ := L.2.2 y q
    refine ⟨⟨c, st _ _ q1 (fun z => q3 _ _ hi z.symm), q2⟩, fun j x r => ?_⟩
    rcases own_set_get hi r with ⟨rfl, rfl⟩ | ⟨-, r⟩
    · exact fun z => q3 _ _ hi z
    · exact q3 _ _ r
theorem Lay.weak (L : Lay Z EL vm h O P) (hi : O[i]? = some (a, φ)) (w : ∀ c, φ c → ψ c) : Lay Z EL vm h (O.set i (a, ψ)) P := by
  refine ⟨fun j x q => ?_, fun j j' x y q r e => ?_, fun y q => ⟨(L.2.2 y q).1, fun j x r => ?_⟩⟩
  · rcases own_set_get hi q with ⟨rfl, rfl⟩ | ⟨ne, q⟩
    · obtain ⟨⟨c, q1, q2⟩, q3, q4⟩ := L.1 _ _ hi
      exact ⟨⟨c, q1, w c q2⟩, q3, q4⟩
    · exact L.1 _ _ q
  · rcases own_set_get hi q with ⟨e1, e2⟩ | ⟨ne, q'⟩ <;> rcases own_set_get hi r with ⟨e3, e4⟩ | ⟨ne', r'⟩
    · rw [e1, e3]
    · rw [e2] at e; exact absurd (L.2.1 _ _ _ _ r' hi e.symm) ne'
    · rw [e4] at e; exact absurd (L.2.1 _ _ _ _ q' hi e) ne
    · exact L.2.1 _ _ _ _ q' r' e
  · rcases own_set_get hi r with ⟨rfl, rfl⟩ | ⟨-, r⟩
    · exact fun z => (L.2.2 y q).2 _ _ hi z
    · exact (L.2.2 y q).2 _ _ r
theorem own_erase_get {O : List Ent} {x : Ent} {j : Nat} (q : (O.eraseIdx i)[j]? = some x) : (j < i ∧ O[j]? = some x) ∨ (i ≤ j ∧ O[j + 1]? = some x) := by
  rw [List.getElem?_eraseIdx] at q
  split at q
  · exact Or.inl ⟨by assumption, q⟩
  · exact Or.inr ⟨by omega, q⟩
/-- an owned object is given up: nobody writes it any more -/
theorem Lay.share (L : Lay Z EL vm h O P) (hi : O[i]? = some (a, φ)) : Lay Z EL vm h (O.eraseIdx i) ((a, φ) :: P) := by
  refine ⟨fun j x q => ?_, fun j j' x y q r e => ?_, fun y q => ?_⟩
  · rcases own_erase_get q with ⟨-, q⟩ | ⟨-, q⟩ <;> exact L.1 _ _ q
  · rcases own_erase_get q with ⟨b, q⟩ | ⟨b, q⟩ <;> rcases own_erase_get r with ⟨b', r⟩ | ⟨b', r⟩ <;> have := L.2.1 _ _ _ _ q r e <;> omega
  · have ers : ∀ (P' : Ent → Prop), (∀ j x, O[j]? = some x → j ≠ i → P' x) → ∀ j x, (O.eraseIdx i)[j]? = some x → P' x := fun P' w j x r => by
      rcases own_erase_get r with ⟨b, r⟩ | ⟨b, r⟩
      · exact w _ _ r (by omega)
      · exact w _ _ r (by omega)
    rcases List.mem_cons.mp q with rfl | q
    · exact ⟨(L.1 _ _ hi).1, ers _ fun j x r ne z => ne (L.2.1 _ _ _ _ r hi z)⟩
    · exact ⟨(L.2.2 y q).1, ers _ fun j x r _ => (L.2.2 y q).2 _ _ r⟩
/-- an owned object is forgotten -/
theorem Lay.drop (L : Lay Z EL vm h O P) (i : Nat) : Lay Z EL vm h (O.eraseIdx i) P := by
  refine ⟨fun j x q => ?_, fun j j' x y q r e => ?_, fun y q => ⟨(L.2.2 y q).1, fun j x r => ?_⟩⟩
  · rcases own_erase_get q with ⟨-, q⟩ | ⟨-, q⟩ <;> exact L.1 _ _ q
  · rcases own_erase_get q with ⟨b, q⟩ | ⟨b, q⟩ <;> rcases own_erase_get r with ⟨b', r⟩ | ⟨b', r⟩ <;> have := L.2.1 _ _ _ _ q r e <;> omega
  · rcases own_erase_get r with ⟨-, r⟩ | ⟨-, r⟩ <;> exact (L.2.2 y q).2 _ _ r
theorem Lay.sub (L : Lay Z EL vm h O P) {P' : List Ent} (hs : ∀ y ∈ P', y ∈ P) : Lay Z EL vm h O P' := ⟨L.1, L.2.1, fun y q => L.2.2 y (hs y q)⟩
theorem Lay.ro (L : Lay Z EL vm h O P) (hc : ∃ c, h[a]? = some c ∧ φ c) (hn : ∀ (i : Nat) (x : Ent), O[i]? = some x → x.1 ≠ a) : Lay Z EL vm h O ((a, φ) :: P) :=
  ⟨L.1, L.2.1, fun y q => by
    rcases List.mem_cons.mp q with rfl | q
    · exact ⟨hc, hn⟩
    · exact L.2.2 y q⟩
end LayLaws
/-! what a cell holds -/
def ExaC (Z : State) (C : String) (c : Cell) : Prop := ∃ kk : Class, Z.vm.findClass C = some c.cls ∧ Z.vm.classes[c.cls]? = some kk ∧ c.vm.isStatics = false ∧ (kk.kind = .ordinary → c.slots.size = kk.instanceTypes.size)
def FldC (Z : State) (C n d : String) (v : Value) (c : Cell) : Prop := ∃ (cf : ClassId) (kk : Class) (i : Nat) (f : Field), Z.fieldFound? C n d = some (cf, kk, i, f) ∧ f.isStatic = false ∧ c.vm ≠ .unknown ∧ c.vm.isStatics = false ∧ Z.vm.assignable c.cls cf = true ∧ c.slots[f.slot]? = some v
abbrev Shape : Type := List (String × String × String)
/-- an object of exactly the class C whose fields sh hold vs -/
def ObjC (Z : State) (C : String) (sh : Shape) (vs : List Value) (c : Cell) : Prop := ExaC Z C c ∧ ∀ (i : Nat) (f : String × String × String) (v : Value), sh[i]? = some f → vs[i]? = some v → FldC Z f.1 f.2.1 f.2.2 v c
/-- an array of ty whose components are vs -/
def ArrC (Z : State) (ty : FieldType) (vs : List Value) (c : Cell) : Prop := Z.isArrayOf c ty ∧ c.vm ≠ .unknown ∧ c.slots.toList = vs ∧ (∀ v ∈ vs, fits ty v = true) ∧ vs.length < 2 ^ 31
/-- the shape's fields are laid, their names differ -/
def ShOk (Z : State) (a0 : Array Value) (C : String) (sh : Shape) : Prop := ∀ (i : Nat) (f : String × String × String), sh[i]? = some f → Laid Z a0 C f.1 f.2.1 f.2.2 ∧ ∃ t, parseFieldDescriptor f.2.2 = some t
section CellLaws
variable {Z : State} {a0 : Array Value} {h h' : Heap} {a : Addr} {C O n d : String} {v w : Value} {c : Cell} {sh : Shape} {vs : List Value} {i : Nat} {ty : FieldType}
theorem ExaC.exa (q : h[a]? = some c) (F : ExaC Z C c) : Exa Z h a C := by obtain ⟨kk, h1, h2, h3, h4⟩ := F; exact ⟨c, kk, q, h1, h2, h3, h4⟩
theorem exaC (F : Exa Z h a C) : ∃ c, h[a]? = some c ∧ ExaC Z C c := by obtain ⟨c, kk, q, h1, h2, h3, h4⟩ := F; exact ⟨c, q, kk, h1, h2, h3, h4⟩
theorem FldC.fld (q : h[a]? = some c) (F : FldC Z C n d v c) : Fld Z h a C n d v := by obtain ⟨cf, kk, i, f, r⟩ := F; exact ⟨c, cf, kk, i, f, q, r⟩
theorem fldC (q : h[a]? = some c) (F : Fld Z h a C n d v) : FldC Z C n d v c := by obtain ⟨c', cf, kk, i, f, q', r⟩ := F; cases q.symm.trans q'; exact ⟨cf, kk, i, f, r⟩
theorem ObjC.get (F : ObjC Z C sh vs c) (h1 : sh[i]? = some (O, n, d)) (h2 : vs[i]? = some v) : FldC Z O n d v c := F.2 i _ v h1 h2
theorem ObjC.set (F : ObjC Z C sh vs c) (K : ShOk Z a0 C sh) (nd : (sh.map (·.2.1)).Nodup) (h1 : sh[i]? = some (O, n, d)) (W : Wr h h' a (Jvm.RoadKit.slotOf Z O n d) v) (q : h[a]? = some c) : ∃ c', h'[a]? = some c' ∧ ObjC Z C sh (vs.set i v) c' := by
  obtain ⟨c', e1, -⟩ := wr_at W q
  have E : Exa Z h' a C := (F.1.exa q).wr W
  refine ⟨c', e1, ?_, fun j f u hj hu => ?_⟩
  · obtain ⟨c'', kk, r, rest⟩ := E; cases e1.symm.trans r; exact ⟨kk, rest⟩
  · by_cases e : j = i
    · subst e
      cases h1.symm.trans hj
      have hl : j < vs.length := by
        rcases Nat.lt_or_ge j vs.length with z | z
        · exact z
        · rw [List.getElem?_eq_none (by simpa using z)] at hu; cases hu
      simp [hl] at hu; subst hu
      exact fldC e1 (Fld.same W ((F.2 j _ _ h1 (List.getElem?_eq_getElem hl)).fld q))
    · rw [List.getElem?_set_ne (fun z => e z.symm)] at hu
      have L1 := K _ _ hj
      have L2 := K _ _ h1
      obtain ⟨t1, p1⟩ := L1.2
      obtain ⟨t2, p2⟩ := L2.2
      have ne : f.2.1 ≠ n := fun z => e (by
        have a1 : (sh.map (·.2.1))[j]? = some n := by rw [List.getElem?_map, hj]; exact congrArg some z
        have a2 : (sh.map (·.2.1))[i]? = some n := by rw [List.getElem?_map, h1]; rfl
        obtain ⟨b1, b2⟩ := List.getElem?_eq_some_iff.mp a1
        obtain ⟨b3, b4⟩ := List.getElem?_eq_some_iff.mp a2
        exact (List.getElem_inj nd).mp (b2.trans b4.symm))
      exact fldC e1 (Fld.other W ((F.2 j _ _ hj hu).fld q) (Or.inr (slot_ne L1.1 L2.1 ne p1 p2)))
theorem ArrC.arr (q : h[a]? = some c) (F : ArrC Z ty vs c) : Arr Z h a c ty := ⟨q, F.1, F.2.1⟩
theorem ArrC.size (F : ArrC Z ty vs c) : c.slots.size = vs.length := by rw [← F.2.2.1]; simp
theorem ArrC.at (F : ArrC Z ty vs c) (hv : vs[i]? = some v) : c.slots[i]? = some v := by rw [← F.2.2.1] at hv; simpa using hv
theorem ArrC.set (F : ArrC Z ty vs c) (hv : fits ty v = true) (W : Wr h h' a i v) (q : h[a]? = some c) : ∃ c', h'[a]? = some c' ∧ ArrC Z ty (vs.set i v) c' := by
  refine ⟨_, (Arr.same W (F.arr q)).1, F.1, F.2.1, ?_, fun u hu => ?_, by simpa using F.2.2.2.2⟩
  · simp [Cell.setSlot, F.2.2.1]
  · rcases List.mem_or_eq_of_mem_set hu with z | z
    · exact F.2.2.2.1 u z
    · exact z ▸ hv
theorem ArrC.new {cA : ClassId} {z : Int32} (A : Arr Z h a (newA cA ty z) ty) (hz : ¬ z < 0) (hd : fits ty (defaultValue ty) = true) : ∃ c, h[a]? = some c ∧ ArrC Z ty (List.replicate z.toNatClampNeg (defaultValue ty)) c :=
  ⟨_, A.1, A.2.1, A.2.2, by simp [newA], fun v hv => by rw [List.eq_of_mem_replicate hv]; exact hd, by rw [List.length_replicate]; exact (back32 hz).2⟩
end CellLaws
/-- the walk of one body stands at T -/
def Wk (kn : Prop) (p : Program) (l : Launch) (e : Env) (R : Room) (s : State) (m : MethodId) (args : Array Value) (below : List Frame) (meth : Method) (c : Code)
    (bytes : ByteArray) (maxL : Nat) (ret : Option FieldType) (Z : State) (a0 : Array Value) (EL : List (String × Nat)) (own : String) (T : State) (O P : List Ent) (k n : Nat) : Prop :=
  (p.tables.exec = Jvm.exec ∧ c.code = bytes ∧ c.maxLocals = maxL ∧ meth.sig.returnType = ret ∧ meth.locks = false ∧ EW Z a0 EL ∧ (kn → s.vm.MethodsKnown ∧ s.vm.FramesKnown below)) ∧
  ∃ locs, Stand p l e R (s.setVm T.vm) m args below meth c T locs k n ∧ s.Since T.vm T.heap.size ∧ Z.Warmed39 T.vm ∧ T.vm.findClass own = some m.cls ∧ Fr Z.heap.size locs ∧
    CHr Z EL s.vm s.heap T.vm T.heap ∧ Ext Z.heap T.heap ∧ Lay Z EL T.vm T.heap O P
/-- from T with the frame g on top the invocation goes on to its end, where Q holds -/
def Go (p : Program) (e : Env) (below : List Frame) (s : State) (R : Room) (Z : State) (EL : List (String × Nat)) (Q : Option Value → List Ent → List Ent → Prop) (T : State) (g : JFrame) : Prop :=
  ∃ t o, Steps p.tables e below (T.setTop g) t ∧ t.status = .running ∧ Ended t below o ∧ ∃ v L, o = .returned v ∧ CHr Z EL s.vm s.heap t.vm t.heap ∧ ReturnedEndW s o t L R.cells R.slots ∧ Fr Z.heap.size L ∧ Ext Z.heap t.heap ∧ ∃ O P, Lay Z EL t.vm t.heap O P ∧ Q v O P
/-- the contract of a body: from the layout O, P, called with as', it returns some v and leaves O', P' with Q v O' P' -/
def Con (kn : Prop) (l : Launch) (Z : State) (EL : List (String × Nat)) (y : MethodName) (bytes : ByteArray) (maxL : Nat) (ret : Option FieldType) (ws : List Jvm.Cond) (rm : Room) (as' : Array Value) (O P : List Ent) (Q : Option Value → List Ent → List Ent → Prop) : Prop :=
  MetFree l y (head1 (Jvm.Cond.code y bytes maxL ret :: ws) rm) (fun a U => a = as' ∧ Z.Warmed39 U.vm ∧ CHv Z EL U.vm U.heap ∧ Ext Z.heap U.heap ∧ Lay Z EL U.vm U.heap O P) (fun _ _ bl s _ => kn → s.vm.MethodsKnown ∧ s.vm.FramesKnown bl)
    (fun _ U o U' => ∃ v L, o = .returned v ∧ CHr Z EL U.vm U.heap U'.vm U'.heap ∧ ReturnedEndW U o U' L rm.cells rm.slots ∧ Fr Z.heap.size L ∧ Ext Z.heap U'.heap ∧ ∃ O' P', Lay Z EL U'.vm U'.heap O' P' ∧ Q v O' P')
section WkLaws
variable {kn : Prop} {p : Program} {l : Launch} {e : Env} {R : Room} {s : State} {m : MethodId} {args : Array Value} {below : List Frame} {meth : Method} {c : Code} {bytes : ByteArray} {maxL : Nat} {ret : Option FieldType} {Z : State} {a0 : Array Value} {EL : List (String × Nat)} {own : String} {T T' : State} {O O' P P' : List Ent} {k n k' n' : Nat} {Q : Option Value → List Ent → List Ent → Prop}
theorem Wk.hx (W : Wk kn p l e R s m args below meth c bytes maxL ret Z a0 EL own T O P k n) : p.tables.exec = Jvm.exec := W.1.1
theorem Wk.hby (W : Wk kn p l e R s m args below meth c bytes maxL ret Z a0 EL own T O P k n) : c.code = bytes := W.1.2.1
theorem Wk.here (W : Wk kn p l e R s m args below meth c bytes maxL ret Z a0 EL own T O P k n) : At T m c below := by obtain ⟨-, locs, X, -⟩ := W; exact X.here
theorem Wk.lay (W : Wk kn p l e R s m args below meth c bytes maxL ret Z a0 EL own T O P k n) : Lay Z EL T.vm T.heap O P := by obtain ⟨-, locs, -, -, -, -, -, -, -, L⟩ := W; exact L
theorem Wk.old (W : Wk kn p l e R s m args below meth c bytes maxL ret Z a0 EL own T O P k n) : Ext Z.heap T.heap := by obtain ⟨-, locs, -, -, -, -, -, -, E, -⟩ := W; exact E
theorem Wk.chv (W : Wk kn p l e R s m args below meth c bytes maxL ret Z a0 EL own T O P k n) : CHv Z EL T.vm T.heap := by obtain ⟨-, locs, -, -, -, -, -, H, -⟩ := W; exact H.1
theorem Wk.hZ (W : Wk kn p l e R s m args below meth c bytes maxL ret Z a0 EL own T O P k n) : Z.Warmed39 T.vm := by obtain ⟨-, locs, -, -, H, -⟩ := W; exact H
/-- what is known of the i-th owned object -/
theorem Wk.ow (W : Wk kn p l e R s m args below meth c bytes maxL ret Z a0 EL own T O P k n) {i : Nat} {a : Addr} {φ : Cell → Prop} (hi : O[i]? = some (a, φ)) : ∃ c, T.heap[a]? = some c ∧ φ c := (W.lay.1 i _ hi).1
/-- .. and of one that nobody writes -/
theorem Wk.rd (W : Wk kn p l e R s m args below meth c bytes maxL ret Z a0 EL own T O P k n) {a : Addr} {φ : Cell → Prop} (hi : (a, φ) ∈ P) : ∃ c, T.heap[a]? = some c ∧ φ c := (W.lay.2.2 _ hi).1
theorem Wk.relay (W : Wk kn p l e R s m args below meth c bytes maxL ret Z a0 EL own T O P k n) (F : Lay Z EL T.vm T.heap O P → Lay Z EL T.vm T.heap O' P') : Wk kn p l e R s m args below meth c bytes maxL ret Z a0 EL own T O' P' k n := by
  obtain ⟨W1, locs, h1, h2, h3, h4, h5, h6, h7, h8⟩ := W; exact ⟨W1, locs, h1, h2, h3, h4, h5, h6, h7, F h8⟩
theorem Wk.share (W : Wk kn p l e R s m args below meth c bytes maxL ret Z a0 EL own T O P k n) {i : Nat} {a : Addr} {φ : Cell → Prop} (hi : O[i]? = some (a, φ)) : Wk kn p l e R s m args below meth c bytes maxL ret Z a0 EL own T (O.eraseIdx i) ((a, φ) :: P) k n := W.relay fun L => L.share hi
theorem Wk.drop (W : Wk kn p l e R s m args below meth c bytes maxL ret Z a0 EL own T O P k n) (i : Nat) : Wk kn p l e R s m args below meth c bytes maxL ret Z a0 EL own T (O.eraseIdx i) P k n := W.relay fun L => L.drop i
theorem Wk.weak (W : Wk kn p l e R s m args below meth c bytes maxL ret Z a0 EL own T O P k n) {i : Nat} {a : Addr} {φ ψ : Cell → Prop} (hi : O[i]? = some (a, φ)) (w : ∀ c, φ c → ψ c) : Wk kn p l e R s m args below meth c bytes maxL ret Z a0 EL own T (O.set i (a, ψ)) P k n := W.relay fun L => L.weak hi w
theorem Wk.fewer (W : Wk kn p l e R s m args below meth c bytes maxL ret Z a0 EL own T O P k n) (hk : k ≤ k') (hn : n ≤ n') : Wk kn p l e R s m args below meth c bytes maxL ret Z a0 EL own T O P k' n' := by
  obtain ⟨W1, locs, h1, r⟩ := W; exact ⟨W1, locs, h1.mono hk hn, r⟩
theorem own_since {s : State} {vm : Vm} {k1 k2 : Nat} (h : s.Since vm k1) (hk : k1 ≤ k2) : s.Since vm k2 := ⟨h.1, fun j p a b => ⟨(h.2 j p a b).1, Nat.lt_of_lt_of_le (h.2 j p a b).2 hk⟩⟩
/-- the general step -/
theorem Wk.core {locs' : List Loc} (W : Wk kn p l e R s m args below meth c bytes maxL ret Z a0 EL own T O P k n) (X : Stand p l e R (s.setVm T'.vm) m args below meth c T' locs' k' n') (hS : s.Since T'.vm T'.heap.size) (hZ' : Z.Warmed39 T'.vm) (hf : T'.vm.findClass own = some m.cls)
    (N : Fr Z.heap.size locs') (A : CHr Z EL T.vm T.heap T'.vm T'.heap) (E : Ext Z.heap T'.heap) (L : Lay Z EL T'.vm T'.heap O' P') : Wk kn p l e R s m args below meth c bytes maxL ret Z a0 EL own T' O' P' k' n' := by
  obtain ⟨W1, locs, -, h2, h3, h4, -, h6, -, -⟩ := W
  exact ⟨W1, locs', X, hS, hZ', hf, N, h6.trans A, E, L⟩
theorem Wk.coreS {locs' : List Loc} (W : Wk kn p l e R s m args below meth c bytes maxL ret Z a0 EL own T O P k n) (X : Stand p l e R (s.setVm T'.vm) m args below meth c T' locs' k' n') (hS : (s.setVm T.vm).Since T'.vm T'.heap.size) (hle : T.heap.size ≤ T'.heap.size)
    (N : Fr Z.heap.size locs') (A : CHr Z EL T.vm T.heap T'.vm T'.heap) (E : Ext Z.heap T'.heap) (L : Lay Z EL T'.vm T'.heap O' P') : Wk kn p l e R s m args below meth c bytes maxL ret Z a0 EL own T' O' P' k' n' := by
  obtain ⟨W1, locs, -, h2, h3, h4, -, h6, -, -⟩ := id W
  exact W.core X (h2.trans hS hle) (State.Warmed39.trans (t := s.setVm T.vm) h3 hS.1) (by rw [hS.1.alike.findClass]; exact h4) N A E L
/-- .. where the tables only warm -/
theorem Wk.warm {locs' : List Loc} (W : Wk kn p l e R s m args below meth c bytes maxL ret Z a0 EL own T O P k n) (X : Stand p l e R (s.setVm T.vm) m args below meth c T' locs' k' n') (hle : T.heap.size ≤ T'.heap.size)
    (N : Fr Z.heap.size locs') (A : CHr Z EL T'.vm T.heap T'.vm T'.heap) (E : Ext Z.heap T'.heap) (L : Lay Z EL T'.vm T.heap O P → Lay Z EL T'.vm T'.heap O' P') : Wk kn p l e R s m args below meth c bytes maxL ret Z a0 EL own T' O' P' k' n' := by
  have B : CHr Z EL T.vm T.heap T'.vm T.heap := CHv.at X W.hZ W.1.2.2.2.2.2.1 W.chv
  exact W.coreS (X.retabled X.warmed.wide) (X.warmed.since _) hle N (B.trans A) E (L (W.lay.mono B ⟨Nat.le_refl _, fun _ _ q => q⟩))
theorem Wk.chv' {locs' : List Loc} (W : Wk kn p l e R s m args below meth c bytes maxL ret Z a0 EL own T O P k n) (X : Stand p l e R (s.setVm T.vm) m args below meth c T' locs' k' n') : CHv Z EL T'.vm T.heap := (CHv.at X W.hZ W.1.2.2.2.2.2.1 W.chv).1
/-- the tables warm, the heap is what it was -/
theorem Wk.same {locs' : List Loc} (W : Wk kn p l e R s m args below meth c bytes maxL ret Z a0 EL own T O P k n) (X : Stand p l e R (s.setVm T.vm) m args below meth c T' locs' k' n') (hh : T'.heap = T.heap) (N : Fr Z.heap.size locs') : Wk kn p l e R s m args below meth c bytes maxL ret Z a0 EL own T' O P k' n' :=
  W.warm X (by rw [hh]; exact Nat.le_refl _) N (by rw [hh]; exact CHr.refl (W.chv' X)) (by rw [hh]; exact W.old) (fun L => by rw [hh]; exact L)
/-- a new cell -/
theorem Wk.made {locs' : List Loc} (W : Wk kn p l e R s m args below meth c bytes maxL ret Z a0 EL own T O P k n) (X : Stand p l e R (s.setVm T.vm) m args below meth c T' locs' k' n') (E : Ext T.heap T'.heap) (N : Fr Z.heap.size locs') {φ : Cell → Prop} (hc : ∃ c, T'.heap[T.heap.size]? = some c ∧ φ c) :
    Wk kn p l e R s m args below meth c bytes maxL ret Z a0 EL own T' ((T.heap.size, φ) :: O) P k' n' := by
  have H := W.chv' X
  have A : CHr Z EL T'.vm T.heap T'.vm T'.heap := CHr.ext E H
  have hs : Safe Z EL T'.vm T'.heap T.heap.size := Safe.ext E H (Safe.new (Nat.le_refl _))
  refine W.warm X E.1 N A ⟨Nat.le_trans W.old.1 E.1, fun a c q => E.2 _ _ (W.old.2 _ _ q)⟩ fun L => (L.mono A E).new hc W.old.1 hs (fun i x q z => ?_) (fun y q z => ?_)
  · exact absurd z (Nat.ne_of_lt (L.lt q))
  · obtain ⟨⟨c, q1, -⟩, -⟩ := L.2.2 y q
    exact absurd z (Nat.ne_of_lt (Array.getElem?_eq_some_iff.mp q1).1)
/-- one owned cell changes -/
theorem Wk.wrote {locs' : List Loc} (W : Wk kn p l e R s m args below meth c bytes maxL ret Z a0 EL own T O P k n) (X : Stand p l e R (s.setVm T.vm) m args below meth c T' locs' k' n') {a : Addr} {i : Nat} {φ ψ : Cell → Prop} (hi : O[i]? = some (a, φ)) (K : Keep T.heap T'.heap [a]) (N : Fr Z.heap.size locs') (hc : ∃ c, T'.heap[a]? = some c ∧ ψ c) :
    Wk kn p l e R s m args below meth c bytes maxL ret Z a0 EL own T' (O.set i (a, ψ)) P k' n' := by
  have H := W.chv' X
  have B : CHr Z EL T.vm T.heap T'.vm T.heap := CHv.at X W.hZ W.1.2.2.2.2.2.1 W.chv
  have hs := (W.lay.mono B ⟨Nat.le_refl _, fun _ _ q => q⟩).1 i _ hi
  have A : CHr Z EL T'.vm T.heap T'.vm T'.heap := CHr.keep K (sfS hs.2.2 sf0) H
  have E := W.old
  refine W.warm X K.1 N A ⟨Nat.le_trans E.1 K.1, fun b c q => K.2.1 _ _ (E.2 _ _ q) fun z => ?_⟩ fun L => L.keep1 A K hi hc
  cases List.mem_singleton.mp z
  have := (Array.getElem?_eq_some_iff.mp q).1
  have := hs.2.1
  omega
theorem Wk.fr (W : Wk kn p l e R s m args below meth c bytes maxL ret Z a0 EL own T O P k n) {i : Nat} {a : Addr} {φ : Cell → Prop} (hi : O[i]? = some (a, φ)) : Z.heap.size ≤ a := (W.lay.1 i _ hi).2.1
theorem Wk.ne (W : Wk kn p l e R s m args below meth c bytes maxL ret Z a0 EL own T O P k n) {i : Nat} {a b : Addr} {φ ψ : Cell → Prop} (hi : O[i]? = some (a, φ)) (hb : (b, ψ) ∈ P) : a ≠ b := (W.lay.2.2 _ hb).2 i _ hi
end WkLaws
end OwnBase
section OwnSteps
variable {kn : Prop} {p : Program} {l : Launch} {e : Env} {R : Room} {s : State} {m : MethodId} {args : Array Value} {below : List Frame} {meth : Method} {c : Code} {bytes : ByteArray} {maxL : Nat} {ret : Option FieldType} {Z : State} {a0 : Array Value} {EL : List (String × Nat)} {own : String} {T T' : State} {O O' P P' : List Ent} {k n k' n' : Nat} {Q : Option Value → List Ent → List Ent → Prop} {g g' : JFrame} {pc q : Nat} {L : Array Slot} {S : List Value}
theorem Go.step (h : ∀ t, Steps p.tables e below (T'.setTop g') t → Steps p.tables e below (T.setTop g) t) (K : Go p e below s R Z EL Q T' g') : Go p e below s R Z EL Q T g := by
  obtain ⟨t, o, h1, r⟩ := K; exact ⟨t, o, h _ h1, r⟩
theorem Go.back (h : Steps p.tables e below (T.setTop g) (T'.setTop g')) (K : Go p e below s R Z EL Q T' g') : Go p e below s R Z EL Q T g := K.step fun _ hr => h.trans hr
theorem g_iloadN (W : Wk kn p l e R s m args below meth c bytes maxL ret Z a0 EL own T O P k n) {j : Fin 4} {x : Int32} (hd : decode bytes pc = .ok (.iload_n j, 1)) (hl : L[j.val]? = some (.val (.int x))) (hq : pc + 1 = q) (K : Go p e below s R Z EL Q T (mkF m q L (.int x :: S))) : Go p e below s R Z EL Q T (mkF m pc L S) := by subst hq; exact K.step fun t hr => XS.iloadN W.here W.hx rfl (hb W.hby hd) hl hr
theorem g_iload (W : Wk kn p l e R s m args below meth c bytes maxL ret Z a0 EL own T O P k n) {j : Nat} {x : Int32} (hd : decode bytes pc = .ok (.iload j, 2)) (hl : L[j]? = some (.val (.int x))) (hq : pc + 2 = q) (K : Go p e below s R Z EL Q T (mkF m q L (.int x :: S))) : Go p e below s R Z EL Q T (mkF m pc L S) := by subst hq; exact K.step fun t hr => XS.iload W.here W.hx rfl (hb W.hby hd) hl hr
theorem g_lloadN (W : Wk kn p l e R s m args below meth c bytes maxL ret Z a0 EL own T O P k n) {j : Fin 4} {x : Int64} (hd : decode bytes pc = .ok (.lload_n j, 1)) (hl : L[j.val]? = some (.val (.long x))) (hq : pc + 1 = q) (K : Go p e below s R Z EL Q T (mkF m q L (.long x :: S))) : Go p e below s R Z EL Q T (mkF m pc L S) := by subst hq; exact K.step fun t hr => XT.lloadN W.here W.hx rfl (hb W.hby hd) hl hr
theorem g_lload (W : Wk kn p l e R s m args below meth c bytes maxL ret Z a0 EL own T O P k n) {j : Nat} {x : Int64} (hd : decode bytes pc = .ok (.lload j, 2)) (hl : L[j]? = some (.val (.long x))) (hq : pc + 2 = q) (K : Go p e below s R Z EL Q T (mkF m q L (.long x :: S))) : Go p e below s R Z EL Q T (mkF m pc L S) := by subst hq; exact K.step fun t hr => XT.lload W.here W.hx rfl (hb W.hby hd) hl hr
theorem g_aloadN (W : Wk kn p l e R s m args below meth c bytes maxL ret Z a0 EL own T O P k n) {j : Fin 4} {x : Value} (hd : decode bytes pc = .ok (.aload_n j, 1)) (hl : L[j.val]? = some (.val x)) (hv : x.isRef = true) (hq : pc + 1 = q) (K : Go p e below s R Z EL Q T (mkF m q L (x :: S))) : Go p e below s R Z EL Q T (mkF m pc L S) := by subst hq; exact K.step fun t hr => XS.aloadN W.here W.hx rfl (hb W.hby hd) hl hv hr
theorem g_aload (W : Wk kn p l e R s m args below meth c bytes maxL ret Z a0 EL own T O P k n) {j : Nat} {x : Value} (hd : decode bytes pc = .ok (.aload j, 2)) (hl : L[j]? = some (.val x)) (hv : x.isRef = true) (hq : pc + 2 = q) (K : Go p e below s R Z EL Q T (mkF m q L (x :: S))) : Go p e below s R Z EL Q T (mkF m pc L S) := by subst hq; exact K.step fun t hr => XS.aload W.here W.hx rfl (hb W.hby hd) hl hv hr
theorem g_istoreN (W : Wk kn p l e R s m args below meth c bytes maxL ret Z a0 EL own T O P k n) {j : Fin 4} {x : Int32} {L' : Array Slot} (hd : decode bytes pc = .ok (.istore_n j, 1)) (hl : storeLocals L j.val (.int x) = some L') (hq : pc + 1 = q) (K : Go p e below s R Z EL Q T (mkF m q L' S)) : Go p e below s R Z EL Q T (mkF m pc L (.int x :: S)) := by subst hq; exact K.step fun t hr => XS.istoreN W.here W.hx rfl (hb W.hby hd) rfl hl hr
theorem g_istore (W : Wk kn p l e R s m args below meth c bytes maxL ret Z a0 EL own T O P k n) {j : Nat} {x : Int32} {L' : Array Slot} (hd : decode bytes pc = .ok (.istore j, 2)) (hl : storeLocals L j (.int x) = some L') (hq : pc + 2 = q) (K : Go p e below s R Z EL Q T (mkF m q L' S)) : Go p e below s R Z EL Q T (mkF m pc L (.int x :: S)) := by subst hq; exact K.step fun t hr => XS.istore W.here W.hx rfl (hb W.hby hd) rfl hl hr
theorem g_lstoreN (W : Wk kn p l e R s m args below meth c bytes maxL ret Z a0 EL own T O P k n) {j : Fin 4} {x : Int64} {L' : Array Slot} (hd : decode bytes pc = .ok (.lstore_n j, 1)) (hl : storeLocals L j.val (.long x) = some L') (hq : pc + 1 = q) (K : Go p e below s R Z EL Q T (mkF m q L' S)) : Go p e below s R Z EL Q T (mkF m pc L (.long x :: S)) := by subst hq; exact K.step fun t hr => XT.lstoreN W.here W.hx rfl (hb W.hby hd) rfl hl hr
theorem g_lstore (W : Wk kn p l e R s m args below meth c bytes maxL ret Z a0 EL own T O P k n) {j : Nat} {x : Int64} {L' : Array Slot} (hd : decode bytes pc = .ok (.lstore j, 2)) (hl : storeLocals L j (.long x) = some L') (hq : pc + 2 = q) (K : Go p e below s R Z EL Q T (mkF m q L' S)) : Go p e below s R Z EL Q T (mkF m pc L (.long x :: S)) := by subst hq; exact K.step fun t hr => XT.lstore W.here W.hx rfl (hb W.hby hd) rfl hl hr
theorem g_astoreN (W : Wk kn p l e R s m args below meth c bytes maxL ret Z a0 EL own T O P k n) {j : Fin 4} {x : Value} {L' : Array Slot} (hd : decode bytes pc = .ok (.astore_n j, 1)) (hv : x.isRef = true) (hl : storeLocals L j.val x = some L') (hq : pc + 1 = q) (K : Go p e below s R Z EL Q T (mkF m q L' S)) : Go p e below s R Z EL Q T (mkF m pc L (x :: S)) := by subst hq; exact K.step fun t hr => XS.astoreN W.here W.hx rfl (hb W.hby hd) rfl hv hl hr
theorem g_astore (W : Wk kn p l e R s m args below meth c bytes maxL ret Z a0 EL own T O P k n) {j : Nat} {x : Value} {L' : Array Slot} (hd : decode bytes pc = .ok (.astore j, 2)) (hv : x.isRef = true) (hl : storeLocals L j x = some L') (hq : pc + 2 = q) (K : Go p e below s R Z EL Q T (mkF m q L' S)) : Go p e below s R Z EL Q T (mkF m pc L (x :: S)) := by subst hq; exact K.step fun t hr => XS.astore W.here W.hx rfl (hb W.hby hd) rfl hv hl hr
theorem g_iconst (W : Wk kn p l e R s m args below meth c bytes maxL ret Z a0 EL own T O P k n) {i : Int} {v : Int32} (hd : decode bytes pc = .ok (.iconst i, 1)) (hv : Int32.ofInt i = v) (hq : pc + 1 = q) (K : Go p e below s R Z EL Q T (mkF m q L (.int v :: S))) : Go p e below s R Z EL Q T (mkF m pc L S) := by subst hq; exact K.step fun t hr => XS.iconst W.here W.hx rfl (hb W.hby hd) (hv ▸ hr)
theorem g_bipush (W : Wk kn p l e R s m args below meth c bytes maxL ret Z a0 EL own T O P k n) {i : Int} {v : Int32} (hd : decode bytes pc = .ok (.bipush i, 2)) (hv : (Int8.ofInt i).toInt32 = v) (hq : pc + 2 = q) (K : Go p e below s R Z EL Q T (mkF m q L (.int v :: S))) : Go p e below s R Z EL Q T (mkF m pc L S) := by subst hq; exact K.step fun t hr => XS.bipush W.here W.hx rfl (hb W.hby hd) (hv ▸ hr)
theorem g_sipush (W : Wk kn p l e R s m args below meth c bytes maxL ret Z a0 EL own T O P k n) {i : Int} {v : Int32} (hd : decode bytes pc = .ok (.sipush i, 3)) (hv : (Int16.ofInt i).toInt32 = v) (hq : pc + 3 = q) (K : Go p e below s R Z EL Q T (mkF m q L (.int v :: S))) : Go p e below s R Z EL Q T (mkF m pc L S) := by subst hq; exact K.step fun t hr => XS.sipush W.here W.hx rfl (hb W.hby hd) (hv ▸ hr)
theorem g_lconst (W : Wk kn p l e R s m args below meth c bytes maxL ret Z a0 EL own T O P k n) {i : Fin 2} {v : Int64} (hd : decode bytes pc = .ok (.lconst i, 1)) (hv : Int64.ofNat i = v) (hq : pc + 1 = q) (K : Go p e below s R Z EL Q T (mkF m q L (.long v :: S))) : Go p e below s R Z EL Q T (mkF m pc L S) := by subst hq; exact K.step fun t hr => XT.lconst W.here W.hx rfl (hb W.hby hd) (hv ▸ hr)
theorem g_null (W : Wk kn p l e R s m args below meth c bytes maxL ret Z a0 EL own T O P k n)  (hd : decode bytes pc = .ok (.aconst_null, 1))  (hq : pc + 1 = q) (K : Go p e below s R Z EL Q T (mkF m q L (.null :: S))) : Go p e below s R Z EL Q T (mkF m pc L S) := by subst hq; exact K.step fun t hr => XS.aconstNull W.here W.hx rfl (hb W.hby hd) hr
theorem g_iadd (W : Wk kn p l e R s m args below meth c bytes maxL ret Z a0 EL own T O P k n) {x y z : Int32} (hd : decode bytes pc = .ok (.iadd, 1)) (hz : x + y = z) (hq : pc + 1 = q) (K : Go p e below s R Z EL Q T (mkF m q L (.int z :: S))) : Go p e below s R Z EL Q T (mkF m pc L (.int y :: .int x :: S)) := by subst hq; exact K.step fun t hr => XS.iadd W.here W.hx rfl (hb W.hby hd) rfl (hz ▸ hr)
theorem g_isub (W : Wk kn p l e R s m args below meth c bytes maxL ret Z a0 EL own T O P k n) {x y z : Int32} (hd : decode bytes pc = .ok (.isub, 1)) (hz : x - y = z) (hq : pc + 1 = q) (K : Go p e below s R Z EL Q T (mkF m q L (.int z :: S))) : Go p e below s R Z EL Q T (mkF m pc L (.int y :: .int x :: S)) := by subst hq; exact K.step fun t hr => XS.isub W.here W.hx rfl (hb W.hby hd) rfl (hz ▸ hr)
theorem g_iand (W : Wk kn p l e R s m args below meth c bytes maxL ret Z a0 EL own T O P k n) {x y z : Int32} (hd : decode bytes pc = .ok (.iand, 1)) (hz : x &&& y = z) (hq : pc + 1 = q) (K : Go p e below s R Z EL Q T (mkF m q L (.int z :: S))) : Go p e below s R Z EL Q T (mkF m pc L (.int y :: .int x :: S)) := by subst hq; exact K.step fun t hr => XS.iand W.here W.hx rfl (hb W.hby hd) rfl (hz ▸ hr)
theorem g_imul (W : Wk kn p l e R s m args below meth c bytes maxL ret Z a0 EL own T O P k n) {x y z : Int32} (hd : decode bytes pc = .ok (.imul, 1)) (hz : x * y = z) (hq : pc + 1 = q) (K : Go p e below s R Z EL Q T (mkF m q L (.int z :: S))) : Go p e below s R Z EL Q T (mkF m pc L (.int y :: .int x :: S)) := by subst hq; exact K.step fun t hr => XS.imul W.here W.hx rfl (hb W.hby hd) rfl (hz ▸ hr)
theorem g_ixor (W : Wk kn p l e R s m args below meth c bytes maxL ret Z a0 EL own T O P k n) {x y z : Int32} (hd : decode bytes pc = .ok (.ixor, 1)) (hz : x ^^^ y = z) (hq : pc + 1 = q) (K : Go p e below s R Z EL Q T (mkF m q L (.int z :: S))) : Go p e below s R Z EL Q T (mkF m pc L (.int y :: .int x :: S)) := by subst hq; exact K.step fun t hr => XT.ixor W.here W.hx rfl (hb W.hby hd) rfl (hz ▸ hr)
theorem g_ior (W : Wk kn p l e R s m args below meth c bytes maxL ret Z a0 EL own T O P k n) {x y z : Int32} (hd : decode bytes pc = .ok (.ior, 1)) (hz : x ||| y = z) (hq : pc + 1 = q) (K : Go p e below s R Z EL Q T (mkF m q L (.int z :: S))) : Go p e below s R Z EL Q T (mkF m pc L (.int y :: .int x :: S)) := by subst hq; exact K.step fun t hr => XT.ior W.here W.hx rfl (hb W.hby hd) rfl (hz ▸ hr)
theorem g_ishl (W : Wk kn p l e R s m args below meth c bytes maxL ret Z a0 EL own T O P k n) {x y z : Int32} (hd : decode bytes pc = .ok (.ishl, 1)) (hz : x <<< (y &&& 31) = z) (hq : pc + 1 = q) (K : Go p e below s R Z EL Q T (mkF m q L (.int z :: S))) : Go p e below s R Z EL Q T (mkF m pc L (.int y :: .int x :: S)) := by subst hq; exact K.step fun t hr => XT.ishl W.here W.hx rfl (hb W.hby hd) rfl (hz ▸ hr)
theorem g_ishr (W : Wk kn p l e R s m args below meth c bytes maxL ret Z a0 EL own T O P k n) {x y z : Int32} (hd : decode bytes pc = .ok (.ishr, 1)) (hz : x >>> (y &&& 31) = z) (hq : pc + 1 = q) (K : Go p e below s R Z EL Q T (mkF m q L (.int z :: S))) : Go p e below s R Z EL Q T (mkF m pc L (.int y :: .int x :: S)) := by subst hq; exact K.step fun t hr => XT.ishr W.here W.hx rfl (hb W.hby hd) rfl (hz ▸ hr)
theorem g_iushr (W : Wk kn p l e R s m args below meth c bytes maxL ret Z a0 EL own T O P k n) {x y z : Int32} (hd : decode bytes pc = .ok (.iushr, 1)) (hz : XT.ushr x y = z) (hq : pc + 1 = q) (K : Go p e below s R Z EL Q T (mkF m q L (.int z :: S))) : Go p e below s R Z EL Q T (mkF m pc L (.int y :: .int x :: S)) := by subst hq; exact K.step fun t hr => XT.iushr W.here W.hx rfl (hb W.hby hd) rfl (hz ▸ hr)
theorem g_irem (W : Wk kn p l e R s m args below meth c bytes maxL ret Z a0 EL own T O P k n) {x y z : Int32} (hd : decode bytes pc = .ok (.irem, 1)) (hy : y ≠ 0) (hz : x % y = z) (hq : pc + 1 = q) (K : Go p e below s R Z EL Q T (mkF m q L (.int z :: S))) : Go p e below s R Z EL Q T (mkF m pc L (.int y :: .int x :: S)) := by subst hq; exact K.step fun t hr => XS.irem W.here W.hx rfl (hb W.hby hd) rfl hy (by rw [show x - x / y * y = z from (irem_eq_mod x y).trans hz]; exact hr)
theorem g_land (W : Wk kn p l e R s m args below meth c bytes maxL ret Z a0 EL own T O P k n) {x y z : Int64} (hd : decode bytes pc = .ok (.land, 1)) (hz : x &&& y = z) (hq : pc + 1 = q) (K : Go p e below s R Z EL Q T (mkF m q L (.long z :: S))) : Go p e below s R Z EL Q T (mkF m pc L (.long y :: .long x :: S)) := by subst hq; exact K.step fun t hr => XT.land W.here W.hx rfl (hb W.hby hd) rfl (hz ▸ hr)
theorem g_lor (W : Wk kn p l e R s m args below meth c bytes maxL ret Z a0 EL own T O P k n) {x y z : Int64} (hd : decode bytes pc = .ok (.lor, 1)) (hz : x ||| y = z) (hq : pc + 1 = q) (K : Go p e below s R Z EL Q T (mkF m q L (.long z :: S))) : Go p e below s R Z EL Q T (mkF m pc L (.long y :: .long x :: S)) := by subst hq; exact K.step fun t hr => XT.lor W.here W.hx rfl (hb W.hby hd) rfl (hz ▸ hr)
theorem g_ladd (W : Wk kn p l e R s m args below meth c bytes maxL ret Z a0 EL own T O P k n) {x y z : Int64} (hd : decode bytes pc = .ok (.ladd, 1)) (hz : x + y = z) (hq : pc + 1 = q) (K : Go p e below s R Z EL Q T (mkF m q L (.long z :: S))) : Go p e below s R Z EL Q T (mkF m pc L (.long y :: .long x :: S)) := by subst hq; exact K.step fun t hr => XT.ladd W.here W.hx rfl (hb W.hby hd) rfl (hz ▸ hr)
theorem g_lushr (W : Wk kn p l e R s m args below meth c bytes maxL ret Z a0 EL own T O P k n) {x z : Int64} {y : Int32} (hd : decode bytes pc = .ok (.lushr, 1)) (hz : XT.ushrL x y = z) (hq : pc + 1 = q) (K : Go p e below s R Z EL Q T (mkF m q L (.long z :: S))) : Go p e below s R Z EL Q T (mkF m pc L (.int y :: .long x :: S)) := by subst hq; exact K.step fun t hr => XT.lushr W.here W.hx rfl (hb W.hby hd) rfl (hz ▸ hr)
theorem g_l2i (W : Wk kn p l e R s m args below meth c bytes maxL ret Z a0 EL own T O P k n) {x : Int64} {z : Int32} (hd : decode bytes pc = .ok (.l2i, 1)) (hz : x.toInt32 = z) (hq : pc + 1 = q) (K : Go p e below s R Z EL Q T (mkF m q L (.int z :: S))) : Go p e below s R Z EL Q T (mkF m pc L (.long x :: S)) := by subst hq; exact K.step fun t hr => XT.l2i W.here W.hx rfl (hb W.hby hd) rfl (hz ▸ hr)
theorem g_i2l (W : Wk kn p l e R s m args below meth c bytes maxL ret Z a0 EL own T O P k n) {x : Int32} {z : Int64} (hd : decode bytes pc = .ok (.i2l, 1)) (hz : x.toInt64 = z) (hq : pc + 1 = q) (K : Go p e below s R Z EL Q T (mkF m q L (.long z :: S))) : Go p e below s R Z EL Q T (mkF m pc L (.int x :: S)) := by subst hq; exact K.step fun t hr => XT.i2l W.here W.hx rfl (hb W.hby hd) rfl (hz ▸ hr)
theorem g_lcmp (W : Wk kn p l e R s m args below meth c bytes maxL ret Z a0 EL own T O P k n) {x y : Int64} {z : Int32} (hd : decode bytes pc = .ok (.lcmp, 1)) (hz : XT.cmpL x y = z) (hq : pc + 1 = q) (K : Go p e below s R Z EL Q T (mkF m q L (.int z :: S))) : Go p e below s R Z EL Q T (mkF m pc L (.long y :: .long x :: S)) := by subst hq; exact K.step fun t hr => XT.lcmp W.here W.hx rfl (hb W.hby hd) rfl (hz ▸ hr)
theorem g_i2b (W : Wk kn p l e R s m args below meth c bytes maxL ret Z a0 EL own T O P k n) {x z : Int32} (hd : decode bytes pc = .ok (.i2b, 1)) (hz : x.toInt8.toInt32 = z) (hq : pc + 1 = q) (K : Go p e below s R Z EL Q T (mkF m q L (.int z :: S))) : Go p e below s R Z EL Q T (mkF m pc L (.int x :: S)) := by subst hq; exact K.step fun t hr => XT.i2b W.here W.hx rfl (hb W.hby hd) rfl (hz ▸ hr)
theorem g_i2c (W : Wk kn p l e R s m args below meth c bytes maxL ret Z a0 EL own T O P k n) {x z : Int32} (hd : decode bytes pc = .ok (.i2c, 1)) (hz : x.toUInt32.toUInt16.toUInt32.toInt32 = z) (hq : pc + 1 = q) (K : Go p e below s R Z EL Q T (mkF m q L (.int z :: S))) : Go p e below s R Z EL Q T (mkF m pc L (.int x :: S)) := by subst hq; exact K.step fun t hr => XT.i2c W.here W.hx rfl (hb W.hby hd) rfl (hz ▸ hr)
theorem g_dup (W : Wk kn p l e R s m args below meth c bytes maxL ret Z a0 EL own T O P k n) {x : Value} (hd : decode bytes pc = .ok (.dup, 1)) (hc : x.category = 1) (hq : pc + 1 = q) (K : Go p e below s R Z EL Q T (mkF m q L (x :: x :: S))) : Go p e below s R Z EL Q T (mkF m pc L (x :: S)) := by subst hq; exact K.step fun t hr => XS.dup W.here W.hx rfl (hb W.hby hd) rfl hc hr
theorem g_dupX1 (W : Wk kn p l e R s m args below meth c bytes maxL ret Z a0 EL own T O P k n) {x y : Value} (hd : decode bytes pc = .ok (.dup_x1, 1)) (hc : x.category = 1) (hc' : y.category = 1) (hq : pc + 1 = q) (K : Go p e below s R Z EL Q T (mkF m q L (x :: y :: x :: S))) : Go p e below s R Z EL Q T (mkF m pc L (x :: y :: S)) := by subst hq; exact K.step fun t hr => XT.dupX1 W.here W.hx rfl (hb W.hby hd) rfl hc hc' hr
theorem g_pop (W : Wk kn p l e R s m args below meth c bytes maxL ret Z a0 EL own T O P k n) {x : Value} (hd : decode bytes pc = .ok (.pop, 1)) (hc : x.category = 1) (hq : pc + 1 = q) (K : Go p e below s R Z EL Q T (mkF m q L S)) : Go p e below s R Z EL Q T (mkF m pc L (x :: S)) := by subst hq; exact K.step fun t hr => XT.pop W.here W.hx rfl (hb W.hby hd) rfl hc hr
theorem g_iinc (W : Wk kn p l e R s m args below meth c bytes maxL ret Z a0 EL own T O P k n) {j : Nat} {cst : Int} {x z : Int32} {L' : Array Slot} (hd : decode bytes pc = .ok (.iinc j cst, 3)) (hl : L[j]? = some (.val (.int x))) (hz : x + Int32.ofInt cst = z) (hl' : storeLocals L j (.int z) = some L') (hq : pc + 3 = q) (K : Go p e below s R Z EL Q T (mkF m q L' S)) : Go p e below s R Z EL Q T (mkF m pc L S) := by subst hq; exact K.step fun t hr => XS.iinc W.here W.hx rfl (hb W.hby hd) hl (hz.symm ▸ hl') hr
theorem g_goto (W : Wk kn p l e R s m args below meth c bytes maxL ret Z a0 EL own T O P k n) {o : Int} (hd : decode bytes pc = .ok (.goto o, 3))  (ho : 0 ≤ (pc : Int) + o) (hq : ((pc : Int) + o).toNat = q) (K : Go p e below s R Z EL Q T (mkF m q L S)) : Go p e below s R Z EL Q T (mkF m pc L S) := by subst hq; exact K.step fun t hr => XS.goto W.here W.hx rfl (pc0 := pc) rfl (hb W.hby hd) ho rfl hr
theorem g_ifY (W : Wk kn p l e R s m args below meth c bytes maxL ret Z a0 EL own T O P k n) {o : Int} {cd : ClassFile.Cond} {x : Int32} (hd : decode bytes pc = .ok (.ifCond cd o, 3)) (hc : ifCond.holds cd x = true) (ho : 0 ≤ (pc : Int) + o) (hq : ((pc : Int) + o).toNat = q) (K : Go p e below s R Z EL Q T (mkF m q L S)) : Go p e below s R Z EL Q T (mkF m pc L (.int x :: S)) := by subst hq; exact K.step fun t hr => XS.ifYes W.here W.hx rfl (pc0 := pc) rfl (hb W.hby hd) rfl hc ho rfl hr
theorem g_ifN (W : Wk kn p l e R s m args below meth c bytes maxL ret Z a0 EL own T O P k n) {o : Int} {cd : ClassFile.Cond} {x : Int32} (hd : decode bytes pc = .ok (.ifCond cd o, 3)) (hc : ifCond.holds cd x = false) (hq : pc + 3 = q) (K : Go p e below s R Z EL Q T (mkF m q L S)) : Go p e below s R Z EL Q T (mkF m pc L (.int x :: S)) := by subst hq; exact K.step fun t hr => XS.ifNo W.here W.hx rfl (hb W.hby hd) rfl hc hr
theorem g_icY (W : Wk kn p l e R s m args below meth c bytes maxL ret Z a0 EL own T O P k n) {o : Int} {cd : ClassFile.Cond} {x y : Int32} (hd : decode bytes pc = .ok (.if_icmp cd o, 3)) (hc : if_icmp.holds cd x y = true) (ho : 0 ≤ (pc : Int) + o) (hq : ((pc : Int) + o).toNat = q) (K : Go p e below s R Z EL Q T (mkF m q L S)) : Go p e below s R Z EL Q T (mkF m pc L (.int y :: .int x :: S)) := by subst hq; exact K.step fun t hr => XS.icmpYes W.here W.hx rfl (pc0 := pc) rfl (hb W.hby hd) rfl hc ho rfl hr
theorem g_icN (W : Wk kn p l e R s m args below meth c bytes maxL ret Z a0 EL own T O P k n) {o : Int} {cd : ClassFile.Cond} {x y : Int32} (hd : decode bytes pc = .ok (.if_icmp cd o, 3)) (hc : if_icmp.holds cd x y = false) (hq : pc + 3 = q) (K : Go p e below s R Z EL Q T (mkF m q L S)) : Go p e below s R Z EL Q T (mkF m pc L (.int y :: .int x :: S)) := by subst hq; exact K.step fun t hr => XS.icmpNo W.here W.hx rfl (hb W.hby hd) rfl hc hr
theorem g_acY (W : Wk kn p l e R s m args below meth c bytes maxL ret Z a0 EL own T O P k n) {o : Int} {cd : ClassFile.ACond} {x y : Value} (hd : decode bytes pc = .ok (.if_acmp cd o, 3)) (h1 : x.isRef = true) (h2 : y.isRef = true) (hc : XT.acmp cd x y = true) (ho : 0 ≤ (pc : Int) + o) (hq : ((pc : Int) + o).toNat = q) (K : Go p e below s R Z EL Q T (mkF m q L S)) : Go p e below s R Z EL Q T (mkF m pc L (y :: x :: S)) := by subst hq; exact K.step fun t hr => XT.acmpYes W.here W.hx rfl (pc0 := pc) rfl (hb W.hby hd) rfl h1 h2 hc ho rfl hr
theorem g_acN (W : Wk kn p l e R s m args below meth c bytes maxL ret Z a0 EL own T O P k n) {o : Int} {cd : ClassFile.ACond} {x y : Value} (hd : decode bytes pc = .ok (.if_acmp cd o, 3)) (h1 : x.isRef = true) (h2 : y.isRef = true) (hc : XT.acmp cd x y = false) (hq : pc + 3 = q) (K : Go p e below s R Z EL Q T (mkF m q L S)) : Go p e below s R Z EL Q T (mkF m pc L (y :: x :: S)) := by subst hq; exact K.step fun t hr => XT.acmpNo W.here W.hx rfl (hb W.hby hd) rfl h1 h2 hc hr
theorem g_nullY (W : Wk kn p l e R s m args below meth c bytes maxL ret Z a0 EL own T O P k n) {o : Int} (hd : decode bytes pc = .ok (.ifnull o, 3))  (ho : 0 ≤ (pc : Int) + o) (hq : ((pc : Int) + o).toNat = q) (K : Go p e below s R Z EL Q T (mkF m q L S)) : Go p e below s R Z EL Q T (mkF m pc L (.null :: S)) := by subst hq; exact K.step fun t hr => XS.ifnullYes W.here W.hx rfl (pc0 := pc) rfl (hb W.hby hd) rfl ho rfl hr
theorem g_nullN (W : Wk kn p l e R s m args below meth c bytes maxL ret Z a0 EL own T O P k n) {o : Int} {b : Addr} (hd : decode bytes pc = .ok (.ifnull o, 3))  (hq : pc + 3 = q) (K : Go p e below s R Z EL Q T (mkF m q L S)) : Go p e below s R Z EL Q T (mkF m pc L (.ref b :: S)) := by subst hq; exact K.step fun t hr => XS.ifnullNo W.here W.hx rfl (hb W.hby hd) rfl hr
theorem g_nonnullY (W : Wk kn p l e R s m args below meth c bytes maxL ret Z a0 EL own T O P k n) {o : Int} {b : Addr} (hd : decode bytes pc = .ok (.ifnonnull o, 3))  (ho : 0 ≤ (pc : Int) + o) (hq : ((pc : Int) + o).toNat = q) (K : Go p e below s R Z EL Q T (mkF m q L S)) : Go p e below s R Z EL Q T (mkF m pc L (.ref b :: S)) := by subst hq; exact K.step fun t hr => XT.ifnonnullYes W.here W.hx rfl (pc0 := pc) rfl (hb W.hby hd) rfl ho rfl hr
theorem g_nonnullN (W : Wk kn p l e R s m args below meth c bytes maxL ret Z a0 EL own T O P k n) {o : Int} (hd : decode bytes pc = .ok (.ifnonnull o, 3))  (hq : pc + 3 = q) (K : Go p e below s R Z EL Q T (mkF m q L S)) : Go p e below s R Z EL Q T (mkF m pc L (.null :: S)) := by subst hq; exact K.step fun t hr => XT.ifnonnullNo W.here W.hx rfl (hb W.hby hd) rfl hr
theorem g_ldcI (W : Wk kn p l e R s m args below meth c bytes maxL ret Z a0 EL own T O P k n) {index : Nat} {v : Int32} (w : (Jvm.Cond.constant own index v).before a0 Z = true) (hd : decode bytes pc = .ok (.ldc index, 2)) (hq : pc + 2 = q) (K : Go p e below s R Z EL Q T (mkF m q L (.int v :: S))) : Go p e below s R Z EL Q T (mkF m pc L S) := by
  subst hq
  obtain ⟨⟨hx, hby, -⟩, locs, X, -, hZ, hown, -⟩ := W
  exact K.step fun t hr => Stand.ldcI X hx (own := own) hown (mv (s := s.setVm T.vm) hZ w) rfl (hb hby hd) hr
theorem g_getF (W : Wk kn p l e R s m args below meth c bytes maxL ret Z a0 EL own T O P k n) {index i : Nat} {a : Addr} {C F nm d : String} {sh : Shape} {vs : List Value} {v : Value} (hK : ∃ c, T.heap[a]? = some c ∧ ObjC Z C sh vs c) (hs : sh[i]? = some (F, nm, d)) (hv : vs[i]? = some v) (w : (Jvm.Cond.fieldLink own index F nm d).before a0 Z = true)
    (hd : decode bytes pc = .ok (.getfield index, 3)) (hq : pc + 3 = q) (K : ∀ T', Wk kn p l e R s m args below meth c bytes maxL ret Z a0 EL own T' O P k n → Go p e below s R Z EL Q T' (mkF m q L (v :: S))) : Go p e below s R Z EL Q T (mkF m pc L (.ref a :: S)) := by
  subst hq
  obtain ⟨cl, q1, q2⟩ := hK
  obtain ⟨⟨hx, hby, -⟩, locs, X, -, hZ, hown, N, -⟩ := id W
  obtain ⟨T1, X1, e1, st⟩ := getF X hx (s := s.setVm T.vm) hZ hown (host := "") (Or.inl w) Via.refl rfl ((q2.get hs hv).fld q1) (g := mkF m pc L (.ref a :: S)) rfl rfl (hb hby hd)
  exact (K T1 (W.same X1 e1 N)).step st
theorem g_getFU (W : Wk kn p l e R s m args below meth c bytes maxL ret Z a0 EL own T O P k n) {index i : Nat} {a : Addr} {C F R0 nm d : String} {sh : Shape} {vs : List Value} {v : Value} (hK : ∃ c, T.heap[a]? = some c ∧ ObjC Z C sh vs c) (hs : sh[i]? = some (F, nm, d)) (hv : vs[i]? = some v) (w : (Jvm.Cond.fieldLink own index R0 nm d).before a0 Z = true) (via : Via Z R0 F nm d)
    (hd : decode bytes pc = .ok (.getfield index, 3)) (hq : pc + 3 = q) (K : ∀ T', Wk kn p l e R s m args below meth c bytes maxL ret Z a0 EL own T' O P k n → Go p e below s R Z EL Q T' (mkF m q L (v :: S))) : Go p e below s R Z EL Q T (mkF m pc L (.ref a :: S)) := by
  subst hq
  obtain ⟨cl, q1, q2⟩ := hK
  obtain ⟨⟨hx, hby, -⟩, locs, X, -, hZ, hown, N, -⟩ := id W
  obtain ⟨T1, X1, e1, st⟩ := getF X hx (s := s.setVm T.vm) hZ hown (host := "") (Or.inl w) via rfl ((q2.get hs hv).fld q1) (g := mkF m pc L (.ref a :: S)) rfl rfl (hb hby hd)
  exact (K T1 (W.same X1 e1 N)).step st
theorem g_getS (W : Wk kn p l e R s m args below meth c bytes maxL ret Z a0 EL own T O P k n) {index : Nat} {F nm d : String} {v : Value} (hF : Sta Z Z.heap F nm d v) (w : (Jvm.Cond.fieldLink own index F nm d).before a0 Z = true)
    (hd : decode bytes pc = .ok (.getstatic index, 3)) (hq : pc + 3 = q) (K : ∀ T', Wk kn p l e R s m args below meth c bytes maxL ret Z a0 EL own T' O P k n → Go p e below s R Z EL Q T' (mkF m q L (v :: S))) : Go p e below s R Z EL Q T (mkF m pc L S) := by
  subst hq
  obtain ⟨⟨hx, hby, -⟩, locs, X, -, hZ, hown, N, -⟩ := id W
  obtain ⟨T1, X1, e1, st⟩ := getS X hx (s := s.setVm T.vm) hZ (host := "") hown w Via.refl rfl (hF.ext W.old) (g := mkF m pc L S) rfl (hb hby hd)
  exact (K T1 (W.same X1 e1 N)).step st
theorem g_putF (W : Wk kn p l e R s m args below meth c bytes maxL ret Z a0 EL own T O P k n) {i j index kk : Nat} {a : Addr} {C F nm d : String} {sh : Shape} {vs vs' : List Value} {v old : Value} {ty : FieldType} (hi : O[i]? = some (a, ObjC Z C sh vs)) (hsh : ShOk Z a0 C sh) (nd : (sh.map (·.2.1)).Nodup) (hs : sh[j]? = some (F, nm, d)) (ho : vs[j]? = some old) (w : (Jvm.Cond.fieldLink own index F nm d).before a0 Z = true)
    (hl : (Jvm.Cond.lays C F nm d).before a0 Z = true ∨ ((Jvm.Cond.laysFinal C F nm d).before a0 Z = true ∧ own = F ∧ meth.name = "<init>")) (wi : (Jvm.Cond.instantiable C kk).before a0 Z = true) (hty : parseFieldDescriptor d = some ty) (hn : narrow ty v = v) (hf : fits ty v = true)
    (hd : decode bytes pc = .ok (.putfield index, 3)) (hq : pc + 3 = q) (hvs : vs.set j v = vs') (hO : O.set i (a, ObjC Z C sh vs') = O') (K : ∀ T', Wk kn p l e R s m args below meth c bytes maxL ret Z a0 EL own T' O' P k n → Go p e below s R Z EL Q T' (mkF m q L S)) : Go p e below s R Z EL Q T (mkF m pc L (v :: .ref a :: S)) := by
  subst hq; subst hO; subst hvs
  obtain ⟨cl, q1, q2⟩ := W.ow hi
  obtain ⟨⟨hx, hby, -⟩, locs, X, -, hZ, hown, N, -⟩ := id W
  obtain ⟨T1, h1, X1, e1, Wr1, st⟩ := putF X hx (s := s.setVm T.vm) hZ hown (host := "") (Or.inl w) Via.refl rfl ((q2.get hs ho).fld q1) (q2.1.exa q1) hl wi hty hn hf (g := mkF m pc L (v :: .ref a :: S)) rfl rfl (hb hby hd)
  subst e1
  exact (K T1 (W.wrote X1 hi (Keep.of_wr Wr1) (Fr.snoc X1 N (W.fr hi)) (q2.set hsh nd hs Wr1 q1))).step st
theorem g_new (W : Wk kn p l e R s m args below meth c bytes maxL ret Z a0 EL own T O P k n) {index ns : Nat} {C : String} {sh : Shape} {ds : List Value} (hsh : ShOk Z a0 C sh) (hds : sh.map (fun f => (parseFieldDescriptor f.2.2).map defaultValue) = ds.map some) (w : (Jvm.Cond.classLink own index C).before a0 Z = true) (wi : (Jvm.Cond.instantiable C ns).before a0 Z = true) (wz : (Jvm.Cond.initialized C).before a0 Z = true)
    (hd : decode bytes pc = .ok (.new index, 3)) (hq : pc + 3 = q) (hk : k + 1 ≤ R.cells) (hn : n + ns ≤ R.slots) (K : ∀ a T', Wk kn p l e R s m args below meth c bytes maxL ret Z a0 EL own T' ((a, ObjC Z C sh ds) :: O) P (k + 1) (n + ns) → Go p e below s R Z EL Q T' (mkF m q L (.ref a :: S))) : Go p e below s R Z EL Q T (mkF m pc L S) := by
  subst hq
  obtain ⟨⟨hx, hby, -⟩, locs, X, -, hZ, hown, N, -⟩ := id W
  obtain ⟨T1, h1, X1, e1, E1, A1, D1, -, st⟩ := newO X hx (s := s.setVm T.vm) hZ hown w wi wz rfl (g := mkF m pc L S) rfl (hb hby hd) hk hn
  subst e1
  refine (K _ T1 (W.made X1 E1 N ?_)).step st
  obtain ⟨cl, q1, q2⟩ := exaC A1
  refine ⟨cl, q1, q2, fun i f v hi hv => fldC q1 ?_⟩
  obtain ⟨L1, t, ht⟩ := hsh i f hi
  have e1 := congrArg (fun z => z[i]?) hds
  simp only [List.getElem?_map, hi, hv, Option.map_some, ht, Option.some.injEq] at e1
  rw [← e1]
  exact D1 L1 ht
theorem g_newA (W : Wk kn p l e R s m args below meth c bytes maxL ret Z a0 EL own T O P k n) {aty : ArrayType} {ty : FieldType} {z : Int32} {cap : Nat} {vs : List Value} (hty : newarray.typeOf aty = ty) (w : (Jvm.Cond.arrayClass ty).before a0 Z = true) (hz : ¬ z < 0) (hcap : z.toNatClampNeg ≤ cap) (hb' : cap * 8 ≤ 536870912) (hdf : fits ty (defaultValue ty) = true) (hvs : List.replicate z.toNatClampNeg (defaultValue ty) = vs)
    (hd : decode bytes pc = .ok (.newarray aty, 2)) (hq : pc + 2 = q) (hk : k + 1 ≤ R.cells) (hn : n + cap ≤ R.slots) (K : ∀ a T', Wk kn p l e R s m args below meth c bytes maxL ret Z a0 EL own T' ((a, ArrC Z ty vs) :: O) P (k + 1) (n + cap) → Go p e below s R Z EL Q T' (mkF m q L (.ref a :: S))) : Go p e below s R Z EL Q T (mkF m pc L (.int z :: S)) := by
  subst hq; subst hvs; subst hty
  obtain ⟨⟨hx, hby, -⟩, locs, X, -, hZ, hown, N, -⟩ := id W
  obtain ⟨T1, h1, cA, X1, e1, E1, A1, st⟩ := newP X hx (s := s.setVm T.vm) hZ w rfl (g := mkF m pc L (.int z :: S)) rfl (hb hby hd) rfl hz hcap hb' hk hn
  subst e1
  exact (K _ T1 (W.made X1 E1 N (ArrC.new A1 hz hdf))).step st
theorem g_len (W : Wk kn p l e R s m args below meth c bytes maxL ret Z a0 EL own T O P k n) {a : Addr} {ty : FieldType} {vs : List Value} {z : Int32} (hK : ∃ c, T.heap[a]? = some c ∧ ArrC Z ty vs c) (hz : vs.length.toInt32 = z) (hd : decode bytes pc = .ok (.arraylength, 1)) (hq : pc + 1 = q) (K : Go p e below s R Z EL Q T (mkF m q L (.int z :: S))) : Go p e below s R Z EL Q T (mkF m pc L (.ref a :: S)) := by
  subst hq; subst hz
  obtain ⟨cl, q1, q2⟩ := hK
  obtain ⟨⟨hx, hby, -⟩, locs, X, -, hZ, hown, N, -⟩ := id W
  exact K.step fun t hr => X.arraylength hx q1 (State.isArrayOf_alike (s := Z) hZ.alike q2.1) (g := mkF m pc L (.ref a :: S)) rfl rfl (hb hby hd) t (by rw [q2.size]; exact hr)
theorem own_inb {vs : List Value} {cl : Cell} {ty : FieldType} {j : Int32} {i : Nat} {v : Value} (F : ArrC Z ty vs cl) (hj : ¬ j < 0) (hji : j.toNatClampNeg = i) (hv : vs[i]? = some v) : ¬ (j < 0 ∨ cl.slots.size ≤ j.toNatClampNeg) ∧ cl.slots[j.toNatClampNeg]? = some v := by
  subst hji
  refine ⟨fun z => ?_, F.at hv⟩
  rcases z with z | z
  · exact hj z
  · rw [F.size] at z
    rw [List.getElem?_eq_none z] at hv; cases hv
theorem g_caload (W : Wk kn p l e R s m args below meth c bytes maxL ret Z a0 EL own T O P k n) {a : Addr} {vs : List Value} {j : Int32} {i : Nat} {v : Value} (hK : ∃ c, T.heap[a]? = some c ∧ ArrC Z .char vs c) (hj : ¬ j < 0) (hji : j.toNatClampNeg = i) (hv : vs[i]? = some v) (hd : decode bytes pc = .ok (.caload, 1)) (hq : pc + 1 = q) (K : Go p e below s R Z EL Q T (mkF m q L (v :: S))) : Go p e below s R Z EL Q T (mkF m pc L (.int j :: .ref a :: S)) := by
  subst hq
  obtain ⟨cl, q1, q2⟩ := hK
  obtain ⟨⟨hx, hby, -⟩, locs, X, -, hZ, hown, N, -⟩ := id W
  obtain ⟨i1, i2⟩ := own_inb q2 hj hji hv
  exact K.step fun t hr => X.caload hx q1 (State.isArrayOf_alike (s := Z) hZ.alike q2.1) q2.2.1 i1 i2 (g := mkF m pc L (.int j :: .ref a :: S)) rfl rfl (hb hby hd) t hr
theorem g_baload (W : Wk kn p l e R s m args below meth c bytes maxL ret Z a0 EL own T O P k n) {a : Addr} {vs : List Value} {j : Int32} {i : Nat} {v : Value} (hK : ∃ c, T.heap[a]? = some c ∧ ArrC Z .byte vs c) (hj : ¬ j < 0) (hji : j.toNatClampNeg = i) (hv : vs[i]? = some v) (hd : decode bytes pc = .ok (.baload, 1)) (hq : pc + 1 = q) (K : Go p e below s R Z EL Q T (mkF m q L (v :: S))) : Go p e below s R Z EL Q T (mkF m pc L (.int j :: .ref a :: S)) := by
  subst hq
  obtain ⟨cl, q1, q2⟩ := hK
  obtain ⟨⟨hx, hby, -⟩, locs, X, -, hZ, hown, N, -⟩ := id W
  obtain ⟨i1, i2⟩ := own_inb q2 hj hji hv
  exact K.step fun t hr => X.baloadBytes hx q1 (State.isArrayOf_alike (s := Z) hZ.alike q2.1) q2.2.1 i1 i2 (g := mkF m pc L (.int j :: .ref a :: S)) rfl rfl (hb hby hd) t hr
theorem g_castore (W : Wk kn p l e R s m args below meth c bytes maxL ret Z a0 EL own T O P k n) {a : Addr} {vs vs' : List Value} {j x y : Int32} {i ii : Nat} {old : Value} (hi : O[i]? = some (a, ArrC Z .char vs)) (hj : ¬ j < 0) (hji : j.toNatClampNeg = ii) (ho : vs[ii]? = some old) (hy : nar .char x = y) (hd : decode bytes pc = .ok (.castore, 1)) (hq : pc + 1 = q) (hvs : vs.set ii (.int y) = vs') (hO : O.set i (a, ArrC Z .char vs') = O')
    (K : ∀ T', Wk kn p l e R s m args below meth c bytes maxL ret Z a0 EL own T' O' P k n → Go p e below s R Z EL Q T' (mkF m q L S)) : Go p e below s R Z EL Q T (mkF m pc L (.int x :: .int j :: .ref a :: S)) := by
  subst hq; subst hO; subst hvs; subst hy; subst hji
  obtain ⟨cl, q1, q2⟩ := W.ow hi
  obtain ⟨⟨hx, hby, -⟩, locs, X, -, hZ, hown, N, -⟩ := id W
  obtain ⟨i1, i2⟩ := own_inb q2 hj rfl ho
  obtain ⟨T1, h1, X1, e1, Wr1, st⟩ := stC X hx (s := s.setVm T.vm) hZ rfl (q2.arr q1) i1 (g := mkF m pc L (.int x :: .int j :: .ref a :: S)) rfl rfl (hb hby hd)
  subst e1
  exact (K T1 (W.wrote X1 hi (Keep.of_wr Wr1) (Fr.snoc X1 N (W.fr hi)) (q2.set (fits_nar_char x) Wr1 q1))).step st
theorem g_bastore (W : Wk kn p l e R s m args below meth c bytes maxL ret Z a0 EL own T O P k n) {a : Addr} {vs vs' : List Value} {j x y : Int32} {i ii : Nat} {old : Value} (hi : O[i]? = some (a, ArrC Z .byte vs)) (hj : ¬ j < 0) (hji : j.toNatClampNeg = ii) (ho : vs[ii]? = some old) (hy : nar .byte x = y) (hd : decode bytes pc = .ok (.bastore, 1)) (hq : pc + 1 = q) (hvs : vs.set ii (.int y) = vs') (hO : O.set i (a, ArrC Z .byte vs') = O')
    (K : ∀ T', Wk kn p l e R s m args below meth c bytes maxL ret Z a0 EL own T' O' P k n → Go p e below s R Z EL Q T' (mkF m q L S)) : Go p e below s R Z EL Q T (mkF m pc L (.int x :: .int j :: .ref a :: S)) := by
  subst hq; subst hO; subst hvs; subst hy; subst hji
  obtain ⟨cl, q1, q2⟩ := W.ow hi
  obtain ⟨⟨hx, hby, -⟩, locs, X, -, hZ, hown, N, -⟩ := id W
  obtain ⟨i1, i2⟩ := own_inb q2 hj rfl ho
  obtain ⟨T1, h1, X1, e1, Wr1, st⟩ := stB X hx (s := s.setVm T.vm) hZ rfl (q2.arr q1) i1 (g := mkF m pc L (.int x :: .int j :: .ref a :: S)) rfl rfl (hb hby hd)
  subst e1
  exact (K T1 (W.wrote X1 hi (Keep.of_wr Wr1) (Fr.snoc X1 N (W.fr hi)) (q2.set (fits_nar_byte x) Wr1 q1))).step st
theorem g_cast (W : Wk kn p l e R s m args below meth c bytes maxL ret Z a0 EL own T O P k n) {a : Addr} {index : Nat} {C D : String} (hK : ∃ c, T.heap[a]? = some c ∧ ExaC Z C c) (w : (Jvm.Cond.classLink own index D).before a0 Z = true) (wc : (Jvm.Cond.castable C D).before a0 Z = true) (hd : decode bytes pc = .ok (.checkcast index, 3)) (hq : pc + 3 = q)
    (K : ∀ T', Wk kn p l e R s m args below meth c bytes maxL ret Z a0 EL own T' O P k n → Go p e below s R Z EL Q T' (mkF m q L (.ref a :: S))) : Go p e below s R Z EL Q T (mkF m pc L (.ref a :: S)) := by
  subst hq
  obtain ⟨cl, q1, q2⟩ := hK
  obtain ⟨⟨hx, hby, -⟩, locs, X, -, hZ, hown, N, -⟩ := id W
  obtain ⟨T1, X1, e1, st⟩ := castY X hx (s := s.setVm T.vm) hZ hown w rfl (Ins.of_exa (q2.exa q1) wc) (g := mkF m pc L (.ref a :: S)) rfl rfl (hb hby hd)
  exact (K T1 (W.same X1 e1 N)).step st
theorem g_inst (W : Wk kn p l e R s m args below meth c bytes maxL ret Z a0 EL own T O P k n) {a : Addr} {index : Nat} {C D : String} (hK : ∃ c, T.heap[a]? = some c ∧ ExaC Z C c) (w : (Jvm.Cond.classLink own index D).before a0 Z = true) (wc : (Jvm.Cond.castable C D).before a0 Z = true) (hd : decode bytes pc = .ok (.instanceof index, 3)) (hq : pc + 3 = q)
    (K : ∀ T', Wk kn p l e R s m args below meth c bytes maxL ret Z a0 EL own T' O P k n → Go p e below s R Z EL Q T' (mkF m q L (.int 1 :: S))) : Go p e below s R Z EL Q T (mkF m pc L (.ref a :: S)) := by
  subst hq
  obtain ⟨cl, q1, q2⟩ := hK
  obtain ⟨⟨hx, hby, -⟩, locs, X, -, hZ, hown, N, -⟩ := id W
  obtain ⟨T1, X1, e1, st⟩ := instY X hx (s := s.setVm T.vm) hZ hown w rfl (Ins.of_exa (q2.exa q1) wc) (g := mkF m pc L (.ref a :: S)) rfl rfl (hb hby hd)
  exact (K T1 (W.same X1 e1 N)).step st
theorem g_objInit (W : Wk kn p l e R s m args below meth c bytes maxL ret Z a0 EL own T O P k n) {a : Addr} {index : Nat} (w1 : (Jvm.Cond.methodLink own index Lib.objectInit).before a0 Z = true) (w2 : (Jvm.Cond.instanceMethod Lib.objectInit).before a0 Z = true) (w3 : (Jvm.Cond.code Lib.objectInit ⟨#[0xb1]⟩ 1 none).before a0 Z = true) (hd : decode bytes pc = .ok (.invokespecial index, 3)) (hq : pc + 3 = q)
    (hL : L.size = maxL) (hf : 1 ≤ R.frames) (hl : (S.map fun v => v.category).sum + 12 ≤ R.locals) (K : ∀ T', Wk kn p l e R s m args below meth c bytes maxL ret Z a0 EL own T' O P k n → Go p e below s R Z EL Q T' (mkF m q L S)) : Go p e below s R Z EL Q T (mkF m pc L (.ref a :: S)) := by
  subst hq
  obtain ⟨⟨hx, hby, hml, -⟩, locs, X, -, hZ, hown, N, -⟩ := id W
  obtain ⟨T1, X1, e1, st⟩ := initO X hx (s := s.setVm T.vm) hZ hown w1 w2 w3 rfl (g := mkF m pc L (.ref a :: S)) rfl (hL.trans hml.symm) rfl (hb hby hd) hf (W := (S.map fun v => v.category).sum) (by show 2 * 0 + _ ≤ _; omega) hl
  exact (K T1 (W.same X1 e1 N)).step st
/-- ldc of a String constant; what it says isn't asked -/
theorem g_ldcO (W : Wk kn p l e R s m args below meth c bytes maxL ret Z a0 EL own T O P k n) {index nn : Nat} {text : String} (w : (Jvm.Cond.stringLink own index text).before a0 Z = true) (wS : ∀ a ∈ Bundle.stringAtoms, a.before a0 Z = true) (hd : decode bytes pc = .ok (.ldc index, 2)) (hq : pc + 2 = q) (hnn : 4 * text.toList.length ≤ nn) (hbig : nn ≤ 536870912) (hk : k + 2 ≤ R.cells) (hn : n + (nn + 4) ≤ R.slots)
    (K : ∀ a T', Wk kn p l e R s m args below meth c bytes maxL ret Z a0 EL own T' O P (k + 2) (n + (nn + 4)) → Go p e below s R Z EL Q T' (mkF m q L (.ref a :: S))) : Go p e below s R Z EL Q T (mkF m pc L S) := by
  subst hq
  obtain ⟨⟨hx, hby, -, -, -, hEL, -⟩, locs, X, hS, hZ, hown, N, -⟩ := id W
  obtain ⟨a, T1, h1, k1, X1, e1, E1, hS1, hk1, hZ1, hf1, A1, -, st⟩ := ldcOH X hx hZ hown w wS rfl hS (Nat.le_refl _) hEL W.chv (g := mkF m pc L S) rfl (hb hby hd) hnn hbig hk hn
  subst e1
  refine (K a T1 (W.core X1 (own_since hS1 hk1) hZ1 hf1 N A1 ⟨Nat.le_trans W.old.1 E1.1, fun a c q => E1.2 _ _ (W.old.2 _ _ q)⟩ (W.lay.mono A1 E1))).step st
def shStr : Shape := [("java/lang/String", "value", "[B"), ("java/lang/String", "coder", "B")]
/-- ldc of a String constant whose text is read -/
theorem g_ldcH (W : Wk kn p l e R s m args below meth c bytes maxL ret Z a0 EL own T O P k n) {index nn : Nat} {text : String} {vs : List Value} (w : (Jvm.Cond.stringLink own index text).before a0 Z = true) (wS : ∀ a ∈ Bundle.stringAtoms, a.before a0 Z = true) (hmem : (own, index) ∈ EL)
    (ht : (∀ c ∈ text.toList, c.toNat < 256) ∧ text.toList.map (fun c => Value.int (Jvm.Lit.byteI c.toNat.toUInt16)) = vs) (hlen : vs.length < 2 ^ 31) (hfit : ∀ v ∈ vs, fits .byte v = true) (hd : decode bytes pc = .ok (.ldc index, 2)) (hq : pc + 2 = q) (hnn : 4 * text.toList.length ≤ nn) (hbig : nn ≤ 536870912) (hk : k + 2 ≤ R.cells) (hn : n + (nn + 4) ≤ R.slots)
    (K : ∀ a b T', Wk kn p l e R s m args below meth c bytes maxL ret Z a0 EL own T' O ((a, ObjC Z "java/lang/String" shStr [.ref b, .int 0]) :: (b, ArrC Z .byte vs) :: P) (k + 2) (n + (nn + 4)) → Go p e below s R Z EL Q T' (mkF m q L (.ref a :: S))) : Go p e below s R Z EL Q T (mkF m pc L S) := by
  subst hq
  obtain ⟨⟨hx, hby, -, -, -, hEL, -⟩, locs, X, hS, hZ, hown, N, -⟩ := id W
  have z1 : (vs.length.toInt32).toInt = vs.length := len_toInt hlen
  have z0 : ¬ vs.length.toInt32 < 0 := fun z => by rw [Int32.lt_iff_toInt_lt, z1] at z; exact absurd z (by simp)
  have z2 : (vs.length.toInt32).toNatClampNeg = vs.length := by simp only [Int32.toNatClampNeg, z1]; rfl
  obtain ⟨a, T1, h1, k1, b, kc, X1, e1, E1, hS1, hk1, hZ1, hf1, Ex, F1, F2, Av, -, -, A1, -, ne, st⟩ := ldcCH X hx hZ hown w wS rfl hS (Nat.le_refl _) hEL hmem W.chv ht z0 z2 (g := mkF m pc L S) rfl (hb hby hd) hnn hbig hk hn
  subst e1
  have L1 := W.lay.mono A1 E1
  have na : ∀ (i : Nat) (x : Ent), O[i]? = some x → x.1 ≠ a := fun i x q => (ne _ (L1.1 i x q).2.2).1
  have nb : ∀ (i : Nat) (x : Ent), O[i]? = some x → x.1 ≠ b := fun i x q => (ne _ (L1.1 i x q).2.2).2
  obtain ⟨cl, q1, q2⟩ := exaC Ex
  obtain ⟨cb, ⟨r1, r2, r3⟩, -, r5, -, r7, -⟩ := Av
  refine (K a b T1 (W.core X1 (own_since hS1 hk1) hZ1 hf1 N A1 ⟨Nat.le_trans W.old.1 E1.1, fun a c q => E1.2 _ _ (W.old.2 _ _ q)⟩ ((L1.ro (φ := ArrC Z .byte vs) ⟨cb, r1, r2, r3, ?_, hfit, hlen⟩ nb).ro ⟨cl, q1, q2, fun i f v hi hv => ?_⟩ na))).step st
  · rw [z2] at r5
    refine List.ext_getElem? fun i => ?_
    rcases Nat.lt_or_ge i vs.length with z | z
    · have e1 := r7 i (by rw [r5]; exact z)
      rw [Array.getElem?_toList, e1, List.getD_eq_getElem?_getD, List.getElem?_eq_getElem z]; rfl
    · rw [List.getElem?_eq_none z, List.getElem?_eq_none (by simpa [r5] using z)]
  · match i, hi, hv with
    | 0, hi, hv => cases hi; cases hv; exact fldC q1 F2
    | 1, hi, hv => cases hi; cases hv; exact fldC q1 F1
    | i + 2, hi, hv => simp [shStr] at hi
theorem own_mono {s : State} {o : Outcome} {t : State} {L : List Loc} {k n k' n' : Nat} (h : ReturnedEndW s o t L k n) (hk : k ≤ k') (hn : n ≤ n') : ReturnedEndW s o t L k' n' := ⟨h.1, h.2.1, h.2.2.1, h.2.2.2.mono hk hn⟩
theorem g_ret (W : Wk kn p l e R s m args below meth c bytes maxL ret Z a0 EL own T O P k n) {v : Value} {t : FieldType} {i : Instr} (hret : ret = some t) (hn : narrow t v = v)
    (hi : (i = .ireturn ∧ (t = .int ∨ t = .boolean ∨ t = .byte ∨ t = .char ∨ t = .short) ∧ ∃ z, v = .int z) ∨ (i = .lreturn ∧ t = .long ∧ ∃ z, v = .long z) ∨ (i = .dreturn ∧ t = .double ∧ ∃ z, v = .double z) ∨ (i = .freturn ∧ t = .float ∧ ∃ z, v = .float z) ∨ (i = .areturn ∧ t.isReference = true ∧ v.isRef = true))
    (hd : decode bytes pc = .ok (i, 1)) (hk : k ≤ R.cells) (hs : n ≤ R.slots) (hQ : Q (some v) O P) : Go p e below s R Z EL Q T (mkF m pc L (v :: S)) := by
  subst hret
  obtain ⟨⟨hx, hby, -, hr, hlk, -⟩, locs, X, hS, hZ, hown, N, H, E, La⟩ := W
  obtain ⟨fs, h1, h2, h3, h4⟩ := X.leaveW hS (Nat.le_refl _) (v := some v) (fun z => by rw [hr] at z; cases z) hlk
  exact ⟨_, _, retOut X hx hr hn hi (hb hby hd) h1, h2, h3, _, _, rfl, H, own_mono h4 hk hs, N, E, O, P, La, hQ⟩
theorem g_retI (W : Wk kn p l e R s m args below meth c bytes maxL ret Z a0 EL own T O P k n) {v : Int32} {t : FieldType} (hret : ret = some t) (ht : t = .int ∨ t = .boolean ∨ t = .byte ∨ t = .char ∨ t = .short) (hn : narrow t (.int v) = .int v) (hd : decode bytes pc = .ok (.ireturn, 1)) (hk : k ≤ R.cells) (hs : n ≤ R.slots) (hQ : Q (some (.int v)) O P) : Go p e below s R Z EL Q T (mkF m pc L (.int v :: S)) :=
  g_ret W hret hn (Or.inl ⟨rfl, ht, v, rfl⟩) hd hk hs hQ
theorem own_nar {t : FieldType} {v : Value} (ht : t.isReference = true) (hv : v.isRef = true) : narrow t v = v := by
  cases t <;> first | (cases ht; done) | (cases v <;> first | (cases hv; done) | rfl)
theorem g_retA (W : Wk kn p l e R s m args below meth c bytes maxL ret Z a0 EL own T O P k n) {v : Value} {t : FieldType} (hret : ret = some t) (ht : t.isReference = true) (hv : v.isRef = true) (hd : decode bytes pc = .ok (.areturn, 1)) (hk : k ≤ R.cells) (hs : n ≤ R.slots) (hQ : Q (some v) O P) : Go p e below s R Z EL Q T (mkF m pc L (v :: S)) :=
  g_ret W hret (own_nar ht hv) (Or.inr (Or.inr (Or.inr (Or.inr ⟨rfl, ht, hv⟩)))) hd hk hs hQ
theorem g_retV (W : Wk kn p l e R s m args below meth c bytes maxL ret Z a0 EL own T O P k n) (hret : ret = none) (hd : decode bytes pc = .ok (.return_, 1)) (hk : k ≤ R.cells) (hs : n ≤ R.slots) (hQ : Q none O P) : Go p e below s R Z EL Q T (mkF m pc L []) := by
  subst hret
  obtain ⟨⟨hx, hby, -, hr, hlk, -⟩, locs, X, hS, hZ, hown, N, H, E, La⟩ := W
  obtain ⟨fs, h1, h2, h3, h4⟩ := X.leaveW hS (Nat.le_refl _) (v := none) (fun z => rfl) hlk
  exact ⟨_, _, X.returnOut hx hr (hb hby hd) h1, h2, h3, _, _, rfl, H, own_mono h4 hk hs, N, E, O, P, La, hQ⟩
end OwnSteps
/-! contracts -/
section OwnCon
variable {kn : Prop} {p : Program} {l : Launch} {e : Env} {R : Room} {s : State} {m : MethodId} {args : Array Value} {below : List Frame} {meth : Method} {c : Code} {bytes bytes' : ByteArray} {maxL maxL' : Nat} {ret ret' : Option FieldType} {Z : State} {a0 : Array Value} {EL : List (String × Nat)} {own : String} {T T' : State} {O O' P P' : List Ent} {k n k' n' : Nat} {Q Q' : Option Value → List Ent → List Ent → Prop} {g g' : JFrame} {pc q : Nat} {L : Array Slot} {S : List Value} {rm : Room} {ws : List Jvm.Cond} {as' : Array Value} {y : MethodName}
theorem con_intro (hy : plainFor y = true) (hEL : EW Z a0 EL) (ef : ∀ m, entryFrame m as' maxL = mkF m 0 L [])
    (body : ∀ p e s m below meth c T, Wk kn p l e rm s m as' below meth c bytes maxL ret Z a0 EL y.cls T O P 0 0 → meth.name = y.name → Go p e below s rm Z EL Q T (mkF m 0 L [])) : Con kn l Z EL y bytes maxL ret ws rm as' O P Q := by
  refine MetFree.of_bodySF hy hisR ?_
  intro p e s m args below meth c s₁ Bd hml0 hP hK
  obtain ⟨rfl, hZ, hC, hE, hL⟩ := hP
  have X0 : Stand p l e rm s m args below meth c s₁ [] 0 0 := Stand.of_body Bd
  have eh : s₁.heap = s.heap := by rw [Bd.state]; rfl
  have A : CHr Z EL s.vm s.heap s₁.vm s.heap := CHv.at (s := s) (vm0 := s.vm) X0 hZ hEL hC
  have W : Wk kn p l e rm s m args below meth c bytes maxL ret Z a0 EL y.cls s₁ O P 0 0 := by
    refine ⟨⟨Bd.exec, Bd.bytes, hml0, Bd.returns, Bd.notSynchronized, hEL, hK⟩, [], X0.retabled X0.warmed.wide, X0.warmed.since _, wtrans hZ X0.warmed, ?_, Fr.nil _, by rw [eh]; exact A, by rw [eh]; exact hE, by rw [eh]; exact hL.mono A ⟨Nat.le_refl _, fun _ _ q => q⟩⟩
    rw [X0.warmed.alike.findClass]; exact findClass_of_methodNamed Bd.named
  obtain ⟨t, o, h1, h2, h3, h4⟩ := body p e s m below meth c s₁ W (name_of_methodNamed Bd.named Bd.method).1
  exact ⟨t, o, by rw [ef]; exact h1, h2, h3, h4⟩
/-- who pays a call: the callee's contract -/
theorem own_back (C : Con kn l Z EL y bytes' maxL' ret' [] rm as' O P Q') (W : Wk kn p l e R s m args below meth c bytes maxL ret Z a0 EL own T O P k n) (wc : (Jvm.Cond.code y bytes' maxL' ret').before a0 Z = true) (wz : (Jvm.Cond.initialized y.cls).before a0 Z = true) {len V : Nat} (hf : rm.frames + 1 ≤ R.frames) (hl : V + (maxL' + 11) + rm.locals ≤ R.locals) :
    BackS l R p e below (s.setVm T.vm) args y len V (fun A a => a = as' ∧ A.U.heap = T.heap ∧ A.cells + rm.cells ≤ R.cells ∧ A.slots + rm.slots ≤ R.slots)
      (fun A _ v B => ∃ L, B.locs = A.locs ++ L ∧ B.cells = A.cells + rm.cells ∧ B.slots = A.slots + rm.slots ∧ Fr Z.heap.size L ∧ CHr Z EL T.vm T.heap B.U.vm B.U.heap ∧ Ext Z.heap B.U.heap ∧ ∃ O' P', Lay Z EL B.U.vm B.U.heap O' P' ∧ Q' v O' P') := by
  have hZ := W.hZ
  have hEL : EW Z a0 EL := W.1.2.2.2.2.2.1
  have hkn := W.1.2.2.2.2.2.2
  have H := W.chv
  refine BackS.of_freeWG (bytes := bytes') (maxL := maxL') (ret := ret') (E := fun _ first o t L k n => k = rm.cells ∧ n = rm.slots ∧ ∃ v, o = .returned v ∧ CHr Z EL first.vm first.heap t.vm t.heap ∧ Fr Z.heap.size L ∧ Ext Z.heap t.heap ∧ ∃ O' P', Lay Z EL t.vm t.heap O' P' ∧ Q' v O' P') C hf hl ?_ ?_ ?_ ?_ ?_
  · intro m meth c A a Y hp
    have hU : Z.Warmed39 A.U.vm := wtrans (s := s.setVm T.vm) hZ Y.warmed
    exact ⟨by show (Jvm.Cond.and _ .tt).before a A.U = true; rw [Cond.before_and, mv hU wc]; rfl, mv hU wc, mv hU wz, hp.2.2.1, hp.2.2.2⟩
  · intro m meth c A a g mk Y hp
    have B := CHv.at Y hZ hEL H
    refine ⟨hp.1, wtrans (s := s.setVm T.vm) hZ Y.warmed, ?_, ?_, ?_⟩
    · show CHv Z EL A.U.vm A.U.heap; rw [hp.2.1]; exact B.1
    · show Ext Z.heap A.U.heap; rw [hp.2.1]; exact W.old
    · show Lay Z EL A.U.vm A.U.heap O P; rw [hp.2.1]; exact W.lay.mono B ⟨Nat.le_refl _, fun _ _ q => q⟩
  · intro m meth c A a g mk Y hp hg hkk
    obtain ⟨k1, k2⟩ := hkn hkk
    obtain ⟨-, locs, X, hS, -⟩ := id W
    exact known_frames Y hg (Vm.MethodsKnown.alikeC hS.1.alike k1) (Vm.FramesKnown.alikeC hS.1.alike k2)
  · intro a first o t hQ
    obtain ⟨v, L, h1, h2, h3, h4, h5, h6⟩ := hQ
    exact ⟨L, _, _, h3, rfl, rfl, v, h1, h2, h4, h5, h6⟩
  · intro m meth c A a g mk v t L k n Y hp _ _ hE
    obtain ⟨rfl, rfl, v', e3, h2, h4, h5, h6⟩ := hE
    cases e3
    refine ⟨L, rfl, rfl, rfl, h4, (CHv.at Y hZ hEL H).trans ?_, h5, h6⟩
    rw [← hp.2.1]; exact h2
theorem own_after {A B : Pt} {v : Option Value} {vm₁ : Vm} (W : Wk kn p l e R s m args below meth c bytes maxL ret Z a0 EL own T O P k n) {locs : List Loc} (N : Fr Z.heap.size locs) (X : Stand p l e R ((s.setVm T.vm).setVm B.U.vm) m args below meth c B.U B.locs B.cells B.slots) (hS : (s.setVm T.vm).Since B.U.vm B.U.heap.size) (hle : T.heap.size ≤ B.U.heap.size)
    (hP : ∃ L, B.locs = locs ++ L ∧ B.cells = k + rm.cells ∧ B.slots = n + rm.slots ∧ Fr Z.heap.size L ∧ CHr Z EL T.vm T.heap B.U.vm B.U.heap ∧ Ext Z.heap B.U.heap ∧ ∃ O' P', Lay Z EL B.U.vm B.U.heap O' P' ∧ Q' v O' P') :
    ∃ O' P', Wk kn p l e R s m args below meth c bytes maxL ret Z a0 EL own B.U O' P' (k + rm.cells) (n + rm.slots) ∧ Q' v O' P' := by
  obtain ⟨L, h1, h2, h3, h4, h5, h6, O', P', h7, h8⟩ := hP
  rw [h1, h2, h3] at X
  exact ⟨O', P', W.coreS X hS hle (N.app h4) h5 h6 h7, h8⟩
theorem g_static (W : Wk kn p l e R s m args below meth c bytes maxL ret Z a0 EL own T O P k n) (C : Con kn l Z EL y bytes' maxL' ret' [] rm as' O P Q') {index : Nat} {argsL rest : List Value} {ps : List FieldType} {rt : Option FieldType} (has : argsL.toArray = as') (hS : S = argsL.reverse ++ rest) (hpd : parseMethodDescriptor y.desc = some ⟨ps, rt⟩) (hlen : argsL.length = ps.length)
    (w1 : (Jvm.Cond.methodLink own index y).before a0 Z = true) (w2 : (Jvm.Cond.static y).before a0 Z = true) (wz : (Jvm.Cond.initialized y.cls).before a0 Z = true) (wc : (Jvm.Cond.code y bytes' maxL' ret').before a0 Z = true) (hy : y.cls ≠ "java/lang/invoke/MethodHandle" ∧ y.cls ≠ "java/lang/invoke/VarHandle")
    (hd : decode bytes pc = .ok (.invokestatic index, 3)) (hq : pc + 3 = q) (hL : L.size = maxL) (hf : rm.frames + 1 ≤ R.frames) (hl : (rest.map fun v => v.category).sum + (maxL' + 11) + rm.locals ≤ R.locals) (hk : k + rm.cells ≤ R.cells) (hn : n + rm.slots ≤ R.slots)
    (K : ∀ v O' P' T', Q' v O' P' → Wk kn p l e R s m args below meth c bytes maxL ret Z a0 EL own T' O' P' (k + rm.cells) (n + rm.slots) → Go p e below s R Z EL Q T' (mkF m q L (v.toList ++ rest))) : Go p e below s R Z EL Q T (mkF m pc L S) := by
  subst hq; subst hS; subst has
  obtain ⟨⟨hx, hby, hml, -⟩, locs, X, -, hZ, hown, N, -⟩ := id W
  obtain ⟨v, vm₁, B, -, X1, hS1, hle, hP, st⟩ := callSS X hx (own := own) hown (mv (s := s.setVm T.vm) hZ w1) (mv (s := s.setVm T.vm) hZ w2) (mv (s := s.setVm T.vm) hZ wz) (mv (s := s.setVm T.vm) hZ wc) hy (own_back C W wc wz (len := 3) hf hl) (g := mkF m pc L (argsL.reverse ++ rest)) rfl (hL.trans hml.symm) (argsL := argsL) (rest := rest) (lenOf hpd hlen) rfl (by show 2 * 0 + _ ≤ _; omega) (hb hby hd) (fun _ _ => ⟨rfl, rfl, hk, hn⟩)
  obtain ⟨O', P', W', hQ'⟩ := own_after (A := ⟨T, locs, k, n⟩) (vm₁ := vm₁) W N X1 hS1 hle hP
  exact (K v O' P' _ hQ' W').back st
theorem g_special (W : Wk kn p l e R s m args below meth c bytes maxL ret Z a0 EL own T O P k n) (C : Con kn l Z EL y bytes' maxL' none [] rm as' O P Q') {index : Nat} {a : Addr} {argsL rest : List Value} {ps : List FieldType} {rt : Option FieldType} (hy1 : y.name = "<init>") (has : (.ref a :: argsL).toArray = as') (hS : S = argsL.reverse ++ .ref a :: rest) (hpd : parseMethodDescriptor y.desc = some ⟨ps, rt⟩) (hlen : argsL.length = ps.length)
    (w1 : (Jvm.Cond.methodLink own index y).before a0 Z = true) (w2 : (Jvm.Cond.instanceMethod y).before a0 Z = true) (wz : (Jvm.Cond.initialized y.cls).before a0 Z = true) (wc : (Jvm.Cond.code y bytes' maxL' none).before a0 Z = true) (hy : y.cls ≠ "java/lang/invoke/MethodHandle" ∧ y.cls ≠ "java/lang/invoke/VarHandle")
    (hd : decode bytes pc = .ok (.invokespecial index, 3)) (hq : pc + 3 = q) (hL : L.size = maxL) (hf : rm.frames + 1 ≤ R.frames) (hl : (rest.map fun v => v.category).sum + (maxL' + 11) + rm.locals ≤ R.locals) (hk : k + rm.cells ≤ R.cells) (hn : n + rm.slots ≤ R.slots)
    (K : ∀ v O' P' T', Q' v O' P' → Wk kn p l e R s m args below meth c bytes maxL ret Z a0 EL own T' O' P' (k + rm.cells) (n + rm.slots) → Go p e below s R Z EL Q T' (mkF m q L (v.toList ++ rest))) : Go p e below s R Z EL Q T (mkF m pc L S) := by
  subst hq; subst hS; subst has
  obtain ⟨⟨hx, hby, hml, -⟩, locs, X, -, hZ, hown, N, -⟩ := id W
  obtain ⟨v, vm₁, B, -, X1, hS1, hle, hP, st⟩ := X.specialBackS hx hy1 (own := own) hown (mv (s := s.setVm T.vm) hZ w1) (mv (s := s.setVm T.vm) hZ w2) (mv (s := s.setVm T.vm) hZ wc) hy (own_back C W wc wz (len := 3) hf hl) (g := mkF m pc L (argsL.reverse ++ .ref a :: rest)) rfl (hL.trans hml.symm) (Steps.refl _) (a := a) (argsL := argsL) (rest := rest) (lenOf hpd hlen) rfl (by show 2 * 0 + _ ≤ _; omega) (hb hby hd) (fun _ _ => ⟨rfl, rfl, hk, hn⟩)
  obtain ⟨O', P', W', hQ'⟩ := own_after (A := ⟨T, locs, k, n⟩) (vm₁ := vm₁) W N X1 hS1 hle hP
  exact (K v O' P' _ hQ' W').back st
theorem g_virtual (W : Wk kn p l e R s m args below meth c bytes maxL ret Z a0 EL own T O P k n) (C : Con kn l Z EL y bytes' maxL' ret' [] rm as' O P Q') {index : Nat} {a : Addr} {D : String} {argsL rest : List Value} {ps : List FieldType} {rt : Option FieldType} (hK : ∃ c, T.heap[a]? = some c ∧ ExaC Z D c) (has : (.ref a :: argsL).toArray = as') (hS : S = argsL.reverse ++ .ref a :: rest) (hpd : parseMethodDescriptor y.desc = some ⟨ps, rt⟩) (hlen : argsL.length = ps.length)
    (w1 : (Jvm.Cond.methodLink own index y).before a0 Z = true) (w2 : (Jvm.Cond.declares y).before a0 Z = true) (w3 : (Jvm.Cond.selects D y y).before a0 Z = true) (w4 : (Jvm.Cond.instanceMethod y).before a0 Z = true) (wz : (Jvm.Cond.initialized y.cls).before a0 Z = true) (wc : (Jvm.Cond.code y bytes' maxL' ret').before a0 Z = true) (hy : y.cls ≠ "java/lang/invoke/MethodHandle" ∧ y.cls ≠ "java/lang/invoke/VarHandle")
    (hd : decode bytes pc = .ok (.invokevirtual index, 3)) (hq : pc + 3 = q) (hL : L.size = maxL) (hf : rm.frames + 1 ≤ R.frames) (hl : (rest.map fun v => v.category).sum + (maxL' + 11) + rm.locals ≤ R.locals) (hk : k + rm.cells ≤ R.cells) (hn : n + rm.slots ≤ R.slots)
    (K : ∀ v O' P' T', Q' v O' P' → Wk kn p l e R s m args below meth c bytes maxL ret Z a0 EL own T' O' P' (k + rm.cells) (n + rm.slots) → Go p e below s R Z EL Q T' (mkF m q L (v.toList ++ rest))) : Go p e below s R Z EL Q T (mkF m pc L S) := by
  subst hq; subst hS; subst has
  obtain ⟨cl, q1, q2⟩ := hK
  obtain ⟨⟨hx, hby, hml, -⟩, locs, X, -, hZ, hown, N, -⟩ := id W
  obtain ⟨cB, kB, b1, -, b3⟩ := isOf (s := s.setVm T.vm) (T := T) hZ rfl (q2.exa q1)
  obtain ⟨v, vm₁, B, -, X1, hS1, hle, hP, st⟩ := X.virtualBackS hx (y := y) (z := y) (own := own) hown (mvT (s := s.setVm T.vm) hZ w1) (mvT (s := s.setVm T.vm) hZ w2) (notFace_of_selects (args := #[]) (mvT (s := s.setVm T.vm) hZ w3)) (mvT (s := s.setVm T.vm) hZ w3) (mvT (s := s.setVm T.vm) hZ w4) hy (own_back C W wc wz (len := 3) hf hl) b1 b3 (g := mkF m pc L (argsL.reverse ++ .ref a :: rest)) rfl (hL.trans hml.symm) (Steps.refl _) (argsL := argsL) (rest := rest) (lenOf hpd hlen) rfl (by show 2 * 0 + _ ≤ _; omega) (hb hby hd) (fun _ _ => ⟨rfl, rfl, hk, hn⟩)
  obtain ⟨O', P', W', hQ'⟩ := own_after (A := ⟨T, locs, k, n⟩) (vm₁ := vm₁) W N X1 hS1 hle hP
  exact (K v O' P' _ hQ' W').back st
theorem g_iface {yi : MethodName} (W : Wk kn p l e R s m args below meth c bytes maxL ret Z a0 EL own T O P k n) (C : Con kn l Z EL y bytes' maxL' ret' [] rm as' O P Q') {index count : Nat} {a : Addr} {D : String} {argsL rest : List Value} {ps : List FieldType} {rt : Option FieldType} (hK : ∃ c, T.heap[a]? = some c ∧ ExaC Z D c) (has : (.ref a :: argsL).toArray = as') (hS : S = argsL.reverse ++ .ref a :: rest) (hpd : parseMethodDescriptor yi.desc = some ⟨ps, rt⟩) (hlen : argsL.length = ps.length)
    (w1 : (Jvm.Cond.methodLink own index yi).before a0 Z = true) (w2 : (Jvm.Cond.declares yi).before a0 Z = true) (w3 : (Jvm.Cond.interfaceMethod yi.cls yi.cls yi.name yi.desc).before a0 Z = true) (hfa : ((Jvm.Cond.interfaceMethod yi.cls yi.cls yi.name yi.desc).onTables && (Jvm.Cond.interfaceMethod yi.cls yi.cls yi.name yi.desc).keepsFace) = true) (w4 : (Jvm.Cond.selects D yi y).before a0 Z = true) (w5 : (Jvm.Cond.instanceMethod y).before a0 Z = true) (w6 : (Jvm.Cond.publicMethod y).before a0 Z = true) (w7 : (Jvm.Cond.unhidden D yi.name yi.desc).before a0 Z = true) (w8 : (Jvm.Cond.castable D yi.cls).before a0 Z = true) (wz : (Jvm.Cond.initialized y.cls).before a0 Z = true) (wc : (Jvm.Cond.code y bytes' maxL' ret').before a0 Z = true) (hy : yi.cls ≠ "java/lang/invoke/MethodHandle" ∧ yi.cls ≠ "java/lang/invoke/VarHandle")
    (hd : decode bytes pc = .ok (.invokeinterface index count, 5)) (hq : pc + 5 = q) (hL : L.size = maxL) (hf : rm.frames + 1 ≤ R.frames) (hl : (rest.map fun v => v.category).sum + (maxL' + 11) + rm.locals ≤ R.locals) (hk : k + rm.cells ≤ R.cells) (hn : n + rm.slots ≤ R.slots)
    (K : ∀ v O' P' T', Q' v O' P' → Wk kn p l e R s m args below meth c bytes maxL ret Z a0 EL own T' O' P' (k + rm.cells) (n + rm.slots) → Go p e below s R Z EL Q T' (mkF m q L (v.toList ++ rest))) : Go p e below s R Z EL Q T (mkF m pc L S) := by
  subst hq; subst hS; subst has
  obtain ⟨cl, q1, q2⟩ := hK
  obtain ⟨⟨hx, hby, hml, -⟩, locs, X, -, hZ, hown, N, -⟩ := id W
  obtain ⟨cB, kB, b1, b2, b3⟩ := isOf (s := s.setVm T.vm) (T := T) hZ rfl (q2.exa q1)
  obtain ⟨v, vm₁, B, -, X1, hS1, hle, hP, st⟩ := X.interfaceBackS hx (xi := yi) (y := y) (own := own) hown (mvT (s := s.setVm T.vm) hZ w1) (mvT (s := s.setVm T.vm) hZ w2) (mvT (s := s.setVm T.vm) hZ w3 hfa) (mvT (s := s.setVm T.vm) hZ w4) (mvT (s := s.setVm T.vm) hZ w5) (mvT (s := s.setVm T.vm) hZ w6) (mvT (s := s.setVm T.vm) hZ w7) (mvT (s := s.setVm T.vm) hZ w8) hy (own_back C W wc wz (len := 5) hf hl) b1 b2 b3 (g := mkF m pc L (argsL.reverse ++ .ref a :: rest)) rfl (hL.trans hml.symm) (Steps.refl _) (argsL := argsL) (rest := rest) (lenOf hpd hlen) rfl (by show 2 * 0 + _ ≤ _; omega) (hb hby hd) (fun _ _ => ⟨rfl, rfl, hk, hn⟩)
  obtain ⟨O', P', W', hQ'⟩ := own_after (A := ⟨T, locs, k, n⟩) (vm₁ := vm₁) W N X1 hS1 hle hP
  exact (K v O' P' _ hQ' W').back st
end OwnCon
theorem own_w {Z : State} {a0 : Array Value} (hw : ∀ d ∈ tables_1, d.before a0 Z = true) (i : Nat) {d : Jvm.Cond} (h : tables_1[i]? = some d) : d.before a0 Z = true := hw _ (List.mem_of_getElem? h)
theorem own_s {L : List Jvm.Cond} {Z : State} {a0 : Array Value} (hw : ∀ d ∈ L, d.before a0 Z = true) (i : Nat) {d : Jvm.Cond} (h : L[i]? = some d) : d.before a0 Z = true := hw _ (List.mem_of_getElem? h)
theorem own_i32 {i : Nat} (h : i < 2 ^ 31) : i.toInt32.toInt = i := len_toInt h
theorem own_nn {i : Nat} (h : i < 2 ^ 31) : ¬ i.toInt32 < 0 := fun z => by rw [Int32.lt_iff_toInt_lt, own_i32 h] at z; exact absurd z (by simp)
theorem own_clamp {i : Nat} (h : i < 2 ^ 31) : i.toInt32.toNatClampNeg = i := by simp only [Int32.toNatClampNeg, own_i32 h]; rfl
theorem own_lt {i j : Nat} (hi : i < 2 ^ 31) (hj : j < 2 ^ 31) : i.toInt32 < j.toInt32 ↔ i < j := by rw [Int32.lt_iff_toInt_lt, own_i32 hi, own_i32 hj]; omega
theorem own_eq {i j : Nat} (hi : i < 2 ^ 31) (hj : j < 2 ^ 31) : i.toInt32 = j.toInt32 ↔ i = j := by rw [← Int32.toInt_inj, own_i32 hi, own_i32 hj]; omega
theorem own_succ {i : Nat} (h : i + 1 < 2 ^ 31) : i.toInt32 + Int32.ofInt 1 = (i + 1).toInt32 := by
  rw [← Int32.toInt_inj, own_i32 h, Int32.toInt_add, own_i32 (by omega)]
  show ((i : Int) + 1).bmod (2 ^ 32) = _
  rw [Int.bmod_eq_of_le (by omega) (by omega)]; omega
theorem own_chr {x : Int32} (h : 0 ≤ x.toInt ∧ x.toInt < 65536) : x.toUInt32.toUInt16.toUInt32.toInt32 = x := by
  have := c_i2c x
  rw [← Int32.toInt_inj]; omega
/-- the bytes that spell the chars, Latin-1 -/
def enc (cs : List Int32) : List Value := cs.map fun c => .int c.toInt8.toInt32
theorem enc_len (cs : List Int32) : (enc cs).length = cs.length := by simp [enc]
theorem own_fill {cs : List Int32} {i : Nat} {c : Int32} (h : cs[i]? = some c) : (enc (cs.take i) ++ List.replicate (cs.length - i) (Value.int 0)).set i (.int c.toInt8.toInt32) = enc (cs.take (i + 1)) ++ List.replicate (cs.length - (i + 1)) (Value.int 0) := by
  have hi : i < cs.length := (List.getElem?_eq_some_iff.mp h).1
  have e1 : cs.length - i = (cs.length - (i + 1)) + 1 := by omega
  have e2 : (enc (cs.take i)).length = i := by rw [enc_len, List.length_take]; omega
  have e3 : cs.take (i + 1) = cs.take i ++ [c] := by rw [List.take_add_one, h]; rfl
  rw [List.set_append_right _ _ (by omega), e2, Nat.sub_self, e1, List.replicate_succ, List.set_cons_zero, e3]
  simp [enc]
theorem enc_fits {cs : List Int32} : ∀ v ∈ enc cs, fits .byte v = true := fun v hv => by
  obtain ⟨x, -, rfl⟩ := List.mem_map.mp hv; exact fits_nar_byte x
section OwnCopy
variable {kn : Prop} {p : Program} {l : Launch} {e : Env} {R : Room} {s : State} {m : MethodId} {args : Array Value} {below : List Frame} {meth : Method} {c : Code} {bytes : ByteArray} {maxL : Nat} {ret : Option FieldType} {Z : State} {a0 : Array Value} {EL : List (String × Nat)} {own : String} {T T' : State} {O O' P P' : List Ent} {k n k' n' : Nat} {Q : Option Value → List Ent → List Ent → Prop} {g g' : JFrame} {pc q : Nat} {L : Array Slot} {S : List Value}
theorem g_ldcJ (W : Wk kn p l e R s m args below meth c bytes maxL ret Z a0 EL own T O P k n) {index : Nat} {v : Int64} (w : (Jvm.Cond.constantLong own index v).before a0 Z = true) (hd : decode bytes pc = .ok (.ldc2_w index, 3)) (hq : pc + 3 = q) (K : Go p e below s R Z EL Q T (mkF m q L (.long v :: S))) : Go p e below s R Z EL Q T (mkF m pc L S) := by
  subst hq
  obtain ⟨⟨hx, hby, -⟩, locs, X, -, hZ, hown, -⟩ := W
  exact K.step fun t hr => Stand.ldc2J X hx (own := own) hown (mv (s := s.setVm T.vm) hZ w) rfl (hb hby hd) hr
theorem ArrC.arv {h : Heap} {a : Addr} {cl : Cell} {ty : FieldType} {vs : List Value} {dv : Value} (q : h[a]? = some cl) (F : ArrC Z ty vs cl) : Arv Z h a cl.cls ty vs.length.toInt32 vs dv := by
  have hl := F.2.2.2.2
  have hs := F.size
  refine ⟨cl, F.arr q, rfl, by rw [own_clamp hl, hs], own_nn hl, fun j hj => ?_, fun j hj => ?_⟩
  · rw [List.getD_eq_getElem?_getD, List.getElem?_eq_getElem (by omega)]
    exact F.at (List.getElem?_eq_getElem (by omega))
  · rw [List.getD_eq_getElem?_getD, List.getElem?_eq_getElem (by omega)]
    exact F.2.2.2.1 _ (List.getElem_mem _)
theorem own_arrC {h : Heap} {a : Addr} {k : ClassId} {ty : FieldType} {vs : List Value} {dv : Value} (F : Arv Z h a k ty vs.length.toInt32 vs dv) (hl : vs.length < 2 ^ 31) : ∃ cl, h[a]? = some cl ∧ ArrC Z ty vs cl := by
  obtain ⟨cl, A, -, hs, -, H, G⟩ := F
  rw [own_clamp hl] at hs
  refine ⟨cl, A.1, A.2.1, A.2.2, List.ext_getElem? fun i => ?_, fun v hv => ?_, hl⟩
  · rcases Nat.lt_or_ge i vs.length with z | z
    · have e1 := H i (by omega)
      rw [Array.getElem?_toList, e1, List.getD_eq_getElem?_getD, List.getElem?_eq_getElem z]; rfl
    · rw [List.getElem?_eq_none z, List.getElem?_eq_none (by simpa [hs] using z)]
  · obtain ⟨i, hi, rfl⟩ := List.mem_iff_getElem.mp hv
    have := G i (by omega)
    rwa [List.getD_eq_getElem?_getD, List.getElem?_eq_getElem hi] at this
theorem own_slice {vs : List Value} {dv : Value} {sp nn : Nat} (h : sp + nn ≤ vs.length) : (List.range nn).map (fun i => vs.getD (sp + i) dv) = (vs.drop sp).take nn := by
  refine List.ext_getElem? fun i => ?_
  rw [List.getElem?_map]
  rcases Nat.lt_or_ge i nn with z | z
  · rw [List.getElem?_range z, List.getElem?_take_of_lt z, List.getElem?_drop, List.getElem?_eq_getElem (by omega)]
    simp only [Option.map_some, List.getD_eq_getElem?_getD, List.getElem?_eq_getElem (show sp + i < vs.length by omega)]; rfl
  · rw [List.getElem?_eq_none (by simpa using z), List.getElem?_eq_none (by simp; omega)]; rfl
/-- System.arraycopy between two arrays of one primitive kind, the goal owned -/
theorem g_copy (W : Wk kn p l e R s m args below meth c bytes maxL ret Z a0 EL own T O P k n) {index i sp dp nn : Nat} {a b : Addr} {ty : FieldType} {vs vd vd' : List Value} {zs zd zn : Int32} (hK : ∃ c, T.heap[a]? = some c ∧ ArrC Z ty vs c) (hi : O[i]? = some (b, ArrC Z ty vd)) (hty : refKind ty = false) (e1 : sp.toInt32 = zs) (e2 : dp.toInt32 = zd) (e3 : nn.toInt32 = zn) (h1 : sp + nn ≤ vs.length) (h2 : dp + nn ≤ vd.length)
    (w1 : (Jvm.Cond.methodLink own index Jvm.Stand.acN).before a0 Z = true) (w2 : (Jvm.Cond.native Jvm.Stand.acN).before a0 Z = true) (w3 : (Jvm.Cond.static Jvm.Stand.acN).before a0 Z = true) (w4 : (Jvm.Cond.initialized "java/lang/System").before a0 Z = true)
    (hd : decode bytes pc = .ok (.invokestatic index, 3)) (hq : pc + 3 = q) (hL : L.size = maxL) (hf : 1 ≤ R.frames) (hl : (S.map fun v => v.category).sum + (nativeFrameWords "java/lang/System" "arraycopy" 5 + 11) ≤ R.locals) (hvd : vd.take dp ++ (vs.drop sp).take nn ++ vd.drop (dp + nn) = vd') (hO : O.set i (b, ArrC Z ty vd') = O')
    (K : ∀ T', Wk kn p l e R s m args below meth c bytes maxL ret Z a0 EL own T' O' P k n → Go p e below s R Z EL Q T' (mkF m q L S)) : Go p e below s R Z EL Q T (mkF m pc L (.int zn :: .int zd :: .ref b :: .int zs :: .ref a :: S)) := by
  subst hq; subst hO; subst e1; subst e2; subst e3
  obtain ⟨cl, q1, q2⟩ := hK
  obtain ⟨cb, r1, r2⟩ := W.ow hi
  have l1 := q2.2.2.2.2
  have l2 := r2.2.2.2.2
  obtain ⟨⟨hx, hby, hml, -⟩, locs, X, -, hZ, hown, N, -⟩ := id W
  have hlen : vd'.length = vd.length := by rw [← hvd]; simp; omega
  obtain ⟨T1, h1', L1, X1, eh, N1, K1, A1, st⟩ := cpA X hx (s := s.setVm T.vm) hZ hown w1 w2 w3 w4 rfl (q2.arv (dv := .null) q1) (r2.arv (dv := .null) r1) (Or.inl ⟨rfl, hty⟩) (own_nn (i := sp) (by omega)) (own_nn (i := dp) (by omega)) (own_nn (i := nn) (by omega)) (by rw [own_clamp (by omega), own_clamp (by omega), own_clamp l1]; exact h1) (by rw [own_clamp (by omega), own_clamp (by omega), own_clamp l2]; exact h2) rfl (by rw [own_clamp (by omega), own_clamp (by omega)]; exact h2) N (W.fr hi) (g := mkF m pc L (.int nn.toInt32 :: .int dp.toInt32 :: .ref b :: .int sp.toInt32 :: .ref a :: S)) rfl (hL.trans hml.symm) rfl (hb hby hd) hf (W := (S.map fun v => v.category).sum) (by show 2 * 0 + _ ≤ _; omega) hl
  subst eh
  have e5 : vd.take dp.toInt32.toNatClampNeg ++ (List.range nn.toInt32.toNatClampNeg).map (fun i => vs.getD (sp.toInt32.toNatClampNeg + i) .null) ++ vd.drop (dp.toInt32.toNatClampNeg + nn.toInt32.toNatClampNeg) = vd' := by
    rw [own_clamp (by omega), own_clamp (by omega), own_clamp (by omega), own_slice h1, hvd]
  rw [e5, ← hlen] at A1
  exact (K T1 (W.wrote X1 hi K1 N1 (own_arrC A1 (by omega)))).step st
end OwnCopy

theorem lit_138 : (∀ c ∈ ("" : String).toList, c.toNat < 256) ∧ ("" : String).toList.map (fun c => Value.int (Jvm.Lit.byteI c.toNat.toUInt16)) = enc [] := by decide +kernel
theorem lit_137 : (∀ c ∈ ("" : String).toList, c.toNat < 256) ∧ ("" : String).toList.map (fun c => Value.int (Jvm.Lit.byteI c.toNat.toUInt16)) = enc [] := by decide +kernel
def EL0 : List (String × Nat) := [("java/lang/String", 7), ("java/lang/StringLatin1", 151)]
def Env0 (Z : State) (a0 : Array Value) : Prop := (∀ d ∈ tables_1, d.before a0 Z = true) ∧ (∀ d ∈ jdkStatics_1, d.before a0 Z = true) ∧ EW Z a0 EL0 ∧ (∀ a ∈ Bundle.stringAtoms, a.before a0 Z = true) ∧ (∃ b : Int32, Sta Z Z.heap "java/lang/String" "COMPACT_STRINGS" "Z" (.int b) ∧ ¬ b = 0) ∧ (∃ fv : Value, Sta Z Z.heap "jdk/internal/util/Preconditions" "SIOOBE_FORMATTER" "Ljava/util/function/BiFunction;" fv ∧ fv.isRef = true) ∧ True
theorem own_fill0 {cs : List Int32} {i : Nat} (h : i < cs.length) : (enc (cs.take i) ++ List.replicate (cs.length - i) (Value.int 0))[i]? = some (.int 0) := by
  have e2 : (enc (cs.take i)).length = i := by rw [enc_len, List.length_take]; omega
  rw [List.getElem?_append_right (by omega), e2, Nat.sub_self, List.getElem?_replicate]; simp; omega
theorem own_narb (d : Int32) : nar .byte d.toInt8.toInt32 = d.toInt8.toInt32 := by simp [nar]
/-- the String x spells cs, each 0 to 255 -/
def IsL1 (Z : State) (P : List Ent) (x : Addr) (cs : List Int32) : Prop := ∃ b, (x, ObjC Z "java/lang/String" shStr [.ref b, .int (0 : Int32)]) ∈ P ∧ (b, ArrC Z .byte (enc cs)) ∈ P
theorem IsL1.up {Z : State} {P P' : List Ent} {x : Addr} {cs : List Int32} (h : IsL1 Z P x cs) (hs : ∀ y ∈ P, y ∈ P') : IsL1 Z P' x cs := by obtain ⟨b, h1, h2⟩ := h; exact ⟨b, hs _ h1, hs _ h2⟩
theorem shStr_nd : (shStr.map (·.2.1)).Nodup := by decide +kernel
theorem shStr_ds : shStr.map (fun f => (parseFieldDescriptor f.2.2).map defaultValue) = [Value.null, .int 0].map some := by decide +kernel
theorem own_shr0 (x : Int32) : x >>> ((0 : Int32) &&& 31) = x := by
  have := c_ishr x 0 0 (by decide)
  rw [← Int32.toInt_inj, this]; simp
theorem own_b2c {c : Int32} (h : 0 ≤ c.toInt ∧ c.toInt ≤ 255) : c.toInt8.toInt32 &&& (255 : Int32) = c := by
  have h1 := c_i2b c
  have h2 := c_mask c.toInt8.toInt32 255 8 (by decide) (by decide)
  rw [← Int32.toInt_inj, h2]; omega
theorem own_b2inj {c d : Int32} (h : 0 ≤ c.toInt ∧ c.toInt ≤ 255) (h2 : 0 ≤ d.toInt ∧ d.toInt ≤ 255) (e : c.toInt8.toInt32 = d.toInt8.toInt32) : c = d := by
  rw [← own_b2c h, ← own_b2c h2, e]
theorem own_narcR {c : Int32} (h : 0 ≤ c.toInt ∧ c.toInt < 65536) : narrow .char (.int c) = .int c := congrArg Value.int (own_chr h)
theorem own_ext {cs ds : List Int32} (h : cs.length = ds.length) (e : ∀ t, t < cs.length → cs[t]? = ds[t]?) : cs = ds := List.ext_getElem? fun t => by
  rcases Nat.lt_or_ge t cs.length with q | q
  · exact e t q
  · rw [List.getElem?_eq_none q, List.getElem?_eq_none (by omega)]
theorem own_ex {h : Heap} {a : Addr} {φ ψ : Cell → Prop} (H : ∃ c, h[a]? = some c ∧ φ c) (f : ∀ c, φ c → ψ c) : ∃ c, h[a]? = some c ∧ ψ c := by obtain ⟨c, h1, h2⟩ := H; exact ⟨c, h1, f c h2⟩
theorem own_and255 (x : Int32) : 0 ≤ (x &&& (255 : Int32)).toInt ∧ (x &&& (255 : Int32)).toInt ≤ 255 := c_and x 255 (by decide)
theorem own_chr255 (x : Int32) : (x &&& (255 : Int32)).toUInt32.toUInt16.toUInt32.toInt32 = (x &&& (255 : Int32)) := own_chr (by have := own_and255 x; omega)
theorem own_narc {c : Int32} (h : 0 ≤ c.toInt ∧ c.toInt < 65536) : nar .char c = c := own_chr h
theorem own_narc255 (x : Int32) : nar .char (x &&& (255 : Int32)) = (x &&& (255 : Int32)) := own_chr255 x
theorem own_gt255 {x : Int32} (h : 0 ≤ x.toInt ∧ x.toInt ≤ 255) : ¬ (255 : Int32) < x := fun z => by
  rw [Int32.lt_iff_toInt_lt] at z; have e : (255 : Int32).toInt = 255 := by decide
  omega
theorem own_le255 (x : Int32) : ¬ (255 : Int32) < (x &&& (255 : Int32)) := own_gt255 (own_and255 x)
theorem own_latOf {cs : List Int32} (h : ∀ d ∈ cs, 0 ≤ d.toInt ∧ d.toInt ≤ 255) : ∀ (j : Nat) (d : Int32), cs[j]? = some d → ¬ (255 : Int32) < d := fun j d q => own_gt255 (h d (List.mem_of_getElem? q))
theorem shStr_ok {Z : State} {a0 : Array Value} (hw : ∀ d ∈ tables_1, d.before a0 Z = true) : ShOk Z a0 "java/lang/String" shStr := fun i f hf => match i, hf with
    | 0, hf => by cases hf; exact ⟨(Or.inr (own_w hw 38 rfl)), _, (by decide : parseFieldDescriptor "[B" = some (.array .byte))⟩
    | 1, hf => by cases hf; exact ⟨(Or.inr (own_w hw 36 rfl)), _, (by decide : parseFieldDescriptor "B" = some .byte)⟩
    | i + 2, hf => by simp [shStr] at hf
theorem d0_0 : decode jdk_52_method_21_code 0 = .ok (.iconst 0, 1) := by decide +kernel
theorem d0_1 : decode jdk_52_method_21_code 1 = .ok (.istore 5, 2) := by decide +kernel
theorem d0_3 : decode jdk_52_method_21_code 3 = .ok (.iload 5, 2) := by decide +kernel
theorem d0_5 : decode jdk_52_method_21_code 5 = .ok (.iload 4, 2) := by decide +kernel
theorem d0_7 : decode jdk_52_method_21_code 7 = .ok (.if_icmp .ge 37, 3) := by decide +kernel
theorem d0_10 : decode jdk_52_method_21_code 10 = .ok (.aload_n 0, 1) := by decide +kernel
theorem d0_11 : decode jdk_52_method_21_code 11 = .ok (.iload_n 1, 1) := by decide +kernel
theorem d0_12 : decode jdk_52_method_21_code 12 = .ok (.caload, 1) := by decide +kernel
theorem d0_13 : decode jdk_52_method_21_code 13 = .ok (.istore 6, 2) := by decide +kernel
theorem d0_15 : decode jdk_52_method_21_code 15 = .ok (.iload 6, 2) := by decide +kernel
theorem d0_17 : decode jdk_52_method_21_code 17 = .ok (.sipush 255, 3) := by decide +kernel
theorem d0_20 : decode jdk_52_method_21_code 20 = .ok (.if_icmp .le 6, 3) := by decide +kernel
theorem d0_23 : decode jdk_52_method_21_code 23 = .ok (.iload 5, 2) := by decide +kernel
theorem d0_25 : decode jdk_52_method_21_code 25 = .ok (.ireturn, 1) := by decide +kernel
theorem d0_26 : decode jdk_52_method_21_code 26 = .ok (.aload_n 2, 1) := by decide +kernel
theorem d0_27 : decode jdk_52_method_21_code 27 = .ok (.iload_n 3, 1) := by decide +kernel
theorem d0_28 : decode jdk_52_method_21_code 28 = .ok (.iload 6, 2) := by decide +kernel
theorem d0_30 : decode jdk_52_method_21_code 30 = .ok (.i2b, 1) := by decide +kernel
theorem d0_31 : decode jdk_52_method_21_code 31 = .ok (.bastore, 1) := by decide +kernel
theorem d0_32 : decode jdk_52_method_21_code 32 = .ok (.iinc 1 1, 3) := by decide +kernel
theorem d0_35 : decode jdk_52_method_21_code 35 = .ok (.iinc 3 1, 3) := by decide +kernel
theorem d0_38 : decode jdk_52_method_21_code 38 = .ok (.iinc 5 1, 3) := by decide +kernel
theorem d0_41 : decode jdk_52_method_21_code 41 = .ok (.goto (-38), 3) := by decide +kernel
theorem d0_44 : decode jdk_52_method_21_code 44 = .ok (.iload 4, 2) := by decide +kernel
theorem d0_46 : decode jdk_52_method_21_code 46 = .ok (.ireturn, 1) := by decide +kernel
set_option maxRecDepth 65536 in
set_option maxHeartbeats 40000000 in
theorem comp_loop {kn : Prop} {p : Program} {l : Launch} {e : Env} {R : Room} {s : State} {m : MethodId} {args : Array Value} {below : List Frame} {meth : Method} {c : Code} {Z : State} {a0 : Array Value} {P : List Ent} {k n : Nat} {O : List Ent} {a b : Addr} {cs : List Int32} {Q : Option Value → List Ent → List Ent → Prop} (hlen : cs.length < 2 ^ 31) (hlat : ∀ (j : Nat) (d : Int32), cs[j]? = some d → ¬ (255 : Int32) < d) (hP : (a, ArrC Z .char (cs.map .int)) ∈ P) (hk : k ≤ R.cells) (hn : n ≤ R.slots) (hQ : Q (some (.int cs.length.toInt32)) ((b, ArrC Z .byte (enc cs)) :: O) P) : ∀ (j i : Nat), i + j = cs.length → ∀ (T : State) (s6 : Slot), One s6 →
    Wk kn p l e R s m args below meth c jdk_52_method_21_code 7 (some .int) Z a0 EL0 "java/lang/StringUTF16" T ((b, ArrC Z .byte (enc (cs.take i) ++ List.replicate (cs.length - i) (.int 0))) :: O) P k n → Go p e below s R Z EL0 Q T (mkF m 3 #[.val (.ref a), .val (.int i.toInt32), .val (.ref b), .val (.int i.toInt32), .val (.int cs.length.toInt32), .val (.int i.toInt32), s6] []) := by
  intro j
  induction j with
  | zero =>
    intro i hi T s6 hs6 W
    have e : i = cs.length := by omega
    subst e
    rw [List.take_length, Nat.sub_self, List.replicate_zero, List.append_nil] at W
    refine g_iload W d0_3 (q := 5) rfl rfl ?_
    refine g_iload W d0_5 (q := 7) rfl rfl ?_
    refine g_icY W d0_7 (q := 44) (XT.ii_ge_t (fun z => absurd ((own_lt hlen hlen).mp z) (Nat.lt_irrefl _))) (by decide) (by decide) ?_
    refine g_iload W d0_44 (q := 46) rfl rfl ?_
    exact g_retI W rfl (Or.inl rfl) rfl d0_46 hk hn hQ
  | succ j ih =>
    intro i hi T s6 hs6 W
    have hil : i < cs.length := by omega
    have hi3 : i < 2 ^ 31 := by omega
    obtain ⟨d, hd⟩ : ∃ d, cs[i]? = some d := ⟨_, List.getElem?_eq_getElem hil⟩
    refine g_iload W d0_3 (q := 5) rfl rfl ?_
    refine g_iload W d0_5 (q := 7) rfl rfl ?_
    refine g_icN W d0_7 (q := 10) (XT.ii_ge_f ((own_lt hi3 hlen).mpr hil)) rfl ?_
    refine g_aloadN W d0_10 (q := 11) rfl rfl rfl ?_
    refine g_iloadN W d0_11 (q := 12) rfl rfl ?_
    refine g_caload W (W.rd hP) (own_nn hi3) (i := i) (own_clamp hi3) (v := .int d) (by rw [List.getElem?_map, hd]; rfl) d0_12 (q := 13) rfl ?_
    refine g_istore W d0_13 (q := 15) (L' := #[.val (.ref a), .val (.int i.toInt32), .val (.ref b), .val (.int i.toInt32), .val (.int cs.length.toInt32), .val (.int i.toInt32), .val (.int d)]) (XS.store1 rfl hs6 rfl) rfl ?_
    refine g_iload W d0_15 (q := 17) rfl rfl ?_
    refine g_sipush W (v := (255 : Int32)) d0_17 (q := 20) rfl rfl ?_
    refine g_icY W d0_20 (q := 26) (XT.ii_le_t (hlat _ _ hd)) (by decide) (by decide) ?_
    refine g_aloadN W d0_26 (q := 27) rfl rfl rfl ?_
    refine g_iloadN W d0_27 (q := 28) rfl rfl ?_
    refine g_iload W d0_28 (q := 30) rfl rfl ?_
    refine g_i2b W d0_30 (q := 31) (z := (d.toInt8.toInt32)) rfl rfl ?_
    refine g_bastore W (i := 0) (ii := i) (y := d.toInt8.toInt32) (old := .int 0) rfl (own_nn hi3) (own_clamp hi3) (own_fill0 hil) (own_narb d) d0_31 (q := 32) rfl (own_fill hd) (O' := (b, ArrC Z .byte (enc (cs.take (i + 1)) ++ List.replicate (cs.length - (i + 1)) (.int 0))) :: O) rfl fun T W => ?_
    refine g_iinc W d0_32 (q := 35) (z := (i + 1).toInt32) (L' := #[.val (.ref a), .val (.int (i + 1).toInt32), .val (.ref b), .val (.int i.toInt32), .val (.int cs.length.toInt32), .val (.int i.toInt32), .val (.int d)]) rfl (own_succ (by omega)) rfl rfl ?_
    refine g_iinc W d0_35 (q := 38) (z := (i + 1).toInt32) (L' := #[.val (.ref a), .val (.int (i + 1).toInt32), .val (.ref b), .val (.int (i + 1).toInt32), .val (.int cs.length.toInt32), .val (.int i.toInt32), .val (.int d)]) rfl (own_succ (by omega)) rfl rfl ?_
    refine g_iinc W d0_38 (q := 41) (z := (i + 1).toInt32) (L' := #[.val (.ref a), .val (.int (i + 1).toInt32), .val (.ref b), .val (.int (i + 1).toInt32), .val (.int cs.length.toInt32), .val (.int (i + 1).toInt32), .val (.int d)]) rfl (own_succ (by omega)) rfl rfl ?_
    refine g_goto W d0_41 (q := 3) (by decide) (by decide) ?_
    exact ih (i + 1) (by omega) T _ (One.val rfl) W
theorem ef_comp1 (m : MethodId) (a : Addr) (i1 : Int32) (b : Addr) (i2 : Int32) (i3 : Int32) : entryFrame m #[(.ref a), (.int i1), (.ref b), (.int i2), (.int i3)] 7 = mkF m 0 #[.val (.ref a), .val (.int i1), .val (.ref b), .val (.int i2), .val (.int i3), .unset, .unset] [] := by first | (simp [entryFrame, mkF, argsToLocals, Value.category]; done) | rfl
theorem pn_0 : plainName "java/lang/StringUTF16" = true := by first | (simp [plainName, overriddenIn]; done) | decide +kernel
set_option maxRecDepth 65536 in
set_option maxHeartbeats 40000000 in
theorem con_comp1 {kn : Prop} (l : Launch) (Z : State) (a0 : Array Value) (E0 : Env0 Z a0) (O P : List Ent) (a b : Addr) (cs : List Int32) (hlen : cs.length < 2 ^ 31) (hlat : ∀ (j : Nat) (d : Int32), cs[j]? = some d → ¬ (255 : Int32) < d) (hP : (a, ArrC Z .char (cs.map .int)) ∈ P) :
    Con kn l Z EL0 (⟨"java/lang/StringUTF16", "compress", "([CI[BII)I"⟩ : MethodName) jdk_52_method_21_code 7 (some .int) [] ({ frames := 0, cells := 0, slots := 0, locals := 0 } : Room) #[.ref a, .int (0 : Int32), .ref b, .int (0 : Int32), .int cs.length.toInt32] ((b, ArrC Z .byte (List.replicate cs.length (.int 0))) :: O) P (fun v O' P' => v = some (.int cs.length.toInt32) ∧ O' = (b, ArrC Z .byte (enc cs)) :: O ∧ P = P') := by
  obtain ⟨hw, hs0, hEL, hS, ⟨cs0, hC0, hcs0⟩, hmore⟩ := id E0
  refine con_intro (plainFor_of_name pn_0) hEL (fun m => ef_comp1 m _ _ _ _ _) ?_
  intro p e s m below meth c T W hnm
  refine g_iconst W (v := (0 : Int32)) d0_0 (q := 1) rfl rfl ?_
  refine g_istore W d0_1 (q := 3) (L' := #[.val (.ref a), .val (.int (0 : Int32)), .val (.ref b), .val (.int (0 : Int32)), .val (.int cs.length.toInt32), .val (.int (0 : Int32)), .unset]) rfl rfl ?_
  exact comp_loop hlen hlat hP (Nat.le_of_ble_eq_true rfl) (Nat.le_of_ble_eq_true rfl) ⟨rfl, rfl, rfl⟩ cs.length 0 (Nat.zero_add _) T _ One.u W
theorem d1_0 : decode jdk_52_method_16_code 0 = .ok (.iload_n 2, 1) := by decide +kernel
theorem d1_1 : decode jdk_52_method_16_code 1 = .ok (.newarray .byte, 2) := by decide +kernel
theorem d1_3 : decode jdk_52_method_16_code 3 = .ok (.astore_n 3, 1) := by decide +kernel
theorem d1_4 : decode jdk_52_method_16_code 4 = .ok (.aload_n 0, 1) := by decide +kernel
theorem d1_5 : decode jdk_52_method_16_code 5 = .ok (.iload_n 1, 1) := by decide +kernel
theorem d1_6 : decode jdk_52_method_16_code 6 = .ok (.aload_n 3, 1) := by decide +kernel
theorem d1_7 : decode jdk_52_method_16_code 7 = .ok (.iconst 0, 1) := by decide +kernel
theorem d1_8 : decode jdk_52_method_16_code 8 = .ok (.iload_n 2, 1) := by decide +kernel
theorem d1_9 : decode jdk_52_method_16_code 9 = .ok (.invokestatic 115, 3) := by decide +kernel
theorem d1_12 : decode jdk_52_method_16_code 12 = .ok (.istore 4, 2) := by decide +kernel
theorem d1_14 : decode jdk_52_method_16_code 14 = .ok (.iload 4, 2) := by decide +kernel
theorem d1_16 : decode jdk_52_method_16_code 16 = .ok (.iload_n 2, 1) := by decide +kernel
theorem d1_17 : decode jdk_52_method_16_code 17 = .ok (.if_icmp .eq 40, 3) := by decide +kernel
theorem d1_20 : decode jdk_52_method_16_code 20 = .ok (.aload_n 0, 1) := by decide +kernel
theorem d1_21 : decode jdk_52_method_16_code 21 = .ok (.iload_n 1, 1) := by decide +kernel
theorem d1_22 : decode jdk_52_method_16_code 22 = .ok (.iload_n 2, 1) := by decide +kernel
theorem d1_26 : decode jdk_52_method_16_code 26 = .ok (.astore 5, 2) := by decide +kernel
theorem d1_28 : decode jdk_52_method_16_code 28 = .ok (.aload 5, 2) := by decide +kernel
theorem d1_30 : decode jdk_52_method_16_code 30 = .ok (.iload 4, 2) := by decide +kernel
theorem d1_35 : decode jdk_52_method_16_code 35 = .ok (.sipush 255, 3) := by decide +kernel
theorem d1_38 : decode jdk_52_method_16_code 38 = .ok (.if_icmp .gt 16, 3) := by decide +kernel
theorem d1_41 : decode jdk_52_method_16_code 41 = .ok (.aload 5, 2) := by decide +kernel
theorem d1_43 : decode jdk_52_method_16_code 43 = .ok (.iconst 0, 1) := by decide +kernel
theorem d1_44 : decode jdk_52_method_16_code 44 = .ok (.aload_n 3, 1) := by decide +kernel
theorem d1_45 : decode jdk_52_method_16_code 45 = .ok (.iconst 0, 1) := by decide +kernel
theorem d1_46 : decode jdk_52_method_16_code 46 = .ok (.iload_n 2, 1) := by decide +kernel
theorem d1_50 : decode jdk_52_method_16_code 50 = .ok (.iload_n 2, 1) := by decide +kernel
theorem d1_51 : decode jdk_52_method_16_code 51 = .ok (.if_icmp .eq 6, 3) := by decide +kernel
theorem d1_54 : decode jdk_52_method_16_code 54 = .ok (.aload 5, 2) := by decide +kernel
theorem d1_56 : decode jdk_52_method_16_code 56 = .ok (.areturn, 1) := by decide +kernel
theorem d1_57 : decode jdk_52_method_16_code 57 = .ok (.aload_n 3, 1) := by decide +kernel
theorem d1_58 : decode jdk_52_method_16_code 58 = .ok (.areturn, 1) := by decide +kernel
theorem ef_comp2 (m : MethodId) (a : Addr) (i1 : Int32) (i3 : Int32) : entryFrame m #[(.ref a), (.int i1), (.int i3)] 6 = mkF m 0 #[.val (.ref a), .val (.int i1), .val (.int i3), .unset, .unset, .unset] [] := by first | (simp [entryFrame, mkF, argsToLocals, Value.category]; done) | rfl
theorem pd_0 : parseMethodDescriptor "([CI[BII)I" = some ⟨[(.array .char), .int, (.array .byte), .int, .int], (some .int)⟩ := by decide +kernel
set_option maxRecDepth 65536 in
set_option maxHeartbeats 40000000 in
theorem con_comp2 {kn : Prop} (l : Launch) (Z : State) (a0 : Array Value) (E0 : Env0 Z a0) (O P : List Ent) (a : Addr) (cs : List Int32) (N : Nat) (hN : cs.length ≤ N) (hN2 : N ≤ 60000) (hlat : ∀ (j : Nat) (d : Int32), cs[j]? = some d → ¬ (255 : Int32) < d) (hP : (a, ArrC Z .char (cs.map .int)) ∈ P) :
    Con kn l Z EL0 (⟨"java/lang/StringUTF16", "compress", "([CII)[B"⟩ : MethodName) jdk_52_method_16_code 6 (some (.array .byte)) [] ({ frames := 1, cells := 1, slots := N, locals := 18 } : Room) #[.ref a, .int (0 : Int32), .int cs.length.toInt32] O P (fun v O' P' => ∃ b, v = some (.ref b) ∧ O' = (b, ArrC Z .byte (enc cs)) :: O ∧ P = P') := by
  obtain ⟨hw, hs0, hEL, hS, ⟨cs0, hC0, hcs0⟩, hmore⟩ := id E0
  refine con_intro (plainFor_of_name pn_0) hEL (fun m => ef_comp2 m _ _ _) ?_
  intro p e s m below meth c T W hnm
  refine g_iloadN W d1_0 (q := 1) rfl rfl ?_
  have hlen : cs.length < 2 ^ 31 := by omega
  refine g_newA W (ty := .byte) (cap := N) (vs := List.replicate cs.length (.int 0)) rfl (own_w hw 28 rfl) (own_nn hlen) (by rw [own_clamp hlen]; exact hN) (by omega) rfl (by rw [own_clamp hlen]; rfl) d1_1 (q := 3) rfl (Nat.le_of_ble_eq_true rfl) (by dsimp only; omega) fun b T W => ?_
  refine g_astoreN W d1_3 (q := 4) (L' := #[.val (.ref a), .val (.int (0 : Int32)), .val (.int cs.length.toInt32), .val (.ref b), .unset, .unset]) rfl rfl rfl ?_
  refine g_aloadN W d1_4 (q := 5) rfl rfl rfl ?_
  refine g_iloadN W d1_5 (q := 6) rfl rfl ?_
  refine g_aloadN W d1_6 (q := 7) rfl rfl rfl ?_
  refine g_iconst W (v := (0 : Int32)) d1_7 (q := 8) rfl rfl ?_
  refine g_iloadN W d1_8 (q := 9) rfl rfl ?_
  refine g_static W (con_comp1 l Z a0 E0 O P a b cs hlen hlat hP) (argsL := [(.ref a), (.int (0 : Int32)), (.ref b), (.int (0 : Int32)), (.int cs.length.toInt32)]) (rest := []) rfl rfl pd_0 rfl (own_w hw 29 rfl) (own_w hw 30 rfl) (own_w hw 26 rfl) (own_w hw 31 rfl) (by decide) d1_9 (q := 12) rfl rfl (Nat.le_of_ble_eq_true rfl) (Nat.le_of_ble_eq_true rfl) (Nat.le_of_ble_eq_true rfl) (by dsimp only; omega) ?_
  rintro _ _ _ T ⟨rfl, rfl, rfl⟩ W
  refine g_istore W d1_12 (q := 14) (L' := #[.val (.ref a), .val (.int (0 : Int32)), .val (.int cs.length.toInt32), .val (.ref b), .val (.int cs.length.toInt32), .unset]) rfl rfl ?_
  refine g_iload W d1_14 (q := 16) rfl rfl ?_
  refine g_iloadN W d1_16 (q := 17) rfl rfl ?_
  refine g_icY W d1_17 (q := 57) (XT.ii_eq_t rfl) (by decide) (by decide) ?_
  refine g_aloadN W d1_57 (q := 58) rfl rfl rfl ?_
  exact g_retA W rfl rfl rfl d1_58 (Nat.le_of_ble_eq_true rfl) (by dsimp only; omega) ⟨b, rfl, rfl, rfl⟩
theorem d2_0 : decode jdk_52_method_15_code 0 = .ok (.iload_n 1, 1) := by decide +kernel
theorem d2_1 : decode jdk_52_method_15_code 1 = .ok (.aload_n 0, 1) := by decide +kernel
theorem d2_2 : decode jdk_52_method_15_code 2 = .ok (.arraylength, 1) := by decide +kernel
theorem d2_3 : decode jdk_52_method_15_code 3 = .ok (.isub, 1) := by decide +kernel
theorem d2_4 : decode jdk_52_method_15_code 4 = .ok (.bipush 31, 2) := by decide +kernel
theorem d2_6 : decode jdk_52_method_15_code 6 = .ok (.iushr, 1) := by decide +kernel
theorem d2_7 : decode jdk_52_method_15_code 7 = .ok (.i2b, 1) := by decide +kernel
theorem d2_8 : decode jdk_52_method_15_code 8 = .ok (.ireturn, 1) := by decide +kernel
theorem ef_cfal (m : MethodId) (a : Addr) (i1 : Int32) : entryFrame m #[(.ref a), (.int i1)] 2 = mkF m 0 #[.val (.ref a), .val (.int i1)] [] := by first | (simp [entryFrame, mkF, argsToLocals, Value.category]; done) | rfl
set_option maxRecDepth 65536 in
set_option maxHeartbeats 40000000 in
theorem con_cfal {kn : Prop} (l : Launch) (Z : State) (a0 : Array Value) (E0 : Env0 Z a0) (O P : List Ent) (b : Addr) (bs : List Value) (z : Int32) (hz : bs.length.toInt32 = z) :
    Con kn l Z EL0 (⟨"java/lang/StringUTF16", "coderFromArrayLen", "([BI)B"⟩ : MethodName) jdk_52_method_15_code 2 (some .byte) [] ({ frames := 0, cells := 0, slots := 0, locals := 0 } : Room) #[.ref b, .int z] ((b, ArrC Z .byte bs) :: O) P (fun v O' P' => v = some (.int (0 : Int32)) ∧ O' = (b, ArrC Z .byte bs) :: O ∧ P = P') := by
  obtain ⟨hw, hs0, hEL, hS, ⟨cs0, hC0, hcs0⟩, hmore⟩ := id E0
  refine con_intro (plainFor_of_name pn_0) hEL (fun m => ef_cfal m _ _) ?_
  intro p e s m below meth c T W hnm
  refine g_iloadN W d2_0 (q := 1) rfl rfl ?_
  refine g_aloadN W d2_1 (q := 2) rfl rfl rfl ?_
  refine g_len W (W.ow (i := 0) rfl) (z := z) hz d2_2 (q := 3) rfl ?_
  refine g_isub W d2_3 (q := 4) (z := (0 : Int32)) (Int32.sub_self _) rfl ?_
  refine g_bipush W (v := (31 : Int32)) d2_4 (q := 6) rfl rfl ?_
  refine g_iushr W d2_6 (q := 7) (z := (0 : Int32)) (by decide) rfl ?_
  refine g_i2b W d2_7 (q := 8) (z := (0 : Int32)) (by decide) rfl ?_
  exact g_retI W rfl (Or.inr (Or.inr (Or.inl rfl))) rfl d2_8 (Nat.le_of_ble_eq_true rfl) (Nat.le_of_ble_eq_true rfl) ⟨rfl, rfl, rfl⟩
theorem d3_0 : decode jdk_42_method_149_code 0 = .ok (.aload_n 0, 1) := by decide +kernel
theorem d3_1 : decode jdk_42_method_149_code 1 = .ok (.invokespecial 1, 3) := by decide +kernel
theorem d3_4 : decode jdk_42_method_149_code 4 = .ok (.iload_n 3, 1) := by decide +kernel
theorem d3_5 : decode jdk_42_method_149_code 5 = .ok (.ifCond .ne 22, 3) := by decide +kernel
theorem d3_8 : decode jdk_42_method_149_code 8 = .ok (.aload_n 0, 1) := by decide +kernel
theorem d3_9 : decode jdk_42_method_149_code 9 = .ok (.ldc 7, 2) := by decide +kernel
theorem d3_11 : decode jdk_42_method_149_code 11 = .ok (.getfield 9, 3) := by decide +kernel
theorem d3_14 : decode jdk_42_method_149_code 14 = .ok (.putfield 9, 3) := by decide +kernel
theorem d3_17 : decode jdk_42_method_149_code 17 = .ok (.aload_n 0, 1) := by decide +kernel
theorem d3_18 : decode jdk_42_method_149_code 18 = .ok (.ldc 7, 2) := by decide +kernel
theorem d3_20 : decode jdk_42_method_149_code 20 = .ok (.getfield 15, 3) := by decide +kernel
theorem d3_23 : decode jdk_42_method_149_code 23 = .ok (.putfield 15, 3) := by decide +kernel
theorem d3_26 : decode jdk_42_method_149_code 26 = .ok (.return_, 1) := by decide +kernel
theorem d3_27 : decode jdk_42_method_149_code 27 = .ok (.getstatic 38, 3) := by decide +kernel
theorem d3_30 : decode jdk_42_method_149_code 30 = .ok (.ifCond .eq 28, 3) := by decide +kernel
theorem d3_33 : decode jdk_42_method_149_code 33 = .ok (.aload_n 1, 1) := by decide +kernel
theorem d3_34 : decode jdk_42_method_149_code 34 = .ok (.iload_n 2, 1) := by decide +kernel
theorem d3_35 : decode jdk_42_method_149_code 35 = .ok (.iload_n 3, 1) := by decide +kernel
theorem d3_36 : decode jdk_42_method_149_code 36 = .ok (.invokestatic 177, 3) := by decide +kernel
theorem d3_39 : decode jdk_42_method_149_code 39 = .ok (.astore 5, 2) := by decide +kernel
theorem d3_41 : decode jdk_42_method_149_code 41 = .ok (.aload_n 0, 1) := by decide +kernel
theorem d3_42 : decode jdk_42_method_149_code 42 = .ok (.aload 5, 2) := by decide +kernel
theorem d3_44 : decode jdk_42_method_149_code 44 = .ok (.iload_n 3, 1) := by decide +kernel
theorem d3_45 : decode jdk_42_method_149_code 45 = .ok (.invokestatic 47, 3) := by decide +kernel
theorem d3_48 : decode jdk_42_method_149_code 48 = .ok (.putfield 15, 3) := by decide +kernel
theorem d3_51 : decode jdk_42_method_149_code 51 = .ok (.aload_n 0, 1) := by decide +kernel
theorem d3_52 : decode jdk_42_method_149_code 52 = .ok (.aload 5, 2) := by decide +kernel
theorem d3_54 : decode jdk_42_method_149_code 54 = .ok (.putfield 9, 3) := by decide +kernel
theorem d3_57 : decode jdk_42_method_149_code 57 = .ok (.return_, 1) := by decide +kernel
theorem d3_58 : decode jdk_42_method_149_code 58 = .ok (.aload_n 0, 1) := by decide +kernel
theorem d3_59 : decode jdk_42_method_149_code 59 = .ok (.iconst 1, 1) := by decide +kernel
theorem d3_60 : decode jdk_42_method_149_code 60 = .ok (.putfield 15, 3) := by decide +kernel
theorem d3_63 : decode jdk_42_method_149_code 63 = .ok (.aload_n 0, 1) := by decide +kernel
theorem d3_64 : decode jdk_42_method_149_code 64 = .ok (.aload_n 1, 1) := by decide +kernel
theorem d3_65 : decode jdk_42_method_149_code 65 = .ok (.iload_n 2, 1) := by decide +kernel
theorem d3_66 : decode jdk_42_method_149_code 66 = .ok (.iload_n 3, 1) := by decide +kernel
theorem d3_70 : decode jdk_42_method_149_code 70 = .ok (.putfield 9, 3) := by decide +kernel
theorem d3_73 : decode jdk_42_method_149_code 73 = .ok (.return_, 1) := by decide +kernel
theorem ef_sI2 (m : MethodId) (x : Addr) (a : Addr) (i1 : Int32) (i2 : Int32) : entryFrame m #[(.ref x), (.ref a), (.int i1), (.int i2), (.null)] 6 = mkF m 0 #[.val (.ref x), .val (.ref a), .val (.int i1), .val (.int i2), .val (.null), .unset] [] := by first | (simp [entryFrame, mkF, argsToLocals, Value.category]; done) | rfl
theorem pd_1 : parseMethodDescriptor "([CII)[B" = some ⟨[(.array .char), .int, .int], (some (.array .byte))⟩ := by decide +kernel
theorem pd_2 : parseMethodDescriptor "([BI)B" = some ⟨[(.array .byte), .int], (some .byte)⟩ := by decide +kernel
theorem pn_2 : plainName "java/lang/String" = true := by first | (simp [plainName, overriddenIn]; done) | decide +kernel
set_option maxRecDepth 65536 in
set_option maxHeartbeats 40000000 in
theorem con_sI2 {kn : Prop} (l : Launch) (Z : State) (a0 : Array Value) (E0 : Env0 Z a0) (O P : List Ent) (x a : Addr) (cs : List Int32) (N : Nat) (hN : cs.length ≤ N) (hN2 : N ≤ 60000) (hlat : ∀ (j : Nat) (d : Int32), cs[j]? = some d → ¬ (255 : Int32) < d) (hP : (a, ArrC Z .char (cs.map .int)) ∈ P) :
    Con kn l Z EL0 (⟨"java/lang/String", "<init>", "([CIILjava/lang/Void;)V"⟩ : MethodName) jdk_42_method_149_code 6 none [] ({ frames := 2, cells := 4, slots := N + 8, locals := 35 } : Room) #[.ref x, .ref a, .int (0 : Int32), .int cs.length.toInt32, .null] ((x, ObjC Z "java/lang/String" shStr [.null, .int (0 : Int32)]) :: O) P (fun v O' P' => v = none ∧ O = O' ∧ (∀ y ∈ P, y ∈ P') ∧ IsL1 Z P' x cs) := by
  obtain ⟨hw, hs0, hEL, hS, ⟨cs0, hC0, hcs0⟩, hmore⟩ := id E0
  refine con_intro (plainFor_of_name pn_2) hEL (fun m => ef_sI2 m _ _ _ _) ?_
  intro p e s m below meth c T W hnm
  refine g_aloadN W d3_0 (q := 1) rfl rfl rfl ?_
  refine g_objInit W (own_w hw 20 rfl) (own_w hw 21 rfl) (own_w hw 22 rfl) d3_1 (q := 4) rfl rfl (Nat.le_of_ble_eq_true rfl) (Nat.le_of_ble_eq_true rfl) fun T W => ?_
  refine g_iloadN W d3_4 (q := 5) rfl rfl ?_
  have hlen : cs.length < 2 ^ 31 := by omega
  by_cases hz : cs.length.toInt32 = 0
  · refine g_ifN W d3_5 (q := 8) (XT.i0_ne_f hz) rfl ?_
    obtain rfl : cs = [] := List.length_eq_zero_iff.mp ((own_eq (j := 0) hlen (by decide)).mp hz)
    refine g_aloadN W d3_8 (q := 9) rfl rfl rfl ?_
    refine g_ldcH W (vs := enc []) (own_w hw 138 rfl) hS (by decide +kernel) lit_138 (by decide) enc_fits d3_9 (q := 11) rfl (nn := 0) (by decide +kernel) (Nat.le_of_ble_eq_true rfl) (Nat.le_of_ble_eq_true rfl) (by dsimp only; omega) fun e1 b1 T W => ?_
    refine g_getF W (W.rd (.head _)) (i := 0) (v := .ref b1) rfl rfl (own_w hw 37 rfl) d3_11 (q := 14) rfl fun T W => ?_
    refine g_putF W (i := 0) (j := 0) rfl (shStr_ok hw) shStr_nd rfl rfl (own_w hw 37 rfl) (Or.inr ⟨(own_w hw 38 rfl), rfl, hnm⟩) (own_w hw 7 rfl) (ty := (.array .byte)) (by decide) rfl rfl d3_14 (q := 17) rfl (vs' := [.ref b1, .int (0 : Int32)]) rfl (O' := (x, ObjC Z "java/lang/String" shStr [.ref b1, .int (0 : Int32)]) :: O) rfl fun T W => ?_
    refine g_aloadN W d3_17 (q := 18) rfl rfl rfl ?_
    refine g_ldcH W (vs := enc []) (own_w hw 138 rfl) hS (by decide +kernel) lit_138 (by decide) enc_fits d3_18 (q := 20) rfl (nn := 0) (by decide +kernel) (Nat.le_of_ble_eq_true rfl) (Nat.le_of_ble_eq_true rfl) (by dsimp only; omega) fun e2 b2 T W => ?_
    refine g_getF W (W.rd (.head _)) (i := 1) (v := .int (0 : Int32)) rfl rfl (own_w hw 35 rfl) d3_20 (q := 23) rfl fun T W => ?_
    refine g_putF W (i := 0) (j := 1) rfl (shStr_ok hw) shStr_nd rfl rfl (own_w hw 35 rfl) (Or.inr ⟨(own_w hw 36 rfl), rfl, hnm⟩) (own_w hw 7 rfl) (ty := .byte) (by decide) rfl rfl d3_23 (q := 26) rfl (vs' := [.ref b1, .int (0 : Int32)]) rfl (O' := (x, ObjC Z "java/lang/String" shStr [.ref b1, .int (0 : Int32)]) :: O) rfl fun T W => ?_
    have W := W.share (i := 0) rfl
    exact g_retV W rfl d3_26 (Nat.le_of_ble_eq_true rfl) (by dsimp only; omega) ⟨rfl, rfl, fun y hy => .tail _ (.tail _ (.tail _ (.tail _ (.tail _ hy)))), b1, .head _, .tail _ (.tail _ (.tail _ (.tail _ (.head _))))⟩
  · refine g_ifY W d3_5 (q := 27) (XT.i0_ne_t hz) (by decide) (by decide) ?_
    refine g_getS W hC0 (own_w hw 23 rfl) d3_27 (q := 30) rfl fun T W => ?_
    refine g_ifN W d3_30 (q := 33) (XT.i0_eq_f hcs0) rfl ?_
    refine g_aloadN W d3_33 (q := 34) rfl rfl rfl ?_
    refine g_iloadN W d3_34 (q := 35) rfl rfl ?_
    refine g_iloadN W d3_35 (q := 36) rfl rfl ?_
    refine g_static W (con_comp2 l Z a0 E0 _ P a cs N hN hN2 hlat hP) (argsL := [(.ref a), (.int (0 : Int32)), (.int cs.length.toInt32)]) (rest := []) rfl rfl pd_1 rfl (own_w hw 24 rfl) (own_w hw 25 rfl) (own_w hw 26 rfl) (own_w hw 27 rfl) (by decide) d3_36 (q := 39) rfl rfl (Nat.le_of_ble_eq_true rfl) (Nat.le_of_ble_eq_true rfl) (Nat.le_of_ble_eq_true rfl) (by dsimp only; omega) ?_
    rintro _ _ _ T ⟨b, rfl, rfl, rfl⟩ W
    refine g_astore W d3_39 (q := 41) (L' := #[.val (.ref x), .val (.ref a), .val (.int (0 : Int32)), .val (.int cs.length.toInt32), .val (.null), .val (.ref b)]) rfl rfl rfl ?_
    refine g_aloadN W d3_41 (q := 42) rfl rfl rfl ?_
    refine g_aload W d3_42 (q := 44) rfl rfl rfl ?_
    refine g_iloadN W d3_44 (q := 45) rfl rfl ?_
    refine g_static W (con_cfal l Z a0 E0 _ P b (enc cs) cs.length.toInt32 (by rw [enc_len])) (argsL := [(.ref b), (.int cs.length.toInt32)]) (rest := [(.ref x)]) rfl rfl pd_2 rfl (own_w hw 32 rfl) (own_w hw 33 rfl) (own_w hw 26 rfl) (own_w hw 34 rfl) (by decide) d3_45 (q := 48) rfl rfl (Nat.le_of_ble_eq_true rfl) (Nat.le_of_ble_eq_true rfl) (Nat.le_of_ble_eq_true rfl) (by dsimp only; omega) ?_
    rintro _ _ _ T ⟨rfl, rfl, rfl⟩ W
    refine g_putF W (i := 1) (j := 1) rfl (shStr_ok hw) shStr_nd rfl rfl (own_w hw 35 rfl) (Or.inr ⟨(own_w hw 36 rfl), rfl, hnm⟩) (own_w hw 7 rfl) (ty := .byte) (by decide) rfl rfl d3_48 (q := 51) rfl (vs' := [.null, .int (0 : Int32)]) rfl (O' := (b, ArrC Z .byte (enc cs)) :: (x, ObjC Z "java/lang/String" shStr [.null, .int (0 : Int32)]) :: O) rfl fun T W => ?_
    refine g_aloadN W d3_51 (q := 52) rfl rfl rfl ?_
    refine g_aload W d3_52 (q := 54) rfl rfl rfl ?_
    refine g_putF W (i := 1) (j := 0) rfl (shStr_ok hw) shStr_nd rfl rfl (own_w hw 37 rfl) (Or.inr ⟨(own_w hw 38 rfl), rfl, hnm⟩) (own_w hw 7 rfl) (ty := (.array .byte)) (by decide) rfl rfl d3_54 (q := 57) rfl (vs' := [.ref b, .int (0 : Int32)]) rfl (O' := (b, ArrC Z .byte (enc cs)) :: (x, ObjC Z "java/lang/String" shStr [.ref b, .int (0 : Int32)]) :: O) rfl fun T W => ?_
    have W := W.share (i := 0) rfl
    have W := W.share (i := 0) rfl
    exact g_retV W rfl d3_57 (Nat.le_of_ble_eq_true rfl) (by dsimp only; omega) ⟨rfl, rfl, fun y hy => .tail _ (.tail _ hy), b, .head _, .tail _ (.head _)⟩
theorem d4_0 : decode jdk_42_method_3_code 0 = .ok (.aload_n 0, 1) := by decide +kernel
theorem d4_1 : decode jdk_42_method_3_code 1 = .ok (.aload_n 1, 1) := by decide +kernel
theorem d4_2 : decode jdk_42_method_3_code 2 = .ok (.iconst 0, 1) := by decide +kernel
theorem d4_3 : decode jdk_42_method_3_code 3 = .ok (.aload_n 1, 1) := by decide +kernel
theorem d4_4 : decode jdk_42_method_3_code 4 = .ok (.arraylength, 1) := by decide +kernel
theorem d4_5 : decode jdk_42_method_3_code 5 = .ok (.aconst_null, 1) := by decide +kernel
theorem d4_6 : decode jdk_42_method_3_code 6 = .ok (.invokespecial 27, 3) := by decide +kernel
theorem d4_9 : decode jdk_42_method_3_code 9 = .ok (.return_, 1) := by decide +kernel
theorem ef_sI1 (m : MethodId) (x : Addr) (a : Addr) : entryFrame m #[(.ref x), (.ref a)] 2 = mkF m 0 #[.val (.ref x), .val (.ref a)] [] := by first | (simp [entryFrame, mkF, argsToLocals, Value.category]; done) | rfl
theorem pd_3 : parseMethodDescriptor "([CIILjava/lang/Void;)V" = some ⟨[(.array .char), .int, .int, (.object "java/lang/Void")], none⟩ := by decide +kernel
set_option maxRecDepth 65536 in
set_option maxHeartbeats 40000000 in
theorem con_sI1 {kn : Prop} (l : Launch) (Z : State) (a0 : Array Value) (E0 : Env0 Z a0) (O P : List Ent) (x a : Addr) (cs : List Int32) (N : Nat) (hN : cs.length ≤ N) (hN2 : N ≤ 60000) (hlat : ∀ (j : Nat) (d : Int32), cs[j]? = some d → ¬ (255 : Int32) < d) (hP : (a, ArrC Z .char (cs.map .int)) ∈ P) :
    Con kn l Z EL0 (⟨"java/lang/String", "<init>", "([C)V"⟩ : MethodName) jdk_42_method_3_code 2 none [] ({ frames := 3, cells := 4, slots := N + 8, locals := 52 } : Room) #[.ref x, .ref a] ((x, ObjC Z "java/lang/String" shStr [.null, .int (0 : Int32)]) :: O) P (fun v O' P' => v = none ∧ O = O' ∧ (∀ y ∈ P, y ∈ P') ∧ IsL1 Z P' x cs) := by
  obtain ⟨hw, hs0, hEL, hS, ⟨cs0, hC0, hcs0⟩, hmore⟩ := id E0
  refine con_intro (plainFor_of_name pn_2) hEL (fun m => ef_sI1 m _ _) ?_
  intro p e s m below meth c T W hnm
  refine g_aloadN W d4_0 (q := 1) rfl rfl rfl ?_
  refine g_aloadN W d4_1 (q := 2) rfl rfl rfl ?_
  refine g_iconst W (v := (0 : Int32)) d4_2 (q := 3) rfl rfl ?_
  refine g_aloadN W d4_3 (q := 4) rfl rfl rfl ?_
  refine g_len W (W.rd hP) (z := cs.length.toInt32) (by rw [List.length_map]) d4_4 (q := 5) rfl ?_
  refine g_null W d4_5 (q := 6) rfl ?_
  refine g_special W (con_sI2 l Z a0 E0 O P x a cs N hN hN2 hlat hP) (argsL := [(.ref a), (.int (0 : Int32)), (.int cs.length.toInt32), (.null)]) (rest := []) rfl rfl rfl pd_3 rfl (own_w hw 16 rfl) (own_w hw 17 rfl) (own_w hw 8 rfl) (own_w hw 19 rfl) (by decide) d4_6 (q := 9) rfl rfl (Nat.le_of_ble_eq_true rfl) (Nat.le_of_ble_eq_true rfl) (Nat.le_of_ble_eq_true rfl) (by dsimp only; omega) ?_
  rintro _ _ _ T ⟨rfl, rfl, hsub, hstr⟩ W
  exact g_retV W rfl d4_9 (Nat.le_of_ble_eq_true rfl) (by dsimp only; omega) ⟨rfl, rfl, hsub, hstr⟩
theorem d5_0 : decode jdk_42_method_152_code 0 = .ok (.getstatic 38, 3) := by decide +kernel
theorem d5_3 : decode jdk_42_method_152_code 3 = .ok (.ifCond .eq 10, 3) := by decide +kernel
theorem d5_6 : decode jdk_42_method_152_code 6 = .ok (.aload_n 0, 1) := by decide +kernel
theorem d5_7 : decode jdk_42_method_152_code 7 = .ok (.getfield 15, 3) := by decide +kernel
theorem d5_10 : decode jdk_42_method_152_code 10 = .ok (.goto 4, 3) := by decide +kernel
theorem d5_13 : decode jdk_42_method_152_code 13 = .ok (.iconst 1, 1) := by decide +kernel
theorem d5_14 : decode jdk_42_method_152_code 14 = .ok (.ireturn, 1) := by decide +kernel
theorem ef_coder (m : MethodId) (x : Addr) : entryFrame m #[(.ref x)] 1 = mkF m 0 #[.val (.ref x)] [] := by first | (simp [entryFrame, mkF, argsToLocals, Value.category]; done) | rfl
set_option maxRecDepth 65536 in
set_option maxHeartbeats 40000000 in
theorem con_coder {kn : Prop} (l : Launch) (Z : State) (a0 : Array Value) (E0 : Env0 Z a0) (O P : List Ent) (x : Addr) (cs : List Int32) (hs : IsL1 Z P x cs) :
    Con kn l Z EL0 (⟨"java/lang/String", "coder", "()B"⟩ : MethodName) jdk_42_method_152_code 1 (some .byte) [] ({ frames := 0, cells := 0, slots := 0, locals := 0 } : Room) #[.ref x] O P (fun v O' P' => v = some (.int (0 : Int32)) ∧ O = O' ∧ P = P') := by
  obtain ⟨hw, hs0, hEL, hS, ⟨cs0, hC0, hcs0⟩, hmore⟩ := id E0
  refine con_intro (plainFor_of_name pn_2) hEL (fun m => ef_coder m _) ?_
  intro p e s m below meth c T W hnm
  obtain ⟨b, hx, hb'⟩ := hs
  refine g_getS W hC0 (own_w hw 23 rfl) d5_0 (q := 3) rfl fun T W => ?_
  refine g_ifN W d5_3 (q := 6) (XT.i0_eq_f hcs0) rfl ?_
  refine g_aloadN W d5_6 (q := 7) rfl rfl rfl ?_
  refine g_getF W (W.rd hx) (i := 1) (v := .int (0 : Int32)) rfl rfl (own_w hw 35 rfl) d5_7 (q := 10) rfl fun T W => ?_
  refine g_goto W d5_10 (q := 14) (by decide) (by decide) ?_
  exact g_retI W rfl (Or.inr (Or.inr (Or.inl rfl))) rfl d5_14 (Nat.le_of_ble_eq_true rfl) (Nat.le_of_ble_eq_true rfl) ⟨rfl, rfl, rfl⟩
theorem d6_0 : decode jdk_42_method_54_code 0 = .ok (.aload_n 0, 1) := by decide +kernel
theorem d6_1 : decode jdk_42_method_54_code 1 = .ok (.getfield 9, 3) := by decide +kernel
theorem d6_4 : decode jdk_42_method_54_code 4 = .ok (.arraylength, 1) := by decide +kernel
theorem d6_5 : decode jdk_42_method_54_code 5 = .ok (.aload_n 0, 1) := by decide +kernel
theorem d6_6 : decode jdk_42_method_54_code 6 = .ok (.invokevirtual 335, 3) := by decide +kernel
theorem d6_9 : decode jdk_42_method_54_code 9 = .ok (.ishr, 1) := by decide +kernel
theorem d6_10 : decode jdk_42_method_54_code 10 = .ok (.ireturn, 1) := by decide +kernel
theorem ef_slen (m : MethodId) (x : Addr) : entryFrame m #[(.ref x)] 1 = mkF m 0 #[.val (.ref x)] [] := by first | (simp [entryFrame, mkF, argsToLocals, Value.category]; done) | rfl
theorem pd_4 : parseMethodDescriptor "()B" = some ⟨[], (some .byte)⟩ := by decide +kernel
set_option maxRecDepth 65536 in
set_option maxHeartbeats 40000000 in
theorem con_slen {kn : Prop} (l : Launch) (Z : State) (a0 : Array Value) (E0 : Env0 Z a0) (O P : List Ent) (x : Addr) (cs : List Int32) (hs : IsL1 Z P x cs) :
    Con kn l Z EL0 (⟨"java/lang/String", "length", "()I"⟩ : MethodName) jdk_42_method_54_code 1 (some .int) [] ({ frames := 1, cells := 0, slots := 0, locals := 13 } : Room) #[.ref x] O P (fun v O' P' => v = some (.int cs.length.toInt32) ∧ O = O' ∧ P = P') := by
  obtain ⟨hw, hs0, hEL, hS, ⟨cs0, hC0, hcs0⟩, hmore⟩ := id E0
  refine con_intro (plainFor_of_name pn_2) hEL (fun m => ef_slen m _) ?_
  intro p e s m below meth c T W hnm
  obtain ⟨b, hx, hb'⟩ := id hs
  refine g_aloadN W d6_0 (q := 1) rfl rfl rfl ?_
  refine g_getF W (W.rd hx) (i := 0) (v := .ref b) rfl rfl (own_w hw 37 rfl) d6_1 (q := 4) rfl fun T W => ?_
  refine g_len W (W.rd hb') (z := cs.length.toInt32) (by rw [enc_len]) d6_4 (q := 5) rfl ?_
  refine g_aloadN W d6_5 (q := 6) rfl rfl rfl ?_
  refine g_virtual W (con_coder l Z a0 E0 O P x cs hs) (own_ex (W.rd hx) fun _ h => h.1) (argsL := []) (rest := [(.int cs.length.toInt32)]) rfl rfl pd_4 rfl (own_w hw 75 rfl) (own_w hw 76 rfl) (own_w hw 78 rfl) (own_w hw 77 rfl) (own_w hw 8 rfl) (own_w hw 79 rfl) (by decide) d6_6 (q := 9) rfl rfl (Nat.le_of_ble_eq_true rfl) (Nat.le_of_ble_eq_true rfl) (Nat.le_of_ble_eq_true rfl) (Nat.le_of_ble_eq_true rfl) ?_
  rintro _ _ _ T ⟨rfl, rfl, rfl⟩ W
  refine g_ishr W d6_9 (q := 10) (z := cs.length.toInt32) (own_shr0 _) rfl ?_
  exact g_retI W rfl (Or.inl rfl) rfl d6_10 (Nat.le_of_ble_eq_true rfl) (Nat.le_of_ble_eq_true rfl) ⟨rfl, rfl, rfl⟩
theorem d7_0 : decode jdk_41_method_11_code 0 = .ok (.iload_n 0, 1) := by decide +kernel
theorem d7_1 : decode jdk_41_method_11_code 1 = .ok (.ifCond .lt 8, 3) := by decide +kernel
theorem d7_4 : decode jdk_41_method_11_code 4 = .ok (.iload_n 0, 1) := by decide +kernel
theorem d7_5 : decode jdk_41_method_11_code 5 = .ok (.iload_n 1, 1) := by decide +kernel
theorem d7_6 : decode jdk_41_method_11_code 6 = .ok (.if_icmp .lt 10, 3) := by decide +kernel
theorem d7_9 : decode jdk_41_method_11_code 9 = .ok (.aload_n 2, 1) := by decide +kernel
theorem d7_10 : decode jdk_41_method_11_code 10 = .ok (.iload_n 0, 1) := by decide +kernel
theorem d7_11 : decode jdk_41_method_11_code 11 = .ok (.iload_n 1, 1) := by decide +kernel
theorem d7_15 : decode jdk_41_method_11_code 15 = .ok (.athrow, 1) := by decide +kernel
theorem d7_16 : decode jdk_41_method_11_code 16 = .ok (.iload_n 0, 1) := by decide +kernel
theorem d7_17 : decode jdk_41_method_11_code 17 = .ok (.ireturn, 1) := by decide +kernel
theorem ef_pchk (m : MethodId) (i j : Int32) (fv : Value) (hv : fv.isRef = true) : entryFrame m #[.int i, .int j, fv] 3 = mkF m 0 #[.val (.int i), .val (.int j), .val fv] [] := by rcases ref_cases hv with rfl | ⟨r, rfl⟩ <;> first | (simp [entryFrame, mkF, argsToLocals, Value.category]; done) | rfl
theorem pn_3 : plainName "jdk/internal/util/Preconditions" = true := by first | (simp [plainName, overriddenIn]; done) | decide +kernel
set_option maxRecDepth 65536 in
set_option maxHeartbeats 40000000 in
theorem con_pchk {kn : Prop} (l : Launch) (Z : State) (a0 : Array Value) (E0 : Env0 Z a0) (O P : List Ent) (i j : Int32) (fv : Value) (hv : fv.isRef = true) (h1 : ¬ i < 0) (h2 : i < j) :
    Con kn l Z EL0 (⟨"jdk/internal/util/Preconditions", "checkIndex", "(IILjava/util/function/BiFunction;)I"⟩ : MethodName) jdk_41_method_11_code 3 (some .int) [] ({ frames := 0, cells := 0, slots := 0, locals := 0 } : Room) #[.int i, .int j, fv] O P (fun v O' P' => v = some (.int i) ∧ O = O' ∧ P = P') := by
  obtain ⟨hw, hs0, hEL, hS, ⟨cs0, hC0, hcs0⟩, hmore⟩ := id E0
  refine con_intro (plainFor_of_name pn_3) hEL (fun m => ef_pchk m _ _ _ hv) ?_
  intro p e s m below meth c T W hnm
  refine g_iloadN W d7_0 (q := 1) rfl rfl ?_
  refine g_ifN W d7_1 (q := 4) (XT.i0_lt_f h1) rfl ?_
  refine g_iloadN W d7_4 (q := 5) rfl rfl ?_
  refine g_iloadN W d7_5 (q := 6) rfl rfl ?_
  refine g_icY W d7_6 (q := 16) (XT.ii_lt_t h2) (by decide) (by decide) ?_
  refine g_iloadN W d7_16 (q := 17) rfl rfl ?_
  exact g_retI W rfl (Or.inl rfl) rfl d7_17 (Nat.le_of_ble_eq_true rfl) (Nat.le_of_ble_eq_true rfl) ⟨rfl, rfl, rfl⟩
theorem d8_0 : decode jdk_42_method_155_code 0 = .ok (.iload_n 0, 1) := by decide +kernel
theorem d8_1 : decode jdk_42_method_155_code 1 = .ok (.iload_n 1, 1) := by decide +kernel
theorem d8_2 : decode jdk_42_method_155_code 2 = .ok (.getstatic 1053, 3) := by decide +kernel
theorem d8_5 : decode jdk_42_method_155_code 5 = .ok (.invokestatic 1059, 3) := by decide +kernel
theorem d8_8 : decode jdk_42_method_155_code 8 = .ok (.pop, 1) := by decide +kernel
theorem d8_9 : decode jdk_42_method_155_code 9 = .ok (.return_, 1) := by decide +kernel
theorem ef_schk (m : MethodId) (i : Int32) (j : Int32) : entryFrame m #[(.int i), (.int j)] 2 = mkF m 0 #[.val (.int i), .val (.int j)] [] := by first | (simp [entryFrame, mkF, argsToLocals, Value.category]; done) | rfl
theorem pd_5 : parseMethodDescriptor "(IILjava/util/function/BiFunction;)I" = some ⟨[.int, .int, (.object "java/util/function/BiFunction")], (some .int)⟩ := by decide +kernel
set_option maxRecDepth 65536 in
set_option maxHeartbeats 40000000 in
theorem con_schk {kn : Prop} (l : Launch) (Z : State) (a0 : Array Value) (E0 : Env0 Z a0) (O P : List Ent) (i j : Int32) (h1 : ¬ i < 0) (h2 : i < j) :
    Con kn l Z EL0 (⟨"java/lang/String", "checkIndex", "(II)V"⟩ : MethodName) jdk_42_method_155_code 2 none [] ({ frames := 1, cells := 0, slots := 0, locals := 14 } : Room) #[.int i, .int j] O P (fun v O' P' => v = none ∧ O = O' ∧ P = P') := by
  obtain ⟨hw, hs0, hEL, hS, ⟨cs0, hC0, hcs0⟩, hmore⟩ := id E0
  refine con_intro (plainFor_of_name pn_2) hEL (fun m => ef_schk m _ _) ?_
  intro p e s m below meth c T W hnm
  obtain ⟨⟨fv, hF, hfv⟩, -⟩ := hmore
  refine g_iloadN W d8_0 (q := 1) rfl rfl ?_
  refine g_iloadN W d8_1 (q := 2) rfl rfl ?_
  refine g_getS W hF (own_w hw 106 rfl) d8_2 (q := 5) rfl fun T W => ?_
  refine g_static W (con_pchk l Z a0 E0 O P i j fv hfv h1 h2) (argsL := [(.int i), (.int j), (fv)]) (rest := []) rfl rfl pd_5 rfl (own_w hw 126 rfl) (own_w hw 127 rfl) (own_w hw 107 rfl) (own_w hw 128 rfl) (by decide) d8_5 (q := 8) rfl rfl (Nat.le_of_ble_eq_true rfl) (Nat.le_of_ble_eq_true rfl) (Nat.le_of_ble_eq_true rfl) (Nat.le_of_ble_eq_true rfl) ?_
  rintro _ _ _ T ⟨rfl, rfl, rfl⟩ W
  refine g_pop W d8_8 (q := 9) rfl rfl ?_
  exact g_retV W rfl d8_9 (Nat.le_of_ble_eq_true rfl) (Nat.le_of_ble_eq_true rfl) ⟨rfl, rfl, rfl⟩
theorem d9_0 : decode jdk_42_method_154_code 0 = .ok (.getstatic 38, 3) := by decide +kernel
theorem d9_3 : decode jdk_42_method_154_code 3 = .ok (.ifCond .eq 14, 3) := by decide +kernel
theorem d9_6 : decode jdk_42_method_154_code 6 = .ok (.aload_n 0, 1) := by decide +kernel
theorem d9_7 : decode jdk_42_method_154_code 7 = .ok (.getfield 15, 3) := by decide +kernel
theorem d9_10 : decode jdk_42_method_154_code 10 = .ok (.ifCond .ne 7, 3) := by decide +kernel
theorem d9_13 : decode jdk_42_method_154_code 13 = .ok (.iconst 1, 1) := by decide +kernel
theorem d9_14 : decode jdk_42_method_154_code 14 = .ok (.goto 4, 3) := by decide +kernel
theorem d9_17 : decode jdk_42_method_154_code 17 = .ok (.iconst 0, 1) := by decide +kernel
theorem d9_18 : decode jdk_42_method_154_code 18 = .ok (.ireturn, 1) := by decide +kernel
theorem ef_isL (m : MethodId) (x : Addr) : entryFrame m #[(.ref x)] 1 = mkF m 0 #[.val (.ref x)] [] := by first | (simp [entryFrame, mkF, argsToLocals, Value.category]; done) | rfl
set_option maxRecDepth 65536 in
set_option maxHeartbeats 40000000 in
theorem con_isL {kn : Prop} (l : Launch) (Z : State) (a0 : Array Value) (E0 : Env0 Z a0) (O P : List Ent) (x : Addr) (cs : List Int32) (hs : IsL1 Z P x cs) :
    Con kn l Z EL0 (⟨"java/lang/String", "isLatin1", "()Z"⟩ : MethodName) jdk_42_method_154_code 1 (some .boolean) [] ({ frames := 0, cells := 0, slots := 0, locals := 0 } : Room) #[.ref x] O P (fun v O' P' => v = some (.int (1 : Int32)) ∧ O = O' ∧ P = P') := by
  obtain ⟨hw, hs0, hEL, hS, ⟨cs0, hC0, hcs0⟩, hmore⟩ := id E0
  refine con_intro (plainFor_of_name pn_2) hEL (fun m => ef_isL m _) ?_
  intro p e s m below meth c T W hnm
  obtain ⟨b, hx, hb'⟩ := hs
  refine g_getS W hC0 (own_w hw 23 rfl) d9_0 (q := 3) rfl fun T W => ?_
  refine g_ifN W d9_3 (q := 6) (XT.i0_eq_f hcs0) rfl ?_
  refine g_aloadN W d9_6 (q := 7) rfl rfl rfl ?_
  refine g_getF W (W.rd hx) (i := 1) (v := .int (0 : Int32)) rfl rfl (own_w hw 35 rfl) d9_7 (q := 10) rfl fun T W => ?_
  refine g_ifN W d9_10 (q := 13) (XT.i0_ne_f (by decide)) rfl ?_
  refine g_iconst W (v := (1 : Int32)) d9_13 (q := 14) rfl rfl ?_
  refine g_goto W d9_14 (q := 18) (by decide) (by decide) ?_
  exact g_retI W rfl (Or.inr (Or.inl rfl)) rfl d9_18 (Nat.le_of_ble_eq_true rfl) (Nat.le_of_ble_eq_true rfl) ⟨rfl, rfl, rfl⟩
theorem d10_0 : decode jdk_43_method_2_code 0 = .ok (.iload_n 1, 1) := by decide +kernel
theorem d10_1 : decode jdk_43_method_2_code 1 = .ok (.aload_n 0, 1) := by decide +kernel
theorem d10_2 : decode jdk_43_method_2_code 2 = .ok (.arraylength, 1) := by decide +kernel
theorem d10_3 : decode jdk_43_method_2_code 3 = .ok (.invokestatic 9, 3) := by decide +kernel
theorem d10_6 : decode jdk_43_method_2_code 6 = .ok (.aload_n 0, 1) := by decide +kernel
theorem d10_7 : decode jdk_43_method_2_code 7 = .ok (.iload_n 1, 1) := by decide +kernel
theorem d10_8 : decode jdk_43_method_2_code 8 = .ok (.baload, 1) := by decide +kernel
theorem d10_9 : decode jdk_43_method_2_code 9 = .ok (.sipush 255, 3) := by decide +kernel
theorem d10_12 : decode jdk_43_method_2_code 12 = .ok (.iand, 1) := by decide +kernel
theorem d10_13 : decode jdk_43_method_2_code 13 = .ok (.i2c, 1) := by decide +kernel
theorem d10_14 : decode jdk_43_method_2_code 14 = .ok (.ireturn, 1) := by decide +kernel
theorem ef_lch (m : MethodId) (b : Addr) (i : Int32) : entryFrame m #[(.ref b), (.int i)] 2 = mkF m 0 #[.val (.ref b), .val (.int i)] [] := by first | (simp [entryFrame, mkF, argsToLocals, Value.category]; done) | rfl
theorem pd_6 : parseMethodDescriptor "(II)V" = some ⟨[.int, .int], none⟩ := by decide +kernel
theorem pn_4 : plainName "java/lang/StringLatin1" = true := by first | (simp [plainName, overriddenIn]; done) | decide +kernel
set_option maxRecDepth 65536 in
set_option maxHeartbeats 40000000 in
theorem con_lch {kn : Prop} (l : Launch) (Z : State) (a0 : Array Value) (E0 : Env0 Z a0) (O P : List Ent) (b : Addr) (cs : List Int32) (i : Nat) (ch : Int32) (hlen : cs.length < 2 ^ 31) (hi : cs[i]? = some ch) (hch : 0 ≤ ch.toInt ∧ ch.toInt ≤ 255) (hb : (b, ArrC Z .byte (enc cs)) ∈ P) :
    Con kn l Z EL0 (⟨"java/lang/StringLatin1", "charAt", "([BI)C"⟩ : MethodName) jdk_43_method_2_code 2 (some .char) [] ({ frames := 2, cells := 0, slots := 0, locals := 27 } : Room) #[.ref b, .int i.toInt32] O P (fun v O' P' => v = some (.int ch) ∧ O = O' ∧ P = P') := by
  obtain ⟨hw, hs0, hEL, hS, ⟨cs0, hC0, hcs0⟩, hmore⟩ := id E0
  refine con_intro (plainFor_of_name pn_4) hEL (fun m => ef_lch m _ _) ?_
  intro p e s m below meth c T W hnm
  have hil : i < cs.length := (List.getElem?_eq_some_iff.mp hi).1
  refine g_iloadN W d10_0 (q := 1) rfl rfl ?_
  refine g_aloadN W d10_1 (q := 2) rfl rfl rfl ?_
  refine g_len W (W.rd hb) (z := cs.length.toInt32) (by rw [enc_len]) d10_2 (q := 3) rfl ?_
  refine g_static W (con_schk l Z a0 E0 O P _ _ (own_nn (by omega)) ((own_lt (by omega) hlen).mpr hil)) (argsL := [(.int i.toInt32), (.int cs.length.toInt32)]) (rest := []) rfl rfl pd_6 rfl (own_w hw 123 rfl) (own_w hw 124 rfl) (own_w hw 8 rfl) (own_w hw 125 rfl) (by decide) d10_3 (q := 6) rfl rfl (Nat.le_of_ble_eq_true rfl) (Nat.le_of_ble_eq_true rfl) (Nat.le_of_ble_eq_true rfl) (Nat.le_of_ble_eq_true rfl) ?_
  rintro _ _ _ T ⟨rfl, rfl, rfl⟩ W
  refine g_aloadN W d10_6 (q := 7) rfl rfl rfl ?_
  refine g_iloadN W d10_7 (q := 8) rfl rfl ?_
  refine g_baload W (W.rd hb) (own_nn (by omega)) (i := i) (own_clamp (by omega)) (v := .int ch.toInt8.toInt32) (by rw [enc, List.getElem?_map, hi]; rfl) d10_8 (q := 9) rfl ?_
  refine g_sipush W (v := (255 : Int32)) d10_9 (q := 12) rfl rfl ?_
  refine g_iand W d10_12 (q := 13) (z := ch) (own_b2c hch) rfl ?_
  refine g_i2c W d10_13 (q := 14) (z := ch) (own_chr (by omega)) rfl ?_
  exact g_retI W rfl (Or.inr (Or.inr (Or.inr (Or.inl rfl)))) (own_narcR (by omega)) d10_14 (Nat.le_of_ble_eq_true rfl) (Nat.le_of_ble_eq_true rfl) ⟨rfl, rfl, rfl⟩
theorem d11_0 : decode jdk_42_method_56_code 0 = .ok (.aload_n 0, 1) := by decide +kernel
theorem d11_1 : decode jdk_42_method_56_code 1 = .ok (.invokevirtual 492, 3) := by decide +kernel
theorem d11_4 : decode jdk_42_method_56_code 4 = .ok (.ifCond .eq 12, 3) := by decide +kernel
theorem d11_7 : decode jdk_42_method_56_code 7 = .ok (.aload_n 0, 1) := by decide +kernel
theorem d11_8 : decode jdk_42_method_56_code 8 = .ok (.getfield 9, 3) := by decide +kernel
theorem d11_11 : decode jdk_42_method_56_code 11 = .ok (.iload_n 1, 1) := by decide +kernel
theorem d11_12 : decode jdk_42_method_56_code 12 = .ok (.invokestatic 495, 3) := by decide +kernel
theorem d11_15 : decode jdk_42_method_56_code 15 = .ok (.ireturn, 1) := by decide +kernel
theorem d11_16 : decode jdk_42_method_56_code 16 = .ok (.aload_n 0, 1) := by decide +kernel
theorem d11_17 : decode jdk_42_method_56_code 17 = .ok (.getfield 9, 3) := by decide +kernel
theorem d11_20 : decode jdk_42_method_56_code 20 = .ok (.iload_n 1, 1) := by decide +kernel
theorem d11_24 : decode jdk_42_method_56_code 24 = .ok (.ireturn, 1) := by decide +kernel
theorem ef_cha (m : MethodId) (x : Addr) (i : Int32) : entryFrame m #[(.ref x), (.int i)] 2 = mkF m 0 #[.val (.ref x), .val (.int i)] [] := by first | (simp [entryFrame, mkF, argsToLocals, Value.category]; done) | rfl
theorem pd_7 : parseMethodDescriptor "()Z" = some ⟨[], (some .boolean)⟩ := by decide +kernel
theorem pd_8 : parseMethodDescriptor "([BI)C" = some ⟨[(.array .byte), .int], (some .char)⟩ := by decide +kernel
set_option maxRecDepth 65536 in
set_option maxHeartbeats 40000000 in
theorem con_cha {kn : Prop} (l : Launch) (Z : State) (a0 : Array Value) (E0 : Env0 Z a0) (O P : List Ent) (x : Addr) (cs : List Int32) (i : Nat) (ch : Int32) (hlen : cs.length < 2 ^ 31) (hi : cs[i]? = some ch) (hch : 0 ≤ ch.toInt ∧ ch.toInt ≤ 255) (hs : IsL1 Z P x cs) :
    Con kn l Z EL0 (⟨"java/lang/String", "charAt", "(I)C"⟩ : MethodName) jdk_42_method_56_code 2 (some .char) [] ({ frames := 3, cells := 0, slots := 0, locals := 40 } : Room) #[.ref x, .int i.toInt32] O P (fun v O' P' => v = some (.int ch) ∧ O = O' ∧ P = P') := by
  obtain ⟨hw, hs0, hEL, hS, ⟨cs0, hC0, hcs0⟩, hmore⟩ := id E0
  refine con_intro (plainFor_of_name pn_2) hEL (fun m => ef_cha m _ _) ?_
  intro p e s m below meth c T W hnm
  obtain ⟨b, hx, hb'⟩ := id hs
  refine g_aloadN W d11_0 (q := 1) rfl rfl rfl ?_
  refine g_virtual W (con_isL l Z a0 E0 O P x cs hs) (own_ex (W.rd hx) fun _ h => h.1) (argsL := []) (rest := []) rfl rfl pd_7 rfl (own_w hw 65 rfl) (own_w hw 66 rfl) (own_w hw 68 rfl) (own_w hw 67 rfl) (own_w hw 8 rfl) (own_w hw 69 rfl) (by decide) d11_1 (q := 4) rfl rfl (Nat.le_of_ble_eq_true rfl) (Nat.le_of_ble_eq_true rfl) (Nat.le_of_ble_eq_true rfl) (Nat.le_of_ble_eq_true rfl) ?_
  rintro _ _ _ T ⟨rfl, rfl, rfl⟩ W
  refine g_ifN W d11_4 (q := 7) (XT.i0_eq_f (by decide)) rfl ?_
  refine g_aloadN W d11_7 (q := 8) rfl rfl rfl ?_
  refine g_getF W (W.rd hx) (i := 0) (v := .ref b) rfl rfl (own_w hw 37 rfl) d11_8 (q := 11) rfl fun T W => ?_
  refine g_iloadN W d11_11 (q := 12) rfl rfl ?_
  refine g_static W (con_lch l Z a0 E0 O P b cs i ch hlen hi hch hb') (argsL := [(.ref b), (.int i.toInt32)]) (rest := []) rfl rfl pd_8 rfl (own_w hw 120 rfl) (own_w hw 121 rfl) (own_w hw 82 rfl) (own_w hw 122 rfl) (by decide) d11_12 (q := 15) rfl rfl (Nat.le_of_ble_eq_true rfl) (Nat.le_of_ble_eq_true rfl) (Nat.le_of_ble_eq_true rfl) (Nat.le_of_ble_eq_true rfl) ?_
  rintro _ _ _ T ⟨rfl, rfl, rfl⟩ W
  exact g_retI W rfl (Or.inr (Or.inr (Or.inr (Or.inl rfl)))) (own_narcR (by omega)) d11_15 (Nat.le_of_ble_eq_true rfl) (Nat.le_of_ble_eq_true rfl) ⟨rfl, rfl, rfl⟩
theorem d12_0 : decode jdk_42_method_151_code 0 = .ok (.aload_n 0, 1) := by decide +kernel
theorem d12_1 : decode jdk_42_method_151_code 1 = .ok (.invokespecial 1, 3) := by decide +kernel
theorem d12_4 : decode jdk_42_method_151_code 4 = .ok (.aload_n 0, 1) := by decide +kernel
theorem d12_5 : decode jdk_42_method_151_code 5 = .ok (.aload_n 1, 1) := by decide +kernel
theorem d12_6 : decode jdk_42_method_151_code 6 = .ok (.putfield 9, 3) := by decide +kernel
theorem d12_9 : decode jdk_42_method_151_code 9 = .ok (.aload_n 0, 1) := by decide +kernel
theorem d12_10 : decode jdk_42_method_151_code 10 = .ok (.iload_n 2, 1) := by decide +kernel
theorem d12_11 : decode jdk_42_method_151_code 11 = .ok (.putfield 15, 3) := by decide +kernel
theorem d12_14 : decode jdk_42_method_151_code 14 = .ok (.return_, 1) := by decide +kernel
theorem ef_sBB (m : MethodId) (x : Addr) (b : Addr) (i : Int32) : entryFrame m #[(.ref x), (.ref b), (.int i)] 3 = mkF m 0 #[.val (.ref x), .val (.ref b), .val (.int i)] [] := by first | (simp [entryFrame, mkF, argsToLocals, Value.category]; done) | rfl
set_option maxRecDepth 65536 in
set_option maxHeartbeats 40000000 in
theorem con_sBB {kn : Prop} (l : Launch) (Z : State) (a0 : Array Value) (E0 : Env0 Z a0) (O P : List Ent) (x b : Addr) (bs : List Value) (cd : Int32) (hcd : narrow .byte (.int cd) = .int cd) (hcf : fits .byte (.int cd) = true) :
    Con kn l Z EL0 (⟨"java/lang/String", "<init>", "([BB)V"⟩ : MethodName) jdk_42_method_151_code 3 none [] ({ frames := 1, cells := 0, slots := 0, locals := 12 } : Room) #[.ref x, .ref b, .int cd] ((b, ArrC Z .byte bs) :: (x, ObjC Z "java/lang/String" shStr [.null, .int (0 : Int32)]) :: O) P (fun v O' P' => v = none ∧ O' = (b, ArrC Z .byte bs) :: (x, ObjC Z "java/lang/String" shStr [.ref b, .int cd]) :: O ∧ P = P') := by
  obtain ⟨hw, hs0, hEL, hS, ⟨cs0, hC0, hcs0⟩, hmore⟩ := id E0
  refine con_intro (plainFor_of_name pn_2) hEL (fun m => ef_sBB m _ _ _) ?_
  intro p e s m below meth c T W hnm
  refine g_aloadN W d12_0 (q := 1) rfl rfl rfl ?_
  refine g_objInit W (own_w hw 20 rfl) (own_w hw 21 rfl) (own_w hw 22 rfl) d12_1 (q := 4) rfl rfl (Nat.le_of_ble_eq_true rfl) (Nat.le_of_ble_eq_true rfl) fun T W => ?_
  refine g_aloadN W d12_4 (q := 5) rfl rfl rfl ?_
  refine g_aloadN W d12_5 (q := 6) rfl rfl rfl ?_
  refine g_putF W (i := 1) (j := 0) rfl (shStr_ok hw) shStr_nd rfl rfl (own_w hw 37 rfl) (Or.inr ⟨(own_w hw 38 rfl), rfl, hnm⟩) (own_w hw 7 rfl) (ty := (.array .byte)) (by decide) rfl rfl d12_6 (q := 9) rfl (vs' := [.ref b, .int (0 : Int32)]) rfl (O' := (b, ArrC Z .byte bs) :: (x, ObjC Z "java/lang/String" shStr [.ref b, .int (0 : Int32)]) :: O) rfl fun T W => ?_
  refine g_aloadN W d12_9 (q := 10) rfl rfl rfl ?_
  refine g_iloadN W d12_10 (q := 11) rfl rfl ?_
  refine g_putF W (i := 1) (j := 1) rfl (shStr_ok hw) shStr_nd rfl rfl (own_w hw 35 rfl) (Or.inr ⟨(own_w hw 36 rfl), rfl, hnm⟩) (own_w hw 7 rfl) (ty := .byte) (by decide) hcd hcf d12_11 (q := 14) rfl (vs' := [.ref b, .int cd]) rfl (O' := (b, ArrC Z .byte bs) :: (x, ObjC Z "java/lang/String" shStr [.ref b, .int cd]) :: O) rfl fun T W => ?_
  exact g_retV W rfl d12_14 (Nat.le_of_ble_eq_true rfl) (Nat.le_of_ble_eq_true rfl) ⟨rfl, rfl, rfl⟩
/-- one blank is skipped -/
def st (cs : List Int32) (i : Nat) : Nat := match cs[i]? with | some c => if c = 32 ∨ c = 9 then i + 1 else i | none => i
def it (cs : List Int32) : Nat → Nat → Nat
  | 0, i => i
  | n + 1, i => it cs n (st cs i)
theorem st_none {cs : List Int32} {i : Nat} (h : cs[i]? = none) : st cs i = i := by simp [st, h]
theorem st_some {cs : List Int32} {i : Nat} {c : Int32} (h : cs[i]? = some c) : st cs i = if c = 32 ∨ c = 9 then i + 1 else i := by simp [st, h]
theorem st_le {cs : List Int32} {i : Nat} (h : i ≤ cs.length) : st cs i ≤ cs.length := by
  cases e : cs[i]? with
  | none => rw [st_none e]; exact h
  | some c =>
    have := (List.getElem?_eq_some_iff.mp e).1
    rw [st_some e]; split <;> omega
theorem it_le {cs : List Int32} : ∀ (n i : Nat), i ≤ cs.length → it cs n i ≤ cs.length
  | 0, i, h => h
  | n + 1, i, h => it_le n _ (st_le h)
theorem it_fix {cs : List Int32} {i : Nat} (h : st cs i = i) : ∀ n, it cs n i = i
  | 0 => rfl
  | n + 1 => by show it cs n (st cs i) = i; rw [h]; exact it_fix h n
theorem it_eq {cs : List Int32} : ∀ (n i : Nat), cs.length - i ≤ n → it cs n i = it cs (cs.length - i) i
  | 0, i, h => by rw [show cs.length - i = 0 by omega]
  | n + 1, i, h => by
    by_cases e : st cs i = i
    · rw [it_fix e, it_fix e]
    · have hi : i < cs.length := by
        rcases Nat.lt_or_ge i cs.length with q | q
        · exact q
        · exact absurd (st_none (List.getElem?_eq_none q)) e
      have e1 : st cs i = i + 1 := by
        rw [st_some (List.getElem?_eq_getElem hi)] at e ⊢
        split at e
        · rename_i h; rw [if_pos h]
        · exact absurd rfl e
      show it cs n (st cs i) = _
      rw [e1, it_eq n (i + 1) (by omega), show cs.length - i = (cs.length - (i + 1)) + 1 by omega]
      show _ = it cs _ (st cs i)
      rw [e1]
def shLx : Shape := [("com/example/recaller/recaller/Lexer", "text", "Ljava/lang/String;"), ("com/example/recaller/recaller/Lexer", "subject", "Ljava/lang/String;"), ("com/example/recaller/recaller/Lexer", "position", "I")]
theorem shLx_ok {Z : State} {a0 : Array Value} (hw : ∀ d ∈ tables_1, d.before a0 Z = true) : ShOk Z a0 "com/example/recaller/recaller/Lexer" shLx := fun i f hf => match i, hf with
    | 0, hf => by cases hf; exact ⟨(Or.inr (own_w hw 47 rfl)), _, (by decide : parseFieldDescriptor "Ljava/lang/String;" = some (.object "java/lang/String"))⟩
    | 1, hf => by cases hf; exact ⟨(Or.inr (own_w hw 49 rfl)), _, (by decide : parseFieldDescriptor "Ljava/lang/String;" = some (.object "java/lang/String"))⟩
    | 2, hf => by cases hf; exact ⟨(Or.inl (own_w hw 59 rfl)), _, (by decide : parseFieldDescriptor "I" = some .int)⟩
    | i + 3, hf => by simp [shLx] at hf
theorem shLx_nd : (shLx.map (·.2.1)).Nodup := by decide +kernel
theorem shLx_ds : shLx.map (fun f => (parseFieldDescriptor f.2.2).map defaultValue) = [Value.null, .null, .int 0].map some := by decide +kernel
theorem d13_0 : decode prog_21_method_1_code 0 = .ok (.aload_n 0, 1) := by decide +kernel
theorem d13_1 : decode prog_21_method_1_code 1 = .ok (.invokespecial 1, 3) := by decide +kernel
theorem d13_4 : decode prog_21_method_1_code 4 = .ok (.aload_n 0, 1) := by decide +kernel
theorem d13_5 : decode prog_21_method_1_code 5 = .ok (.aload_n 1, 1) := by decide +kernel
theorem d13_6 : decode prog_21_method_1_code 6 = .ok (.putfield 7, 3) := by decide +kernel
theorem d13_9 : decode prog_21_method_1_code 9 = .ok (.aload_n 0, 1) := by decide +kernel
theorem d13_10 : decode prog_21_method_1_code 10 = .ok (.aload_n 2, 1) := by decide +kernel
theorem d13_11 : decode prog_21_method_1_code 11 = .ok (.putfield 13, 3) := by decide +kernel
theorem d13_14 : decode prog_21_method_1_code 14 = .ok (.return_, 1) := by decide +kernel
theorem ef_lxI (m : MethodId) (x : Addr) (a : Addr) (b : Addr) : entryFrame m #[(.ref x), (.ref a), (.ref b)] 3 = mkF m 0 #[.val (.ref x), .val (.ref a), .val (.ref b)] [] := by first | (simp [entryFrame, mkF, argsToLocals, Value.category]; done) | rfl
theorem pn_5 : plainName "com/example/recaller/recaller/Lexer" = true := by first | (simp [plainName, overriddenIn]; done) | decide +kernel
set_option maxRecDepth 65536 in
set_option maxHeartbeats 40000000 in
theorem con_lxI {kn : Prop} (l : Launch) (Z : State) (a0 : Array Value) (E0 : Env0 Z a0) (O P : List Ent) (x a b : Addr) :
    Con kn l Z EL0 (⟨"com/example/recaller/recaller/Lexer", "<init>", "(Ljava/lang/String;Ljava/lang/String;)V"⟩ : MethodName) prog_21_method_1_code 3 none [] ({ frames := 1, cells := 0, slots := 0, locals := 12 } : Room) #[.ref x, .ref a, .ref b] ((x, ObjC Z "com/example/recaller/recaller/Lexer" shLx [.null, .null, .int (0 : Int32)]) :: O) P (fun v O' P' => v = none ∧ O' = (x, ObjC Z "com/example/recaller/recaller/Lexer" shLx [.ref a, .ref b, .int (0 : Int32)]) :: O ∧ P = P') := by
  obtain ⟨hw, hs0, hEL, hS, ⟨cs0, hC0, hcs0⟩, hmore⟩ := id E0
  refine con_intro (plainFor_of_name pn_5) hEL (fun m => ef_lxI m _ _ _) ?_
  intro p e s m below meth c T W hnm
  refine g_aloadN W d13_0 (q := 1) rfl rfl rfl ?_
  refine g_objInit W (own_w hw 45 rfl) (own_w hw 21 rfl) (own_w hw 22 rfl) d13_1 (q := 4) rfl rfl (Nat.le_of_ble_eq_true rfl) (Nat.le_of_ble_eq_true rfl) fun T W => ?_
  refine g_aloadN W d13_4 (q := 5) rfl rfl rfl ?_
  refine g_aloadN W d13_5 (q := 6) rfl rfl rfl ?_
  refine g_putF W (i := 0) (j := 0) rfl (shLx_ok hw) shLx_nd rfl rfl (own_w hw 46 rfl) (Or.inr ⟨(own_w hw 47 rfl), rfl, hnm⟩) (own_w hw 4 rfl) (ty := (.object "java/lang/String")) (by decide) rfl rfl d13_6 (q := 9) rfl (vs' := [.ref a, .null, .int (0 : Int32)]) rfl (O' := (x, ObjC Z "com/example/recaller/recaller/Lexer" shLx [.ref a, .null, .int (0 : Int32)]) :: O) rfl fun T W => ?_
  refine g_aloadN W d13_9 (q := 10) rfl rfl rfl ?_
  refine g_aloadN W d13_10 (q := 11) rfl rfl rfl ?_
  refine g_putF W (i := 0) (j := 1) rfl (shLx_ok hw) shLx_nd rfl rfl (own_w hw 48 rfl) (Or.inr ⟨(own_w hw 49 rfl), rfl, hnm⟩) (own_w hw 4 rfl) (ty := (.object "java/lang/String")) (by decide) rfl rfl d13_11 (q := 14) rfl (vs' := [.ref a, .ref b, .int (0 : Int32)]) rfl (O' := (x, ObjC Z "com/example/recaller/recaller/Lexer" shLx [.ref a, .ref b, .int (0 : Int32)]) :: O) rfl fun T W => ?_
  exact g_retV W rfl d13_14 (Nat.le_of_ble_eq_true rfl) (Nat.le_of_ble_eq_true rfl) ⟨rfl, rfl, rfl⟩
theorem d14_0 : decode prog_21_method_3_code 0 = .ok (.aload_n 0, 1) := by decide +kernel
theorem d14_1 : decode prog_21_method_3_code 1 = .ok (.getfield 19, 3) := by decide +kernel
theorem d14_4 : decode prog_21_method_3_code 4 = .ok (.ireturn, 1) := by decide +kernel
theorem ef_gp (m : MethodId) (x : Addr) : entryFrame m #[(.ref x)] 1 = mkF m 0 #[.val (.ref x)] [] := by first | (simp [entryFrame, mkF, argsToLocals, Value.category]; done) | rfl
set_option maxRecDepth 65536 in
set_option maxHeartbeats 40000000 in
theorem con_gp {kn : Prop} (l : Launch) (Z : State) (a0 : Array Value) (E0 : Env0 Z a0) (O P : List Ent) (lx tx lb : Addr) (z : Int32) :
    Con kn l Z EL0 (⟨"com/example/recaller/recaller/Lexer", "getPosition", "()I"⟩ : MethodName) prog_21_method_3_code 1 (some .int) [] ({ frames := 0, cells := 0, slots := 0, locals := 0 } : Room) #[.ref lx] ((lx, ObjC Z "com/example/recaller/recaller/Lexer" shLx [.ref tx, .ref lb, .int z]) :: O) P (fun v O' P' => v = some (.int z) ∧ O' = (lx, ObjC Z "com/example/recaller/recaller/Lexer" shLx [.ref tx, .ref lb, .int z]) :: O ∧ P = P') := by
  obtain ⟨hw, hs0, hEL, hS, ⟨cs0, hC0, hcs0⟩, hmore⟩ := id E0
  refine con_intro (plainFor_of_name pn_5) hEL (fun m => ef_gp m _) ?_
  intro p e s m below meth c T W hnm
  refine g_aloadN W d14_0 (q := 1) rfl rfl rfl ?_
  refine g_getF W (W.ow (i := 0) rfl) (i := 2) (v := .int z) rfl rfl (own_w hw 58 rfl) d14_1 (q := 4) rfl fun T W => ?_
  exact g_retI W rfl (Or.inl rfl) rfl d14_4 (Nat.le_of_ble_eq_true rfl) (Nat.le_of_ble_eq_true rfl) ⟨rfl, rfl, rfl⟩
/-- the first place from i on that holds ch, or the length -/
def ix (cs : List Int32) (ch : Int32) : Nat → Nat → Nat
  | 0, i => i
  | n + 1, i => if cs[i]? = some ch then i else ix cs ch n (i + 1)
theorem ix_ge (cs : List Int32) (ch : Int32) : ∀ n i, i ≤ ix cs ch n i ∧ ix cs ch n i ≤ i + n
  | 0, i => ⟨Nat.le_refl _, Nat.le_refl _⟩
  | n + 1, i => by
    unfold ix; split
    · omega
    · have := ix_ge cs ch n (i + 1); omega
theorem ix_at {cs : List Int32} {ch : Int32} : ∀ (n i t : Nat), i ≤ t → t ≤ i + n → (∀ j, i ≤ j → j < t → cs[j]? ≠ some ch) → (t = i + n ∨ cs[t]? = some ch) → ix cs ch n i = t
  | 0, i, t, h1, h2, _, _ => by show i = t; omega
  | n + 1, i, t, h1, h2, h3, h4 => by
    unfold ix
    by_cases e : i = t
    · subst e
      rcases h4 with q | q
      · omega
      · rw [if_pos q]
    · rw [if_neg (h3 i (Nat.le_refl _) (by omega))]
      exact ix_at n (i + 1) t (by omega) (by omega) (fun j q r => h3 j (by omega) r) (by rcases h4 with q | q; exact Or.inl (by omega); exact Or.inr q)
theorem ix_hit {cs : List Int32} {ch : Int32} : ∀ (n i : Nat), ix cs ch n i < i + n → cs[ix cs ch n i]? = some ch
  | 0, i, h => absurd h (by show ¬ i < i + 0; omega)
  | n + 1, i, h => by
    unfold ix at h ⊢
    split
    · assumption
    · rename_i q; rw [if_neg q] at h; exact ix_hit n (i + 1) (by omega)
theorem own_sub {a b : Nat} (h : b ≤ a) (h2 : a < 2 ^ 31) : a.toInt32 - b.toInt32 = (a - b).toInt32 := by
  rw [← Int32.toInt_inj, Int32.toInt_sub, own_i32 h2, own_i32 (by omega), own_i32 (by omega), Int.bmod_eq_of_le (by omega) (by omega)]; omega
theorem own_add {a b : Nat} (h : a + b < 2 ^ 31) : a.toInt32 + b.toInt32 = (a + b).toInt32 := by
  rw [← Int32.toInt_inj, Int32.toInt_add, own_i32 (by omega), own_i32 (by omega), own_i32 (by omega), Int.bmod_eq_of_le (by omega) (by omega)]; omega
theorem enc_drop (cs : List Int32) (i : Nat) : (enc cs).drop i = enc (cs.drop i) := by simp [enc]
theorem enc_take (cs : List Int32) (i : Nat) : (enc cs).take i = enc (cs.take i) := by simp [enc]
theorem d15_0 : decode jdk_43_method_4_code 0 = .ok (.iload_n 0, 1) := by decide +kernel
theorem d15_1 : decode jdk_43_method_4_code 1 = .ok (.ifCond .lt 14, 3) := by decide +kernel
theorem d15_4 : decode jdk_43_method_4_code 4 = .ok (.iload_n 0, 1) := by decide +kernel
theorem d15_5 : decode jdk_43_method_4_code 5 = .ok (.sipush 255, 3) := by decide +kernel
theorem d15_8 : decode jdk_43_method_4_code 8 = .ok (.if_icmp .gt 7, 3) := by decide +kernel
theorem d15_11 : decode jdk_43_method_4_code 11 = .ok (.iconst 1, 1) := by decide +kernel
theorem d15_12 : decode jdk_43_method_4_code 12 = .ok (.goto 4, 3) := by decide +kernel
theorem d15_15 : decode jdk_43_method_4_code 15 = .ok (.iconst 0, 1) := by decide +kernel
theorem d15_16 : decode jdk_43_method_4_code 16 = .ok (.ireturn, 1) := by decide +kernel
theorem ef_canI (m : MethodId) (x : Int32) : entryFrame m #[(.int x)] 1 = mkF m 0 #[.val (.int x)] [] := by first | (simp [entryFrame, mkF, argsToLocals, Value.category]; done) | rfl
set_option maxRecDepth 65536 in
set_option maxHeartbeats 40000000 in
theorem con_canI {kn : Prop} (l : Launch) (Z : State) (a0 : Array Value) (E0 : Env0 Z a0) (O P : List Ent) (x : Int32) (h1 : ¬ x < 0) (h2 : ¬ (255 : Int32) < x) :
    Con kn l Z EL0 (⟨"java/lang/StringLatin1", "canEncode", "(I)Z"⟩ : MethodName) jdk_43_method_4_code 1 (some .boolean) [] ({ frames := 0, cells := 0, slots := 0, locals := 0 } : Room) #[.int x] O P (fun v O' P' => v = some (.int (1 : Int32)) ∧ O = O' ∧ P = P') := by
  obtain ⟨hw, hs0, hEL, hS, ⟨cs0, hC0, hcs0⟩, hmore⟩ := id E0
  refine con_intro (plainFor_of_name pn_4) hEL (fun m => ef_canI m _) ?_
  intro p e s m below meth c T W hnm
  refine g_iloadN W d15_0 (q := 1) rfl rfl ?_
  refine g_ifN W d15_1 (q := 4) (XT.i0_lt_f h1) rfl ?_
  refine g_iloadN W d15_4 (q := 5) rfl rfl ?_
  refine g_sipush W (v := (255 : Int32)) d15_5 (q := 8) rfl rfl ?_
  refine g_icN W d15_8 (q := 11) (XT.ii_gt_f h2) rfl ?_
  refine g_iconst W (v := (1 : Int32)) d15_11 (q := 12) rfl rfl ?_
  refine g_goto W d15_12 (q := 16) (by decide) (by decide) ?_
  exact g_retI W rfl (Or.inr (Or.inl rfl)) rfl d15_16 (Nat.le_of_ble_eq_true rfl) (Nat.le_of_ble_eq_true rfl) ⟨rfl, rfl, rfl⟩
theorem d16_0 : decode jdk_29_method_65_code 0 = .ok (.iload_n 0, 1) := by decide +kernel
theorem d16_1 : decode jdk_29_method_65_code 1 = .ok (.iload_n 1, 1) := by decide +kernel
theorem d16_2 : decode jdk_29_method_65_code 2 = .ok (.if_icmp .lt 7, 3) := by decide +kernel
theorem d16_5 : decode jdk_29_method_65_code 5 = .ok (.iload_n 0, 1) := by decide +kernel
theorem d16_6 : decode jdk_29_method_65_code 6 = .ok (.goto 4, 3) := by decide +kernel
theorem d16_9 : decode jdk_29_method_65_code 9 = .ok (.iload_n 1, 1) := by decide +kernel
theorem d16_10 : decode jdk_29_method_65_code 10 = .ok (.ireturn, 1) := by decide +kernel
theorem ef_mx (m : MethodId) (x : Int32) (y : Int32) : entryFrame m #[(.int x), (.int y)] 2 = mkF m 0 #[.val (.int x), .val (.int y)] [] := by first | (simp [entryFrame, mkF, argsToLocals, Value.category]; done) | rfl
theorem pf_6 : plainFor (⟨"java/lang/Math", "max", "(II)I"⟩ : MethodName) = true := by decide +kernel
set_option maxRecDepth 65536 in
set_option maxHeartbeats 40000000 in
theorem con_mx {kn : Prop} (l : Launch) (Z : State) (a0 : Array Value) (E0 : Env0 Z a0) (O P : List Ent) (x y : Int32) (h : ¬ x < y) :
    Con kn l Z EL0 (⟨"java/lang/Math", "max", "(II)I"⟩ : MethodName) jdk_29_method_65_code 2 (some .int) [] ({ frames := 0, cells := 0, slots := 0, locals := 0 } : Room) #[.int x, .int y] O P (fun v O' P' => v = some (.int x) ∧ O = O' ∧ P = P') := by
  obtain ⟨hw, hs0, hEL, hS, ⟨cs0, hC0, hcs0⟩, hmore⟩ := id E0
  refine con_intro pf_6 hEL (fun m => ef_mx m _ _) ?_
  intro p e s m below meth c T W hnm
  refine g_iloadN W d16_0 (q := 1) rfl rfl ?_
  refine g_iloadN W d16_1 (q := 2) rfl rfl ?_
  refine g_icN W d16_2 (q := 5) (XT.ii_lt_f h) rfl ?_
  refine g_iloadN W d16_5 (q := 6) rfl rfl ?_
  refine g_goto W d16_6 (q := 10) (by decide) (by decide) ?_
  exact g_retI W rfl (Or.inl rfl) rfl d16_10 (Nat.le_of_ble_eq_true rfl) (Nat.le_of_ble_eq_true rfl) ⟨rfl, rfl, rfl⟩
theorem d17_0 : decode jdk_29_method_69_code 0 = .ok (.iload_n 0, 1) := by decide +kernel
theorem d17_1 : decode jdk_29_method_69_code 1 = .ok (.iload_n 1, 1) := by decide +kernel
theorem d17_2 : decode jdk_29_method_69_code 2 = .ok (.if_icmp .gt 7, 3) := by decide +kernel
theorem d17_5 : decode jdk_29_method_69_code 5 = .ok (.iload_n 0, 1) := by decide +kernel
theorem d17_6 : decode jdk_29_method_69_code 6 = .ok (.goto 4, 3) := by decide +kernel
theorem d17_9 : decode jdk_29_method_69_code 9 = .ok (.iload_n 1, 1) := by decide +kernel
theorem d17_10 : decode jdk_29_method_69_code 10 = .ok (.ireturn, 1) := by decide +kernel
theorem ef_mn (m : MethodId) (x : Int32) (y : Int32) : entryFrame m #[(.int x), (.int y)] 2 = mkF m 0 #[.val (.int x), .val (.int y)] [] := by first | (simp [entryFrame, mkF, argsToLocals, Value.category]; done) | rfl
theorem pf_7 : plainFor (⟨"java/lang/Math", "min", "(II)I"⟩ : MethodName) = true := by decide +kernel
set_option maxRecDepth 65536 in
set_option maxHeartbeats 40000000 in
theorem con_mn {kn : Prop} (l : Launch) (Z : State) (a0 : Array Value) (E0 : Env0 Z a0) (O P : List Ent) (x y z : Int32) (h : if y < x then z = y else z = x) :
    Con kn l Z EL0 (⟨"java/lang/Math", "min", "(II)I"⟩ : MethodName) jdk_29_method_69_code 2 (some .int) [] ({ frames := 0, cells := 0, slots := 0, locals := 0 } : Room) #[.int x, .int y] O P (fun v O' P' => v = some (.int z) ∧ O = O' ∧ P = P') := by
  obtain ⟨hw, hs0, hEL, hS, ⟨cs0, hC0, hcs0⟩, hmore⟩ := id E0
  refine con_intro pf_7 hEL (fun m => ef_mn m _ _) ?_
  intro p e s m below meth c T W hnm
  refine g_iloadN W d17_0 (q := 1) rfl rfl ?_
  refine g_iloadN W d17_1 (q := 2) rfl rfl ?_
  by_cases hlt : y < x
  · refine g_icY W d17_2 (q := 9) (XT.ii_gt_t hlt) (by decide) (by decide) ?_
    rw [if_pos hlt] at h
    subst h
    refine g_iloadN W d17_9 (q := 10) rfl rfl ?_
    exact g_retI W rfl (Or.inl rfl) rfl d17_10 (Nat.le_of_ble_eq_true rfl) (Nat.le_of_ble_eq_true rfl) ⟨rfl, rfl, rfl⟩
  · refine g_icN W d17_2 (q := 5) (XT.ii_gt_f hlt) rfl ?_
    rw [if_neg hlt] at h
    subst h
    refine g_iloadN W d17_5 (q := 6) rfl rfl ?_
    refine g_goto W d17_6 (q := 10) (by decide) (by decide) ?_
    exact g_retI W rfl (Or.inl rfl) rfl d17_10 (Nat.le_of_ble_eq_true rfl) (Nat.le_of_ble_eq_true rfl) ⟨rfl, rfl, rfl⟩
theorem d18_0 : decode jdk_43_method_23_code 0 = .ok (.iload_n 1, 1) := by decide +kernel
theorem d18_1 : decode jdk_43_method_23_code 1 = .ok (.i2b, 1) := by decide +kernel
theorem d18_2 : decode jdk_43_method_23_code 2 = .ok (.istore 4, 2) := by decide +kernel
theorem d18_4 : decode jdk_43_method_23_code 4 = .ok (.iload_n 2, 1) := by decide +kernel
theorem d18_5 : decode jdk_43_method_23_code 5 = .ok (.istore 5, 2) := by decide +kernel
theorem d18_7 : decode jdk_43_method_23_code 7 = .ok (.iload 5, 2) := by decide +kernel
theorem d18_9 : decode jdk_43_method_23_code 9 = .ok (.iload_n 3, 1) := by decide +kernel
theorem d18_10 : decode jdk_43_method_23_code 10 = .ok (.if_icmp .ge 21, 3) := by decide +kernel
theorem d18_13 : decode jdk_43_method_23_code 13 = .ok (.aload_n 0, 1) := by decide +kernel
theorem d18_14 : decode jdk_43_method_23_code 14 = .ok (.iload 5, 2) := by decide +kernel
theorem d18_16 : decode jdk_43_method_23_code 16 = .ok (.baload, 1) := by decide +kernel
theorem d18_17 : decode jdk_43_method_23_code 17 = .ok (.iload 4, 2) := by decide +kernel
theorem d18_19 : decode jdk_43_method_23_code 19 = .ok (.if_icmp .ne 6, 3) := by decide +kernel
theorem d18_22 : decode jdk_43_method_23_code 22 = .ok (.iload 5, 2) := by decide +kernel
theorem d18_24 : decode jdk_43_method_23_code 24 = .ok (.ireturn, 1) := by decide +kernel
theorem d18_25 : decode jdk_43_method_23_code 25 = .ok (.iinc 5 1, 3) := by decide +kernel
theorem d18_28 : decode jdk_43_method_23_code 28 = .ok (.goto (-21), 3) := by decide +kernel
theorem d18_31 : decode jdk_43_method_23_code 31 = .ok (.iconst (-1), 1) := by decide +kernel
theorem d18_32 : decode jdk_43_method_23_code 32 = .ok (.ireturn, 1) := by decide +kernel
set_option maxRecDepth 65536 in
set_option maxHeartbeats 40000000 in
theorem ixc_loop {kn : Prop} {p : Program} {l : Launch} {e : Env} {R : Room} {s : State} {m : MethodId} {args : Array Value} {below : List Frame} {meth : Method} {c : Code} {Z : State} {a0 : Array Value} {P : List Ent} {k n : Nat} {O : List Ent} {b : Addr} {cs : List Int32} {ch s2 : Int32} {Q : Option Value → List Ent → List Ent → Prop} (hlen : cs.length < 2 ^ 30) (hc : ∀ d ∈ cs, 0 ≤ d.toInt ∧ d.toInt ≤ 255) (hch : 0 ≤ ch.toInt ∧ ch.toInt ≤ 255) (hB : (b, ArrC Z .byte (enc cs)) ∈ P) (hk : k ≤ R.cells) (hn : n ≤ R.slots) : ∀ (j i : Nat), i + j = cs.length → Q (some (.int (if ix cs ch j i < cs.length then (ix cs ch j i).toInt32 else (-1 : Int32)))) O P → ∀ (T : State),
    Wk kn p l e R s m args below meth c jdk_43_method_23_code 6 (some .int) Z a0 EL0 "java/lang/StringLatin1" T O P k n → Go p e below s R Z EL0 Q T (mkF m 7 #[.val (.ref b), .val (.int ch), .val (.int s2), .val (.int cs.length.toInt32), .val (.int ch.toInt8.toInt32), .val (.int i.toInt32)] []) := by
  intro j
  induction j with
  | zero =>
    intro i hi hQ T W
    refine g_iload W d18_7 (q := 9) rfl rfl ?_
    refine g_iloadN W d18_9 (q := 10) rfl rfl ?_
    refine g_icY W d18_10 (q := 31) (XT.ii_ge_t (fun z => absurd ((own_lt (by omega) (by omega)).mp z) (by omega))) (by decide) (by decide) ?_
    refine g_iconst W (v := (-1 : Int32)) d18_31 (q := 32) rfl rfl ?_
    exact g_retI W rfl (Or.inl rfl) rfl d18_32 hk hn (by rw [if_neg (show ¬ ix cs ch 0 i < cs.length by show ¬ i < _; omega)] at hQ; exact hQ)
  | succ j ih =>
    intro i hi hQ T W
    have hil : i < cs.length := by omega
    obtain ⟨u, hu⟩ : ∃ d, cs[i]? = some d := ⟨_, List.getElem?_eq_getElem hil⟩
    have hur := hc _ (List.mem_of_getElem? hu)
    refine g_iload W d18_7 (q := 9) rfl rfl ?_
    refine g_iloadN W d18_9 (q := 10) rfl rfl ?_
    refine g_icN W d18_10 (q := 13) (XT.ii_ge_f ((own_lt (by omega) (by omega)).mpr hil)) rfl ?_
    refine g_aloadN W d18_13 (q := 14) rfl rfl rfl ?_
    refine g_iload W d18_14 (q := 16) rfl rfl ?_
    refine g_baload W (W.rd hB) (own_nn (by omega)) (i := i) (own_clamp (by omega)) (v := .int u.toInt8.toInt32) (by rw [enc, List.getElem?_map, hu]; rfl) d18_16 (q := 17) rfl ?_
    refine g_iload W d18_17 (q := 19) rfl rfl ?_
    by_cases hz : u.toInt8.toInt32 = ch.toInt8.toInt32
    · refine g_icN W d18_19 (q := 22) (XT.ii_ne_f hz) rfl ?_
      have e : ix cs ch (j + 1) i = i := by rw [ix, if_pos (by rw [hu, own_b2inj hur hch hz])]
      refine g_iload W d18_22 (q := 24) rfl rfl ?_
      exact g_retI W rfl (Or.inl rfl) rfl d18_24 hk hn (by rw [e, if_pos hil] at hQ; exact hQ)
    · refine g_icY W d18_19 (q := 25) (XT.ii_ne_t hz) (by decide) (by decide) ?_
      have e : ix cs ch (j + 1) i = ix cs ch j (i + 1) := by rw [ix, if_neg (by rw [hu]; intro q; cases q; exact hz rfl)]
      refine g_iinc W d18_25 (q := 28) (z := (i + 1).toInt32) (L' := #[.val (.ref b), .val (.int ch), .val (.int s2), .val (.int cs.length.toInt32), .val (.int ch.toInt8.toInt32), .val (.int (i + 1).toInt32)]) rfl (own_succ (by omega)) rfl rfl ?_
      refine g_goto W d18_28 (q := 7) (by decide) (by decide) ?_
      exact ih (i + 1) (by omega) (by rw [← e]; exact hQ) T W
theorem ef_ixc (m : MethodId) (b : Addr) (x : Int32) (y : Int32) (z : Int32) : entryFrame m #[(.ref b), (.int x), (.int y), (.int z)] 6 = mkF m 0 #[.val (.ref b), .val (.int x), .val (.int y), .val (.int z), .unset, .unset] [] := by first | (simp [entryFrame, mkF, argsToLocals, Value.category]; done) | rfl
set_option maxRecDepth 65536 in
set_option maxHeartbeats 40000000 in
theorem con_ixc {kn : Prop} (l : Launch) (Z : State) (a0 : Array Value) (E0 : Env0 Z a0) (O P : List Ent) (b : Addr) (cs : List Int32) (ch : Int32) (i : Nat) (hlen : cs.length < 2 ^ 30) (hc : ∀ d ∈ cs, 0 ≤ d.toInt ∧ d.toInt ≤ 255) (hch : 0 ≤ ch.toInt ∧ ch.toInt ≤ 255) (hi : i ≤ cs.length) (hB : (b, ArrC Z .byte (enc cs)) ∈ P) :
    Con kn l Z EL0 (⟨"java/lang/StringLatin1", "indexOfChar", "([BIII)I"⟩ : MethodName) jdk_43_method_23_code 6 (some .int) [] ({ frames := 0, cells := 0, slots := 0, locals := 0 } : Room) #[.ref b, .int ch, .int i.toInt32, .int cs.length.toInt32] O P (fun v O' P' => v = some (.int (if ix cs ch (cs.length - i) i < cs.length then (ix cs ch (cs.length - i) i).toInt32 else (-1 : Int32))) ∧ O = O' ∧ P = P') := by
  obtain ⟨hw, hs0, hEL, hS, ⟨cs0, hC0, hcs0⟩, hmore⟩ := id E0
  refine con_intro (plainFor_of_name pn_4) hEL (fun m => ef_ixc m _ _ _ _) ?_
  intro p e s m below meth c T W hnm
  refine g_iloadN W d18_0 (q := 1) rfl rfl ?_
  refine g_i2b W d18_1 (q := 2) (z := ch.toInt8.toInt32) rfl rfl ?_
  refine g_istore W d18_2 (q := 4) (L' := #[.val (.ref b), .val (.int ch), .val (.int i.toInt32), .val (.int cs.length.toInt32), .val (.int ch.toInt8.toInt32), .unset]) rfl rfl ?_
  refine g_iloadN W d18_4 (q := 5) rfl rfl ?_
  refine g_istore W d18_5 (q := 7) (L' := #[.val (.ref b), .val (.int ch), .val (.int i.toInt32), .val (.int cs.length.toInt32), .val (.int ch.toInt8.toInt32), .val (.int i.toInt32)]) rfl rfl ?_
  exact ixc_loop hlen hc hch hB (Nat.le_of_ble_eq_true rfl) (Nat.le_of_ble_eq_true rfl) (cs.length - i) i (by omega) ⟨rfl, rfl, rfl⟩ T W
theorem d19_0 : decode jdk_43_method_22_code 0 = .ok (.iload_n 1, 1) := by decide +kernel
theorem d19_1 : decode jdk_43_method_22_code 1 = .ok (.invokestatic 88, 3) := by decide +kernel
theorem d19_4 : decode jdk_43_method_22_code 4 = .ok (.ifCond .ne 5, 3) := by decide +kernel
theorem d19_7 : decode jdk_43_method_22_code 7 = .ok (.iconst (-1), 1) := by decide +kernel
theorem d19_8 : decode jdk_43_method_22_code 8 = .ok (.ireturn, 1) := by decide +kernel
theorem d19_9 : decode jdk_43_method_22_code 9 = .ok (.iload_n 2, 1) := by decide +kernel
theorem d19_10 : decode jdk_43_method_22_code 10 = .ok (.iconst 0, 1) := by decide +kernel
theorem d19_11 : decode jdk_43_method_22_code 11 = .ok (.invokestatic 92, 3) := by decide +kernel
theorem d19_14 : decode jdk_43_method_22_code 14 = .ok (.istore_n 2, 1) := by decide +kernel
theorem d19_15 : decode jdk_43_method_22_code 15 = .ok (.iload_n 3, 1) := by decide +kernel
theorem d19_16 : decode jdk_43_method_22_code 16 = .ok (.aload_n 0, 1) := by decide +kernel
theorem d19_17 : decode jdk_43_method_22_code 17 = .ok (.arraylength, 1) := by decide +kernel
theorem d19_18 : decode jdk_43_method_22_code 18 = .ok (.invokestatic 38, 3) := by decide +kernel
theorem d19_21 : decode jdk_43_method_22_code 21 = .ok (.istore_n 3, 1) := by decide +kernel
theorem d19_22 : decode jdk_43_method_22_code 22 = .ok (.iload_n 2, 1) := by decide +kernel
theorem d19_23 : decode jdk_43_method_22_code 23 = .ok (.iload_n 3, 1) := by decide +kernel
theorem d19_24 : decode jdk_43_method_22_code 24 = .ok (.if_icmp .lt 5, 3) := by decide +kernel
theorem d19_27 : decode jdk_43_method_22_code 27 = .ok (.iconst (-1), 1) := by decide +kernel
theorem d19_28 : decode jdk_43_method_22_code 28 = .ok (.ireturn, 1) := by decide +kernel
theorem d19_29 : decode jdk_43_method_22_code 29 = .ok (.aload_n 0, 1) := by decide +kernel
theorem d19_30 : decode jdk_43_method_22_code 30 = .ok (.iload_n 1, 1) := by decide +kernel
theorem d19_31 : decode jdk_43_method_22_code 31 = .ok (.iload_n 2, 1) := by decide +kernel
theorem d19_32 : decode jdk_43_method_22_code 32 = .ok (.iload_n 3, 1) := by decide +kernel
theorem d19_33 : decode jdk_43_method_22_code 33 = .ok (.invokestatic 95, 3) := by decide +kernel
theorem d19_36 : decode jdk_43_method_22_code 36 = .ok (.ireturn, 1) := by decide +kernel
theorem ef_lix (m : MethodId) (b : Addr) (x : Int32) (y : Int32) (z : Int32) : entryFrame m #[(.ref b), (.int x), (.int y), (.int z)] 4 = mkF m 0 #[.val (.ref b), .val (.int x), .val (.int y), .val (.int z)] [] := by first | (simp [entryFrame, mkF, argsToLocals, Value.category]; done) | rfl
theorem pd_9 : parseMethodDescriptor "(I)Z" = some ⟨[.int], (some .boolean)⟩ := by decide +kernel
theorem pd_10 : parseMethodDescriptor "(II)I" = some ⟨[.int, .int], (some .int)⟩ := by decide +kernel
theorem pd_11 : parseMethodDescriptor "([BIII)I" = some ⟨[(.array .byte), .int, .int, .int], (some .int)⟩ := by decide +kernel
set_option maxRecDepth 65536 in
set_option maxHeartbeats 40000000 in
theorem con_lix {kn : Prop} (l : Launch) (Z : State) (a0 : Array Value) (E0 : Env0 Z a0) (O P : List Ent) (b : Addr) (cs : List Int32) (ch : Int32) (i : Nat) (hlen : cs.length < 2 ^ 30) (hc : ∀ d ∈ cs, 0 ≤ d.toInt ∧ d.toInt ≤ 255) (hch : 0 ≤ ch.toInt ∧ ch.toInt ≤ 255) (hi : i ≤ cs.length) (hB : (b, ArrC Z .byte (enc cs)) ∈ P) :
    Con kn l Z EL0 (⟨"java/lang/StringLatin1", "indexOf", "([BIII)I"⟩ : MethodName) jdk_43_method_22_code 4 (some .int) [] ({ frames := 1, cells := 0, slots := 0, locals := 17 } : Room) #[.ref b, .int ch, .int i.toInt32, .int cs.length.toInt32] O P (fun v O' P' => v = some (.int (if ix cs ch (cs.length - i) i < cs.length then (ix cs ch (cs.length - i) i).toInt32 else (-1 : Int32))) ∧ O = O' ∧ P = P') := by
  obtain ⟨hw, hs0, hEL, hS, ⟨cs0, hC0, hcs0⟩, hmore⟩ := id E0
  refine con_intro (plainFor_of_name pn_4) hEL (fun m => ef_lix m _ _ _ _) ?_
  intro p e s m below meth c T W hnm
  refine g_iloadN W d19_0 (q := 1) rfl rfl ?_
  refine g_static W (con_canI l Z a0 E0 O P ch (by rw [XT.negI32]; omega) (own_gt255 hch)) (argsL := [(.int ch)]) (rest := []) rfl rfl pd_9 rfl (own_w hw 84 rfl) (own_w hw 85 rfl) (own_w hw 82 rfl) (own_w hw 86 rfl) (by decide) d19_1 (q := 4) rfl rfl (Nat.le_of_ble_eq_true rfl) (Nat.le_of_ble_eq_true rfl) (Nat.le_of_ble_eq_true rfl) (Nat.le_of_ble_eq_true rfl) ?_
  rintro _ _ _ T ⟨rfl, rfl, rfl⟩ W
  refine g_ifY W d19_4 (q := 9) (XT.i0_ne_t (by decide)) (by decide) (by decide) ?_
  refine g_iloadN W d19_9 (q := 10) rfl rfl ?_
  refine g_iconst W (v := (0 : Int32)) d19_10 (q := 11) rfl rfl ?_
  refine g_static W (con_mx l Z a0 E0 O P i.toInt32 (0 : Int32) (own_nn (by omega))) (argsL := [(.int i.toInt32), (.int (0 : Int32))]) (rest := []) rfl rfl pd_10 rfl (own_w hw 87 rfl) (own_w hw 88 rfl) (own_w hw 89 rfl) (own_w hw 90 rfl) (by decide) d19_11 (q := 14) rfl rfl (Nat.le_of_ble_eq_true rfl) (Nat.le_of_ble_eq_true rfl) (Nat.le_of_ble_eq_true rfl) (Nat.le_of_ble_eq_true rfl) ?_
  rintro _ _ _ T ⟨rfl, rfl, rfl⟩ W
  refine g_istoreN W d19_14 (q := 15) (L' := #[.val (.ref b), .val (.int ch), .val (.int i.toInt32), .val (.int cs.length.toInt32)]) rfl rfl ?_
  refine g_iloadN W d19_15 (q := 16) rfl rfl ?_
  refine g_aloadN W d19_16 (q := 17) rfl rfl rfl ?_
  refine g_len W (W.rd hB) (z := cs.length.toInt32) (by rw [enc_len]) d19_17 (q := 18) rfl ?_
  refine g_static W (con_mn l Z a0 E0 O P cs.length.toInt32 cs.length.toInt32 cs.length.toInt32 (by split <;> rfl)) (argsL := [(.int cs.length.toInt32), (.int cs.length.toInt32)]) (rest := []) rfl rfl pd_10 rfl (own_w hw 91 rfl) (own_w hw 92 rfl) (own_w hw 89 rfl) (own_w hw 93 rfl) (by decide) d19_18 (q := 21) rfl rfl (Nat.le_of_ble_eq_true rfl) (Nat.le_of_ble_eq_true rfl) (Nat.le_of_ble_eq_true rfl) (Nat.le_of_ble_eq_true rfl) ?_
  rintro _ _ _ T ⟨rfl, rfl, rfl⟩ W
  refine g_istoreN W d19_21 (q := 22) (L' := #[.val (.ref b), .val (.int ch), .val (.int i.toInt32), .val (.int cs.length.toInt32)]) rfl rfl ?_
  refine g_iloadN W d19_22 (q := 23) rfl rfl ?_
  refine g_iloadN W d19_23 (q := 24) rfl rfl ?_
  by_cases hlt : i.toInt32 < cs.length.toInt32
  · refine g_icY W d19_24 (q := 29) (XT.ii_lt_t hlt) (by decide) (by decide) ?_
    refine g_aloadN W d19_29 (q := 30) rfl rfl rfl ?_
    refine g_iloadN W d19_30 (q := 31) rfl rfl ?_
    refine g_iloadN W d19_31 (q := 32) rfl rfl ?_
    refine g_iloadN W d19_32 (q := 33) rfl rfl ?_
    refine g_static W (con_ixc l Z a0 E0 O P b cs ch i hlen hc hch hi hB) (argsL := [(.ref b), (.int ch), (.int i.toInt32), (.int cs.length.toInt32)]) (rest := []) rfl rfl pd_11 rfl (own_w hw 94 rfl) (own_w hw 95 rfl) (own_w hw 82 rfl) (own_w hw 96 rfl) (by decide) d19_33 (q := 36) rfl rfl (Nat.le_of_ble_eq_true rfl) (Nat.le_of_ble_eq_true rfl) (Nat.le_of_ble_eq_true rfl) (Nat.le_of_ble_eq_true rfl) ?_
    rintro _ _ _ T ⟨rfl, rfl, rfl⟩ W
    exact g_retI W rfl (Or.inl rfl) rfl d19_36 (Nat.le_of_ble_eq_true rfl) (Nat.le_of_ble_eq_true rfl) ⟨rfl, rfl, rfl⟩
  · refine g_icN W d19_24 (q := 27) (XT.ii_lt_f hlt) rfl ?_
    refine g_iconst W (v := (-1 : Int32)) d19_27 (q := 28) rfl rfl ?_
    exact g_retI W rfl (Or.inl rfl) rfl d19_28 (Nat.le_of_ble_eq_true rfl) (Nat.le_of_ble_eq_true rfl) ⟨by rw [if_neg (by have e : i = cs.length := by { rcases Nat.lt_or_ge i cs.length with q | q; exact absurd ((own_lt (by omega) (by omega)).mpr q) hlt; omega }; subst e; rw [Nat.sub_self]; show ¬ cs.length < cs.length; omega)], rfl, rfl⟩
theorem d20_0 : decode jdk_42_method_80_code 0 = .ok (.aload_n 0, 1) := by decide +kernel
theorem d20_1 : decode jdk_42_method_80_code 1 = .ok (.invokevirtual 492, 3) := by decide +kernel
theorem d20_4 : decode jdk_42_method_80_code 4 = .ok (.ifCond .eq 19, 3) := by decide +kernel
theorem d20_7 : decode jdk_42_method_80_code 7 = .ok (.aload_n 0, 1) := by decide +kernel
theorem d20_8 : decode jdk_42_method_80_code 8 = .ok (.getfield 9, 3) := by decide +kernel
theorem d20_11 : decode jdk_42_method_80_code 11 = .ok (.iload_n 1, 1) := by decide +kernel
theorem d20_12 : decode jdk_42_method_80_code 12 = .ok (.iload_n 2, 1) := by decide +kernel
theorem d20_13 : decode jdk_42_method_80_code 13 = .ok (.aload_n 0, 1) := by decide +kernel
theorem d20_14 : decode jdk_42_method_80_code 14 = .ok (.invokevirtual 505, 3) := by decide +kernel
theorem d20_17 : decode jdk_42_method_80_code 17 = .ok (.invokestatic 637, 3) := by decide +kernel
theorem d20_20 : decode jdk_42_method_80_code 20 = .ok (.goto 16, 3) := by decide +kernel
theorem d20_23 : decode jdk_42_method_80_code 23 = .ok (.aload_n 0, 1) := by decide +kernel
theorem d20_24 : decode jdk_42_method_80_code 24 = .ok (.getfield 9, 3) := by decide +kernel
theorem d20_27 : decode jdk_42_method_80_code 27 = .ok (.iload_n 1, 1) := by decide +kernel
theorem d20_28 : decode jdk_42_method_80_code 28 = .ok (.iload_n 2, 1) := by decide +kernel
theorem d20_29 : decode jdk_42_method_80_code 29 = .ok (.aload_n 0, 1) := by decide +kernel
theorem d20_30 : decode jdk_42_method_80_code 30 = .ok (.invokevirtual 505, 3) := by decide +kernel
theorem d20_36 : decode jdk_42_method_80_code 36 = .ok (.ireturn, 1) := by decide +kernel
theorem ef_six (m : MethodId) (x : Addr) (y : Int32) (z : Int32) : entryFrame m #[(.ref x), (.int y), (.int z)] 3 = mkF m 0 #[.val (.ref x), .val (.int y), .val (.int z)] [] := by first | (simp [entryFrame, mkF, argsToLocals, Value.category]; done) | rfl
theorem pd_12 : parseMethodDescriptor "()I" = some ⟨[], (some .int)⟩ := by decide +kernel
set_option maxRecDepth 65536 in
set_option maxHeartbeats 40000000 in
theorem con_six {kn : Prop} (l : Launch) (Z : State) (a0 : Array Value) (E0 : Env0 Z a0) (O P : List Ent) (x : Addr) (cs : List Int32) (ch : Int32) (i : Nat) (hlen : cs.length < 2 ^ 30) (hc : ∀ d ∈ cs, 0 ≤ d.toInt ∧ d.toInt ≤ 255) (hch : 0 ≤ ch.toInt ∧ ch.toInt ≤ 255) (hi : i ≤ cs.length) (hs : IsL1 Z P x cs) :
    Con kn l Z EL0 (⟨"java/lang/String", "indexOf", "(II)I"⟩ : MethodName) jdk_42_method_80_code 3 (some .int) [] ({ frames := 2, cells := 0, slots := 0, locals := 32 } : Room) #[.ref x, .int ch, .int i.toInt32] O P (fun v O' P' => v = some (.int (if ix cs ch (cs.length - i) i < cs.length then (ix cs ch (cs.length - i) i).toInt32 else (-1 : Int32))) ∧ O = O' ∧ P = P') := by
  obtain ⟨hw, hs0, hEL, hS, ⟨cs0, hC0, hcs0⟩, hmore⟩ := id E0
  refine con_intro (plainFor_of_name pn_2) hEL (fun m => ef_six m _ _ _) ?_
  intro p e s m below meth c T W hnm
  obtain ⟨b, hx, hb'⟩ := id hs
  refine g_aloadN W d20_0 (q := 1) rfl rfl rfl ?_
  refine g_virtual W (con_isL l Z a0 E0 O P x cs hs) (own_ex (W.rd hx) fun _ h => h.1) (argsL := []) (rest := []) rfl rfl pd_7 rfl (own_w hw 65 rfl) (own_w hw 66 rfl) (own_w hw 68 rfl) (own_w hw 67 rfl) (own_w hw 8 rfl) (own_w hw 69 rfl) (by decide) d20_1 (q := 4) rfl rfl (Nat.le_of_ble_eq_true rfl) (Nat.le_of_ble_eq_true rfl) (Nat.le_of_ble_eq_true rfl) (Nat.le_of_ble_eq_true rfl) ?_
  rintro _ _ _ T ⟨rfl, rfl, rfl⟩ W
  refine g_ifN W d20_4 (q := 7) (XT.i0_eq_f (by decide)) rfl ?_
  refine g_aloadN W d20_7 (q := 8) rfl rfl rfl ?_
  refine g_getF W (W.rd hx) (i := 0) (v := .ref b) rfl rfl (own_w hw 37 rfl) d20_8 (q := 11) rfl fun T W => ?_
  refine g_iloadN W d20_11 (q := 12) rfl rfl ?_
  refine g_iloadN W d20_12 (q := 13) rfl rfl ?_
  refine g_aloadN W d20_13 (q := 14) rfl rfl rfl ?_
  refine g_virtual W (con_slen l Z a0 E0 O P x cs hs) (own_ex (W.rd hx) fun _ h => h.1) (argsL := []) (rest := [(.int i.toInt32), (.int ch), (.ref b)]) rfl rfl pd_12 rfl (own_w hw 70 rfl) (own_w hw 71 rfl) (own_w hw 73 rfl) (own_w hw 72 rfl) (own_w hw 8 rfl) (own_w hw 74 rfl) (by decide) d20_14 (q := 17) rfl rfl (Nat.le_of_ble_eq_true rfl) (Nat.le_of_ble_eq_true rfl) (Nat.le_of_ble_eq_true rfl) (Nat.le_of_ble_eq_true rfl) ?_
  rintro _ _ _ T ⟨rfl, rfl, rfl⟩ W
  refine g_static W (con_lix l Z a0 E0 O P b cs ch i hlen hc hch hi hb') (argsL := [(.ref b), (.int ch), (.int i.toInt32), (.int cs.length.toInt32)]) (rest := []) rfl rfl pd_11 rfl (own_w hw 80 rfl) (own_w hw 81 rfl) (own_w hw 82 rfl) (own_w hw 83 rfl) (by decide) d20_17 (q := 20) rfl rfl (Nat.le_of_ble_eq_true rfl) (Nat.le_of_ble_eq_true rfl) (Nat.le_of_ble_eq_true rfl) (Nat.le_of_ble_eq_true rfl) ?_
  rintro _ _ _ T ⟨rfl, rfl, rfl⟩ W
  refine g_goto W d20_20 (q := 36) (by decide) (by decide) ?_
  exact g_retI W rfl (Or.inl rfl) rfl d20_36 (Nat.le_of_ble_eq_true rfl) (Nat.le_of_ble_eq_true rfl) ⟨rfl, rfl, rfl⟩
theorem d21_0 : decode jdk_41_method_12_code 0 = .ok (.iload_n 0, 1) := by decide +kernel
theorem d21_1 : decode jdk_41_method_12_code 1 = .ok (.ifCond .lt 13, 3) := by decide +kernel
theorem d21_4 : decode jdk_41_method_12_code 4 = .ok (.iload_n 0, 1) := by decide +kernel
theorem d21_5 : decode jdk_41_method_12_code 5 = .ok (.iload_n 1, 1) := by decide +kernel
theorem d21_6 : decode jdk_41_method_12_code 6 = .ok (.if_icmp .gt 8, 3) := by decide +kernel
theorem d21_9 : decode jdk_41_method_12_code 9 = .ok (.iload_n 1, 1) := by decide +kernel
theorem d21_10 : decode jdk_41_method_12_code 10 = .ok (.iload_n 2, 1) := by decide +kernel
theorem d21_11 : decode jdk_41_method_12_code 11 = .ok (.if_icmp .le 11, 3) := by decide +kernel
theorem d21_14 : decode jdk_41_method_12_code 14 = .ok (.aload_n 3, 1) := by decide +kernel
theorem d21_15 : decode jdk_41_method_12_code 15 = .ok (.iload_n 0, 1) := by decide +kernel
theorem d21_16 : decode jdk_41_method_12_code 16 = .ok (.iload_n 1, 1) := by decide +kernel
theorem d21_17 : decode jdk_41_method_12_code 17 = .ok (.iload_n 2, 1) := by decide +kernel
theorem d21_21 : decode jdk_41_method_12_code 21 = .ok (.athrow, 1) := by decide +kernel
theorem d21_22 : decode jdk_41_method_12_code 22 = .ok (.iload_n 0, 1) := by decide +kernel
theorem d21_23 : decode jdk_41_method_12_code 23 = .ok (.ireturn, 1) := by decide +kernel
theorem ef_pft (m : MethodId) (i j k : Int32) (fv : Value) (hv : fv.isRef = true) : entryFrame m #[.int i, .int j, .int k, fv] 4 = mkF m 0 #[.val (.int i), .val (.int j), .val (.int k), .val fv] [] := by rcases ref_cases hv with rfl | ⟨r, rfl⟩ <;> first | (simp [entryFrame, mkF, argsToLocals, Value.category]; done) | rfl
set_option maxRecDepth 65536 in
set_option maxHeartbeats 40000000 in
theorem con_pft {kn : Prop} (l : Launch) (Z : State) (a0 : Array Value) (E0 : Env0 Z a0) (O P : List Ent) (i j k : Int32) (fv : Value) (hv : fv.isRef = true) (h1 : ¬ i < 0) (h2 : ¬ j < i) (h3 : ¬ k < j) :
    Con kn l Z EL0 (⟨"jdk/internal/util/Preconditions", "checkFromToIndex", "(IIILjava/util/function/BiFunction;)I"⟩ : MethodName) jdk_41_method_12_code 4 (some .int) [] ({ frames := 0, cells := 0, slots := 0, locals := 0 } : Room) #[.int i, .int j, .int k, fv] O P (fun v O' P' => v = some (.int i) ∧ O = O' ∧ P = P') := by
  obtain ⟨hw, hs0, hEL, hS, ⟨cs0, hC0, hcs0⟩, hmore⟩ := id E0
  refine con_intro (plainFor_of_name pn_3) hEL (fun m => ef_pft m _ _ _ _ hv) ?_
  intro p e s m below meth c T W hnm
  refine g_iloadN W d21_0 (q := 1) rfl rfl ?_
  refine g_ifN W d21_1 (q := 4) (XT.i0_lt_f h1) rfl ?_
  refine g_iloadN W d21_4 (q := 5) rfl rfl ?_
  refine g_iloadN W d21_5 (q := 6) rfl rfl ?_
  refine g_icN W d21_6 (q := 9) (XT.ii_gt_f h2) rfl ?_
  refine g_iloadN W d21_9 (q := 10) rfl rfl ?_
  refine g_iloadN W d21_10 (q := 11) rfl rfl ?_
  refine g_icY W d21_11 (q := 22) (XT.ii_le_t h3) (by decide) (by decide) ?_
  refine g_iloadN W d21_22 (q := 23) rfl rfl ?_
  exact g_retI W rfl (Or.inl rfl) rfl d21_23 (Nat.le_of_ble_eq_true rfl) (Nat.le_of_ble_eq_true rfl) ⟨rfl, rfl, rfl⟩
theorem d22_0 : decode jdk_42_method_158_code 0 = .ok (.iload_n 0, 1) := by decide +kernel
theorem d22_1 : decode jdk_42_method_158_code 1 = .ok (.iload_n 1, 1) := by decide +kernel
theorem d22_2 : decode jdk_42_method_158_code 2 = .ok (.iload_n 2, 1) := by decide +kernel
theorem d22_3 : decode jdk_42_method_158_code 3 = .ok (.getstatic 1053, 3) := by decide +kernel
theorem d22_6 : decode jdk_42_method_158_code 6 = .ok (.invokestatic 1062, 3) := by decide +kernel
theorem d22_9 : decode jdk_42_method_158_code 9 = .ok (.pop, 1) := by decide +kernel
theorem d22_10 : decode jdk_42_method_158_code 10 = .ok (.return_, 1) := by decide +kernel
theorem ef_cbe (m : MethodId) (i : Int32) (j : Int32) (k : Int32) : entryFrame m #[(.int i), (.int j), (.int k)] 3 = mkF m 0 #[.val (.int i), .val (.int j), .val (.int k)] [] := by first | (simp [entryFrame, mkF, argsToLocals, Value.category]; done) | rfl
theorem pd_13 : parseMethodDescriptor "(IIILjava/util/function/BiFunction;)I" = some ⟨[.int, .int, .int, (.object "java/util/function/BiFunction")], (some .int)⟩ := by decide +kernel
set_option maxRecDepth 65536 in
set_option maxHeartbeats 40000000 in
theorem con_cbe {kn : Prop} (l : Launch) (Z : State) (a0 : Array Value) (E0 : Env0 Z a0) (O P : List Ent) (i j k : Int32) (h1 : ¬ i < 0) (h2 : ¬ j < i) (h3 : ¬ k < j) :
    Con kn l Z EL0 (⟨"java/lang/String", "checkBoundsBeginEnd", "(III)V"⟩ : MethodName) jdk_42_method_158_code 3 none [] ({ frames := 1, cells := 0, slots := 0, locals := 15 } : Room) #[.int i, .int j, .int k] O P (fun v O' P' => v = none ∧ O = O' ∧ P = P') := by
  obtain ⟨hw, hs0, hEL, hS, ⟨cs0, hC0, hcs0⟩, hmore⟩ := id E0
  refine con_intro (plainFor_of_name pn_2) hEL (fun m => ef_cbe m _ _ _) ?_
  intro p e s m below meth c T W hnm
  obtain ⟨⟨fv, hF, hfv⟩, -⟩ := hmore
  refine g_iloadN W d22_0 (q := 1) rfl rfl ?_
  refine g_iloadN W d22_1 (q := 2) rfl rfl ?_
  refine g_iloadN W d22_2 (q := 3) rfl rfl ?_
  refine g_getS W hF (own_w hw 106 rfl) d22_3 (q := 6) rfl fun T W => ?_
  refine g_static W (con_pft l Z a0 E0 O P i j k fv hfv h1 h2 h3) (argsL := [(.int i), (.int j), (.int k), (fv)]) (rest := []) rfl rfl pd_13 rfl (own_w hw 108 rfl) (own_w hw 109 rfl) (own_w hw 107 rfl) (own_w hw 110 rfl) (by decide) d22_6 (q := 9) rfl rfl (Nat.le_of_ble_eq_true rfl) (Nat.le_of_ble_eq_true rfl) (Nat.le_of_ble_eq_true rfl) (Nat.le_of_ble_eq_true rfl) ?_
  rintro _ _ _ T ⟨rfl, rfl, rfl⟩ W
  refine g_pop W d22_9 (q := 10) rfl rfl ?_
  exact g_retV W rfl d22_10 (Nat.le_of_ble_eq_true rfl) (Nat.le_of_ble_eq_true rfl) ⟨rfl, rfl, rfl⟩
theorem d23_0 : decode jdk_65_method_131_code 0 = .ok (.iload_n 1, 1) := by decide +kernel
theorem d23_1 : decode jdk_65_method_131_code 1 = .ok (.iload_n 0, 1) := by decide +kernel
theorem d23_2 : decode jdk_65_method_131_code 2 = .ok (.if_icmp .ge 35, 3) := by decide +kernel
theorem d23_8 : decode jdk_65_method_131_code 8 = .ok (.dup, 1) := by decide +kernel
theorem d23_12 : decode jdk_65_method_131_code 12 = .ok (.dup, 1) := by decide +kernel
theorem d23_16 : decode jdk_65_method_131_code 16 = .ok (.iload_n 0, 1) := by decide +kernel
theorem d23_26 : decode jdk_65_method_131_code 26 = .ok (.iload_n 1, 1) := by decide +kernel
theorem d23_36 : decode jdk_65_method_131_code 36 = .ok (.athrow, 1) := by decide +kernel
theorem d23_37 : decode jdk_65_method_131_code 37 = .ok (.return_, 1) := by decide +kernel
theorem ef_ckl (m : MethodId) (i : Int32) (j : Int32) : entryFrame m #[(.int i), (.int j)] 2 = mkF m 0 #[.val (.int i), .val (.int j)] [] := by first | (simp [entryFrame, mkF, argsToLocals, Value.category]; done) | rfl
theorem pn_8 : plainName "java/util/Arrays" = true := by first | (simp [plainName, overriddenIn]; done) | decide +kernel
set_option maxRecDepth 65536 in
set_option maxHeartbeats 40000000 in
theorem con_ckl {kn : Prop} (l : Launch) (Z : State) (a0 : Array Value) (E0 : Env0 Z a0) (O P : List Ent) (i j : Int32) (h : ¬ j < i) :
    Con kn l Z EL0 (⟨"java/util/Arrays", "checkLength", "(II)V"⟩ : MethodName) jdk_65_method_131_code 2 none [] ({ frames := 0, cells := 0, slots := 0, locals := 0 } : Room) #[.int i, .int j] O P (fun v O' P' => v = none ∧ O = O' ∧ P = P') := by
  obtain ⟨hw, hs0, hEL, hS, ⟨cs0, hC0, hcs0⟩, hmore⟩ := id E0
  refine con_intro (plainFor_of_name pn_8) hEL (fun m => ef_ckl m _ _) ?_
  intro p e s m below meth c T W hnm
  refine g_iloadN W d23_0 (q := 1) rfl rfl ?_
  refine g_iloadN W d23_1 (q := 2) rfl rfl ?_
  refine g_icY W d23_2 (q := 37) (XT.ii_ge_t h) (by decide) (by decide) ?_
  exact g_retV W rfl d23_37 (Nat.le_of_ble_eq_true rfl) (Nat.le_of_ble_eq_true rfl) ⟨rfl, rfl, rfl⟩
theorem d24_0 : decode jdk_65_method_133_code 0 = .ok (.iload_n 1, 1) := by decide +kernel
theorem d24_1 : decode jdk_65_method_133_code 1 = .ok (.iload_n 2, 1) := by decide +kernel
theorem d24_2 : decode jdk_65_method_133_code 2 = .ok (.invokestatic 343, 3) := by decide +kernel
theorem d24_5 : decode jdk_65_method_133_code 5 = .ok (.iload_n 2, 1) := by decide +kernel
theorem d24_6 : decode jdk_65_method_133_code 6 = .ok (.iload_n 1, 1) := by decide +kernel
theorem d24_7 : decode jdk_65_method_133_code 7 = .ok (.isub, 1) := by decide +kernel
theorem d24_8 : decode jdk_65_method_133_code 8 = .ok (.istore_n 3, 1) := by decide +kernel
theorem d24_9 : decode jdk_65_method_133_code 9 = .ok (.iload_n 3, 1) := by decide +kernel
theorem d24_10 : decode jdk_65_method_133_code 10 = .ok (.newarray .byte, 2) := by decide +kernel
theorem d24_12 : decode jdk_65_method_133_code 12 = .ok (.astore 4, 2) := by decide +kernel
theorem d24_14 : decode jdk_65_method_133_code 14 = .ok (.aload_n 0, 1) := by decide +kernel
theorem d24_15 : decode jdk_65_method_133_code 15 = .ok (.iload_n 1, 1) := by decide +kernel
theorem d24_16 : decode jdk_65_method_133_code 16 = .ok (.aload 4, 2) := by decide +kernel
theorem d24_18 : decode jdk_65_method_133_code 18 = .ok (.iconst 0, 1) := by decide +kernel
theorem d24_19 : decode jdk_65_method_133_code 19 = .ok (.aload_n 0, 1) := by decide +kernel
theorem d24_20 : decode jdk_65_method_133_code 20 = .ok (.arraylength, 1) := by decide +kernel
theorem d24_21 : decode jdk_65_method_133_code 21 = .ok (.iload_n 1, 1) := by decide +kernel
theorem d24_22 : decode jdk_65_method_133_code 22 = .ok (.isub, 1) := by decide +kernel
theorem d24_23 : decode jdk_65_method_133_code 23 = .ok (.iload_n 3, 1) := by decide +kernel
theorem d24_24 : decode jdk_65_method_133_code 24 = .ok (.invokestatic 304, 3) := by decide +kernel
theorem d24_27 : decode jdk_65_method_133_code 27 = .ok (.invokestatic 150, 3) := by decide +kernel
theorem d24_30 : decode jdk_65_method_133_code 30 = .ok (.aload 4, 2) := by decide +kernel
theorem d24_32 : decode jdk_65_method_133_code 32 = .ok (.areturn, 1) := by decide +kernel
theorem ef_crb (m : MethodId) (a : Addr) (i : Int32) (j : Int32) : entryFrame m #[(.ref a), (.int i), (.int j)] 5 = mkF m 0 #[.val (.ref a), .val (.int i), .val (.int j), .unset, .unset] [] := by first | (simp [entryFrame, mkF, argsToLocals, Value.category]; done) | rfl
set_option maxRecDepth 65536 in
set_option maxHeartbeats 40000000 in
theorem con_crb {kn : Prop} (l : Launch) (Z : State) (a0 : Array Value) (E0 : Env0 Z a0) (O P : List Ent) (a : Addr) (cs : List Int32) (i j N : Nat) (hlen : cs.length < 2 ^ 30) (hij : i ≤ j) (hj : j ≤ cs.length) (hN : j - i ≤ N) (hN2 : N ≤ 60000) (hA : (a, ArrC Z .byte (enc cs)) ∈ P) :
    Con kn l Z EL0 (⟨"java/util/Arrays", "copyOfRangeByte", "([BII)[B"⟩ : MethodName) jdk_65_method_133_code 5 (some (.array .byte)) [] ({ frames := 1, cells := 1, slots := N, locals := 30 } : Room) #[.ref a, .int i.toInt32, .int j.toInt32] O P (fun v O' P' => ∃ b, v = some (.ref b) ∧ O' = (b, ArrC Z .byte (enc ((cs.drop i).take (j - i)))) :: O ∧ P = P') := by
  obtain ⟨hw, hs0, hEL, hS, ⟨cs0, hC0, hcs0⟩, hmore⟩ := id E0
  refine con_intro (plainFor_of_name pn_8) hEL (fun m => ef_crb m _ _ _) ?_
  intro p e s m below meth c T W hnm
  refine g_iloadN W d24_0 (q := 1) rfl rfl ?_
  refine g_iloadN W d24_1 (q := 2) rfl rfl ?_
  refine g_static W (con_ckl l Z a0 E0 O P _ _ (fun z => absurd ((own_lt (by omega) (by omega)).mp z) (by omega))) (argsL := [(.int i.toInt32), (.int j.toInt32)]) (rest := []) rfl rfl pd_6 rfl (own_w hw 147 rfl) (own_w hw 148 rfl) (own_w hw 142 rfl) (own_w hw 149 rfl) (by decide) d24_2 (q := 5) rfl rfl (Nat.le_of_ble_eq_true rfl) (Nat.le_of_ble_eq_true rfl) (Nat.le_of_ble_eq_true rfl) (by dsimp only; omega) ?_
  rintro _ _ _ T ⟨rfl, rfl, rfl⟩ W
  refine g_iloadN W d24_5 (q := 6) rfl rfl ?_
  refine g_iloadN W d24_6 (q := 7) rfl rfl ?_
  refine g_isub W d24_7 (q := 8) (z := (j - i).toInt32) (own_sub hij (by omega)) rfl ?_
  refine g_istoreN W d24_8 (q := 9) (L' := #[.val (.ref a), .val (.int i.toInt32), .val (.int j.toInt32), .val (.int (j - i).toInt32), .unset]) rfl rfl ?_
  refine g_iloadN W d24_9 (q := 10) rfl rfl ?_
  refine g_newA W (ty := .byte) (cap := N) (vs := List.replicate (j - i) (.int 0)) rfl (own_w hw 28 rfl) (own_nn (by omega)) (by rw [own_clamp (by omega)]; exact hN) (by omega) rfl (by rw [own_clamp (by omega)]; rfl) d24_10 (q := 12) rfl (Nat.le_of_ble_eq_true rfl) (by dsimp only; omega) fun b T W => ?_
  refine g_astore W d24_12 (q := 14) (L' := #[.val (.ref a), .val (.int i.toInt32), .val (.int j.toInt32), .val (.int (j - i).toInt32), .val (.ref b)]) rfl rfl rfl ?_
  refine g_aloadN W d24_14 (q := 15) rfl rfl rfl ?_
  refine g_iloadN W d24_15 (q := 16) rfl rfl ?_
  refine g_aload W d24_16 (q := 18) rfl rfl rfl ?_
  refine g_iconst W (v := (0 : Int32)) d24_18 (q := 19) rfl rfl ?_
  refine g_aloadN W d24_19 (q := 20) rfl rfl rfl ?_
  refine g_len W (W.rd hA) (z := cs.length.toInt32) (by rw [enc_len]) d24_20 (q := 21) rfl ?_
  refine g_iloadN W d24_21 (q := 22) rfl rfl ?_
  refine g_isub W d24_22 (q := 23) (z := (cs.length - i).toInt32) (own_sub (by omega) (by omega)) rfl ?_
  refine g_iloadN W d24_23 (q := 24) rfl rfl ?_
  refine g_static W (con_mn l Z a0 E0 _ P (cs.length - i).toInt32 (j - i).toInt32 (j - i).toInt32 (by split; rfl; rename_i h; exact (own_eq (by omega) (by omega)).mpr (by rcases Nat.lt_or_ge (j - i) (cs.length - i) with q | q; exact absurd ((own_lt (by omega) (by omega)).mpr q) h; omega))) (argsL := [(.int (cs.length - i).toInt32), (.int (j - i).toInt32)]) (rest := [(.int (0 : Int32)), (.ref b), (.int i.toInt32), (.ref a)]) rfl rfl pd_10 rfl (own_w hw 150 rfl) (own_w hw 92 rfl) (own_w hw 89 rfl) (own_w hw 93 rfl) (by decide) d24_24 (q := 27) rfl rfl (Nat.le_of_ble_eq_true rfl) (Nat.le_of_ble_eq_true rfl) (Nat.le_of_ble_eq_true rfl) (by dsimp only; omega) ?_
  rintro _ _ _ T ⟨rfl, rfl, rfl⟩ W
  refine g_copy W (i := 0) (sp := i) (dp := 0) (nn := (j - i)) (W.rd hA) rfl rfl rfl rfl rfl (by rw [enc_len]; omega) (by simp) (own_w hw 151 rfl) (own_w hw 154 rfl) (own_w hw 152 rfl) (own_w hw 153 rfl) d24_27 (q := 30) rfl rfl (Nat.le_of_ble_eq_true rfl) (Nat.le_of_ble_eq_true rfl) (vd' := (enc ((cs.drop i).take (j - i)))) (by simp [enc_drop, enc_take]) (O' := (b, ArrC Z .byte (enc ((cs.drop i).take (j - i)))) :: O) rfl fun T W => ?_
  refine g_aload W d24_30 (q := 32) rfl rfl rfl ?_
  exact g_retA W rfl rfl rfl d24_32 (Nat.le_of_ble_eq_true rfl) (by dsimp only; omega) ⟨b, rfl, rfl, rfl⟩
theorem d25_0 : decode jdk_65_method_132_code 0 = .ok (.iload_n 1, 1) := by decide +kernel
theorem d25_1 : decode jdk_65_method_132_code 1 = .ok (.ifCond .ne 9, 3) := by decide +kernel
theorem d25_4 : decode jdk_65_method_132_code 4 = .ok (.iload_n 2, 1) := by decide +kernel
theorem d25_5 : decode jdk_65_method_132_code 5 = .ok (.aload_n 0, 1) := by decide +kernel
theorem d25_6 : decode jdk_65_method_132_code 6 = .ok (.arraylength, 1) := by decide +kernel
theorem d25_7 : decode jdk_65_method_132_code 7 = .ok (.if_icmp .eq 10, 3) := by decide +kernel
theorem d25_10 : decode jdk_65_method_132_code 10 = .ok (.aload_n 0, 1) := by decide +kernel
theorem d25_11 : decode jdk_65_method_132_code 11 = .ok (.iload_n 1, 1) := by decide +kernel
theorem d25_12 : decode jdk_65_method_132_code 12 = .ok (.iload_n 2, 1) := by decide +kernel
theorem d25_13 : decode jdk_65_method_132_code 13 = .ok (.invokestatic 339, 3) := by decide +kernel
theorem d25_16 : decode jdk_65_method_132_code 16 = .ok (.areturn, 1) := by decide +kernel
theorem d25_17 : decode jdk_65_method_132_code 17 = .ok (.aload_n 0, 1) := by decide +kernel
theorem d25_24 : decode jdk_65_method_132_code 24 = .ok (.areturn, 1) := by decide +kernel
theorem ef_cor (m : MethodId) (a : Addr) (i : Int32) (j : Int32) : entryFrame m #[(.ref a), (.int i), (.int j)] 3 = mkF m 0 #[.val (.ref a), .val (.int i), .val (.int j)] [] := by first | (simp [entryFrame, mkF, argsToLocals, Value.category]; done) | rfl
theorem pd_14 : parseMethodDescriptor "([BII)[B" = some ⟨[(.array .byte), .int, .int], (some (.array .byte))⟩ := by decide +kernel
set_option maxRecDepth 65536 in
set_option maxHeartbeats 40000000 in
theorem con_cor {kn : Prop} (l : Launch) (Z : State) (a0 : Array Value) (E0 : Env0 Z a0) (O P : List Ent) (a : Addr) (cs : List Int32) (i j N : Nat) (hlen : cs.length < 2 ^ 30) (hij : i ≤ j) (hj : j ≤ cs.length) (hN : j - i ≤ N) (hN2 : N ≤ 60000) (hA : (a, ArrC Z .byte (enc cs)) ∈ P) (hne : ¬ (i = 0 ∧ j = cs.length)) :
    Con kn l Z EL0 (⟨"java/util/Arrays", "copyOfRange", "([BII)[B"⟩ : MethodName) jdk_65_method_132_code 3 (some (.array .byte)) [] ({ frames := 2, cells := 1, slots := N, locals := 46 } : Room) #[.ref a, .int i.toInt32, .int j.toInt32] O P (fun v O' P' => ∃ b, v = some (.ref b) ∧ O' = (b, ArrC Z .byte (enc ((cs.drop i).take (j - i)))) :: O ∧ P = P') := by
  obtain ⟨hw, hs0, hEL, hS, ⟨cs0, hC0, hcs0⟩, hmore⟩ := id E0
  refine con_intro (plainFor_of_name pn_8) hEL (fun m => ef_cor m _ _ _) ?_
  intro p e s m below meth c T W hnm
  refine g_iloadN W d25_0 (q := 1) rfl rfl ?_
  by_cases h0 : i.toInt32 = 0
  · refine g_ifN W d25_1 (q := 4) (XT.i0_ne_f h0) rfl ?_
    refine g_iloadN W d25_4 (q := 5) rfl rfl ?_
    refine g_aloadN W d25_5 (q := 6) rfl rfl rfl ?_
    refine g_len W (W.rd hA) (z := cs.length.toInt32) (by rw [enc_len]) d25_6 (q := 7) rfl ?_
    refine g_icN W d25_7 (q := 10) (XT.ii_eq_f (fun z => hne ⟨(own_eq (j := 0) (by omega) (by decide)).mp h0, (own_eq (by omega) (by omega)).mp z⟩)) rfl ?_
    refine g_aloadN W d25_10 (q := 11) rfl rfl rfl ?_
    refine g_iloadN W d25_11 (q := 12) rfl rfl ?_
    refine g_iloadN W d25_12 (q := 13) rfl rfl ?_
    refine g_static W (con_crb l Z a0 E0 O P a cs i j N hlen hij hj hN hN2 hA) (argsL := [(.ref a), (.int i.toInt32), (.int j.toInt32)]) (rest := []) rfl rfl pd_14 rfl (own_w hw 144 rfl) (own_w hw 145 rfl) (own_w hw 142 rfl) (own_w hw 146 rfl) (by decide) d25_13 (q := 16) rfl rfl (Nat.le_of_ble_eq_true rfl) (Nat.le_of_ble_eq_true rfl) (Nat.le_of_ble_eq_true rfl) (by dsimp only; omega) ?_
    rintro _ _ _ T ⟨b, rfl, rfl, rfl⟩ W
    exact g_retA W rfl rfl rfl d25_16 (Nat.le_of_ble_eq_true rfl) (by dsimp only; omega) ⟨b, rfl, rfl, rfl⟩
  · refine g_ifY W d25_1 (q := 10) (XT.i0_ne_t h0) (by decide) (by decide) ?_
    refine g_aloadN W d25_10 (q := 11) rfl rfl rfl ?_
    refine g_iloadN W d25_11 (q := 12) rfl rfl ?_
    refine g_iloadN W d25_12 (q := 13) rfl rfl ?_
    refine g_static W (con_crb l Z a0 E0 O P a cs i j N hlen hij hj hN hN2 hA) (argsL := [(.ref a), (.int i.toInt32), (.int j.toInt32)]) (rest := []) rfl rfl pd_14 rfl (own_w hw 144 rfl) (own_w hw 145 rfl) (own_w hw 142 rfl) (own_w hw 146 rfl) (by decide) d25_13 (q := 16) rfl rfl (Nat.le_of_ble_eq_true rfl) (Nat.le_of_ble_eq_true rfl) (Nat.le_of_ble_eq_true rfl) (by dsimp only; omega) ?_
    rintro _ _ _ T ⟨b, rfl, rfl, rfl⟩ W
    exact g_retA W rfl rfl rfl d25_16 (Nat.le_of_ble_eq_true rfl) (by dsimp only; omega) ⟨b, rfl, rfl, rfl⟩
theorem d26_0 : decode jdk_43_method_47_code 0 = .ok (.iload_n 2, 1) := by decide +kernel
theorem d26_1 : decode jdk_43_method_47_code 1 = .ok (.ifCond .ne 6, 3) := by decide +kernel
theorem d26_4 : decode jdk_43_method_47_code 4 = .ok (.ldc 151, 2) := by decide +kernel
theorem d26_6 : decode jdk_43_method_47_code 6 = .ok (.areturn, 1) := by decide +kernel
theorem d26_7 : decode jdk_43_method_47_code 7 = .ok (.new 1, 3) := by decide +kernel
theorem d26_10 : decode jdk_43_method_47_code 10 = .ok (.dup, 1) := by decide +kernel
theorem d26_11 : decode jdk_43_method_47_code 11 = .ok (.aload_n 0, 1) := by decide +kernel
theorem d26_12 : decode jdk_43_method_47_code 12 = .ok (.iload_n 1, 1) := by decide +kernel
theorem d26_13 : decode jdk_43_method_47_code 13 = .ok (.iload_n 1, 1) := by decide +kernel
theorem d26_14 : decode jdk_43_method_47_code 14 = .ok (.iload_n 2, 1) := by decide +kernel
theorem d26_15 : decode jdk_43_method_47_code 15 = .ok (.iadd, 1) := by decide +kernel
theorem d26_16 : decode jdk_43_method_47_code 16 = .ok (.invokestatic 232, 3) := by decide +kernel
theorem d26_19 : decode jdk_43_method_47_code 19 = .ok (.iconst 0, 1) := by decide +kernel
theorem d26_20 : decode jdk_43_method_47_code 20 = .ok (.invokespecial 112, 3) := by decide +kernel
theorem d26_23 : decode jdk_43_method_47_code 23 = .ok (.areturn, 1) := by decide +kernel
theorem ef_ns (m : MethodId) (a : Addr) (i : Int32) (j : Int32) : entryFrame m #[(.ref a), (.int i), (.int j)] 3 = mkF m 0 #[.val (.ref a), .val (.int i), .val (.int j)] [] := by first | (simp [entryFrame, mkF, argsToLocals, Value.category]; done) | rfl
theorem pd_15 : parseMethodDescriptor "([BB)V" = some ⟨[(.array .byte), .byte], none⟩ := by decide +kernel
set_option maxRecDepth 65536 in
set_option maxHeartbeats 40000000 in
theorem con_ns {kn : Prop} (l : Launch) (Z : State) (a0 : Array Value) (E0 : Env0 Z a0) (O P : List Ent) (a : Addr) (cs : List Int32) (i d N : Nat) (hlen : cs.length < 2 ^ 30) (hj : i + d ≤ cs.length) (hN : d ≤ N) (hN2 : N ≤ 60000) (hA : (a, ArrC Z .byte (enc cs)) ∈ P) (hne : ¬ (i = 0 ∧ d = cs.length)) :
    Con kn l Z EL0 (⟨"java/lang/StringLatin1", "newString", "([BII)Ljava/lang/String;"⟩ : MethodName) jdk_43_method_47_code 3 (some (.object "java/lang/String")) [] ({ frames := 3, cells := 2, slots := N + 4, locals := 62 } : Room) #[.ref a, .int i.toInt32, .int d.toInt32] O P (fun v O' P' => ∃ x, v = some (.ref x) ∧ O = O' ∧ (∀ y ∈ P, y ∈ P') ∧ IsL1 Z P' x ((cs.drop i).take d)) := by
  obtain ⟨hw, hs0, hEL, hS, ⟨cs0, hC0, hcs0⟩, hmore⟩ := id E0
  refine con_intro (plainFor_of_name pn_4) hEL (fun m => ef_ns m _ _ _) ?_
  intro p e s m below meth c T W hnm
  refine g_iloadN W d26_0 (q := 1) rfl rfl ?_
  by_cases h0 : d.toInt32 = 0
  · refine g_ifN W d26_1 (q := 4) (XT.i0_ne_f h0) rfl ?_
    obtain rfl : d = 0 := (own_eq (j := 0) (by omega) (by decide)).mp h0
    refine g_ldcH W (vs := enc []) (own_w hw 137 rfl) hS (by decide +kernel) lit_137 (by decide) enc_fits d26_4 (q := 6) rfl (nn := 0) (by decide +kernel) (Nat.le_of_ble_eq_true rfl) (Nat.le_of_ble_eq_true rfl) (by dsimp only; omega) fun e1 b1 T W => ?_
    exact g_retA W rfl rfl rfl d26_6 (Nat.le_of_ble_eq_true rfl) (by dsimp only; omega) ⟨e1, rfl, rfl, fun y hy => .tail _ (.tail _ hy), b1, .head _, .tail _ (by rw [List.take_zero]; exact .head _)⟩
  · refine g_ifY W d26_1 (q := 7) (XT.i0_ne_t h0) (by decide) (by decide) ?_
    refine g_new W (shStr_ok hw) shStr_ds (own_w hw 139 rfl) (own_w hw 7 rfl) (own_w hw 8 rfl) d26_7 (q := 10) rfl (Nat.le_of_ble_eq_true rfl) (by dsimp only; omega) fun x T W => ?_
    refine g_dup W d26_10 (q := 11) rfl rfl ?_
    refine g_aloadN W d26_11 (q := 12) rfl rfl rfl ?_
    refine g_iloadN W d26_12 (q := 13) rfl rfl ?_
    refine g_iloadN W d26_13 (q := 14) rfl rfl ?_
    refine g_iloadN W d26_14 (q := 15) rfl rfl ?_
    refine g_iadd W d26_15 (q := 16) (z := (i + d).toInt32) (own_add (by omega)) rfl ?_
    refine g_static W (con_cor l Z a0 E0 _ P a cs i (i + d) N hlen (by omega) hj (by omega) hN2 hA (fun z => hne ⟨z.1, by omega⟩)) (argsL := [(.ref a), (.int i.toInt32), (.int (i + d).toInt32)]) (rest := [(.ref x), (.ref x)]) rfl rfl pd_14 rfl (own_w hw 140 rfl) (own_w hw 141 rfl) (own_w hw 142 rfl) (own_w hw 143 rfl) (by decide) d26_16 (q := 19) rfl rfl (Nat.le_of_ble_eq_true rfl) (Nat.le_of_ble_eq_true rfl) (Nat.le_of_ble_eq_true rfl) (by dsimp only; omega) ?_
    rintro _ _ _ T ⟨b, rfl, rfl, rfl⟩ W
    refine g_iconst W (v := (0 : Int32)) d26_19 (q := 20) rfl rfl ?_
    refine g_special W (con_sBB l Z a0 E0 O P x b _ (0 : Int32) rfl rfl) (argsL := [(.ref b), (.int (0 : Int32))]) (rest := [(.ref x)]) rfl rfl rfl pd_15 rfl (own_w hw 155 rfl) (own_w hw 156 rfl) (own_w hw 8 rfl) (own_w hw 157 rfl) (by decide) d26_20 (q := 23) rfl rfl (Nat.le_of_ble_eq_true rfl) (Nat.le_of_ble_eq_true rfl) (Nat.le_of_ble_eq_true rfl) (by dsimp only; omega) ?_
    rintro _ _ _ T ⟨rfl, rfl, rfl⟩ W
    have W := W.share (i := 0) rfl
    have W := W.share (i := 0) rfl
    exact g_retA W rfl rfl rfl d26_23 (Nat.le_of_ble_eq_true rfl) (by dsimp only; omega) ⟨x, rfl, rfl, fun y hy => .tail _ (.tail _ hy), b, .head _, .tail _ (by rw [show i + d - i = d by omega]; exact .head _)⟩
theorem d27_0 : decode jdk_42_method_92_code 0 = .ok (.aload_n 0, 1) := by decide +kernel
theorem d27_1 : decode jdk_42_method_92_code 1 = .ok (.invokevirtual 505, 3) := by decide +kernel
theorem d27_4 : decode jdk_42_method_92_code 4 = .ok (.istore_n 3, 1) := by decide +kernel
theorem d27_5 : decode jdk_42_method_92_code 5 = .ok (.iload_n 1, 1) := by decide +kernel
theorem d27_6 : decode jdk_42_method_92_code 6 = .ok (.iload_n 2, 1) := by decide +kernel
theorem d27_7 : decode jdk_42_method_92_code 7 = .ok (.iload_n 3, 1) := by decide +kernel
theorem d27_8 : decode jdk_42_method_92_code 8 = .ok (.invokestatic 521, 3) := by decide +kernel
theorem d27_11 : decode jdk_42_method_92_code 11 = .ok (.iload_n 1, 1) := by decide +kernel
theorem d27_12 : decode jdk_42_method_92_code 12 = .ok (.ifCond .ne 10, 3) := by decide +kernel
theorem d27_15 : decode jdk_42_method_92_code 15 = .ok (.iload_n 2, 1) := by decide +kernel
theorem d27_16 : decode jdk_42_method_92_code 16 = .ok (.iload_n 3, 1) := by decide +kernel
theorem d27_17 : decode jdk_42_method_92_code 17 = .ok (.if_icmp .ne 5, 3) := by decide +kernel
theorem d27_20 : decode jdk_42_method_92_code 20 = .ok (.aload_n 0, 1) := by decide +kernel
theorem d27_21 : decode jdk_42_method_92_code 21 = .ok (.areturn, 1) := by decide +kernel
theorem d27_22 : decode jdk_42_method_92_code 22 = .ok (.iload_n 2, 1) := by decide +kernel
theorem d27_23 : decode jdk_42_method_92_code 23 = .ok (.iload_n 1, 1) := by decide +kernel
theorem d27_24 : decode jdk_42_method_92_code 24 = .ok (.isub, 1) := by decide +kernel
theorem d27_25 : decode jdk_42_method_92_code 25 = .ok (.istore 4, 2) := by decide +kernel
theorem d27_27 : decode jdk_42_method_92_code 27 = .ok (.aload_n 0, 1) := by decide +kernel
theorem d27_28 : decode jdk_42_method_92_code 28 = .ok (.invokevirtual 492, 3) := by decide +kernel
theorem d27_31 : decode jdk_42_method_92_code 31 = .ok (.ifCond .eq 16, 3) := by decide +kernel
theorem d27_34 : decode jdk_42_method_92_code 34 = .ok (.aload_n 0, 1) := by decide +kernel
theorem d27_35 : decode jdk_42_method_92_code 35 = .ok (.getfield 9, 3) := by decide +kernel
theorem d27_38 : decode jdk_42_method_92_code 38 = .ok (.iload_n 1, 1) := by decide +kernel
theorem d27_39 : decode jdk_42_method_92_code 39 = .ok (.iload 4, 2) := by decide +kernel
theorem d27_41 : decode jdk_42_method_92_code 41 = .ok (.invokestatic 685, 3) := by decide +kernel
theorem d27_44 : decode jdk_42_method_92_code 44 = .ok (.goto 13, 3) := by decide +kernel
theorem d27_47 : decode jdk_42_method_92_code 47 = .ok (.aload_n 0, 1) := by decide +kernel
theorem d27_48 : decode jdk_42_method_92_code 48 = .ok (.getfield 9, 3) := by decide +kernel
theorem d27_51 : decode jdk_42_method_92_code 51 = .ok (.iload_n 1, 1) := by decide +kernel
theorem d27_52 : decode jdk_42_method_92_code 52 = .ok (.iload 4, 2) := by decide +kernel
theorem d27_57 : decode jdk_42_method_92_code 57 = .ok (.areturn, 1) := by decide +kernel
theorem ef_sub (m : MethodId) (x : Addr) (i : Int32) (j : Int32) : entryFrame m #[(.ref x), (.int i), (.int j)] 5 = mkF m 0 #[.val (.ref x), .val (.int i), .val (.int j), .unset, .unset] [] := by first | (simp [entryFrame, mkF, argsToLocals, Value.category]; done) | rfl
theorem pd_16 : parseMethodDescriptor "(III)V" = some ⟨[.int, .int, .int], none⟩ := by decide +kernel
theorem pd_17 : parseMethodDescriptor "([BII)Ljava/lang/String;" = some ⟨[(.array .byte), .int, .int], (some (.object "java/lang/String"))⟩ := by decide +kernel
set_option maxRecDepth 65536 in
set_option maxHeartbeats 40000000 in
theorem con_sub {kn : Prop} (l : Launch) (Z : State) (a0 : Array Value) (E0 : Env0 Z a0) (O P : List Ent) (x : Addr) (cs : List Int32) (i j N : Nat) (hlen : cs.length < 2 ^ 30) (hij : i ≤ j) (hj : j ≤ cs.length) (hN : j - i ≤ N) (hN2 : N ≤ 60000) (hs : IsL1 Z P x cs) :
    Con kn l Z EL0 (⟨"java/lang/String", "substring", "(II)Ljava/lang/String;"⟩ : MethodName) jdk_42_method_92_code 5 (some (.object "java/lang/String")) [] ({ frames := 4, cells := 2, slots := N + 4, locals := 76 } : Room) #[.ref x, .int i.toInt32, .int j.toInt32] O P (fun v O' P' => ∃ y, v = some (.ref y) ∧ O = O' ∧ (∀ y ∈ P, y ∈ P') ∧ IsL1 Z P' y ((cs.drop i).take (j - i))) := by
  obtain ⟨hw, hs0, hEL, hS, ⟨cs0, hC0, hcs0⟩, hmore⟩ := id E0
  refine con_intro (plainFor_of_name pn_2) hEL (fun m => ef_sub m _ _ _) ?_
  intro p e s m below meth c T W hnm
  obtain ⟨b, hx, hb'⟩ := id hs
  refine g_aloadN W d27_0 (q := 1) rfl rfl rfl ?_
  refine g_virtual W (con_slen l Z a0 E0 O P x cs hs) (own_ex (W.rd hx) fun _ h => h.1) (argsL := []) (rest := []) rfl rfl pd_12 rfl (own_w hw 70 rfl) (own_w hw 71 rfl) (own_w hw 73 rfl) (own_w hw 72 rfl) (own_w hw 8 rfl) (own_w hw 74 rfl) (by decide) d27_1 (q := 4) rfl rfl (Nat.le_of_ble_eq_true rfl) (Nat.le_of_ble_eq_true rfl) (Nat.le_of_ble_eq_true rfl) (by dsimp only; omega) ?_
  rintro _ _ _ T ⟨rfl, rfl, rfl⟩ W
  refine g_istoreN W d27_4 (q := 5) (L' := #[.val (.ref x), .val (.int i.toInt32), .val (.int j.toInt32), .val (.int cs.length.toInt32), .unset]) rfl rfl ?_
  refine g_iloadN W d27_5 (q := 6) rfl rfl ?_
  refine g_iloadN W d27_6 (q := 7) rfl rfl ?_
  refine g_iloadN W d27_7 (q := 8) rfl rfl ?_
  refine g_static W (con_cbe l Z a0 E0 O P _ _ _ (own_nn (by omega)) (fun z => absurd ((own_lt (by omega) (by omega)).mp z) (by omega)) (fun z => absurd ((own_lt (by omega) (by omega)).mp z) (by omega))) (argsL := [(.int i.toInt32), (.int j.toInt32), (.int cs.length.toInt32)]) (rest := []) rfl rfl pd_16 rfl (own_w hw 103 rfl) (own_w hw 104 rfl) (own_w hw 8 rfl) (own_w hw 105 rfl) (by decide) d27_8 (q := 11) rfl rfl (Nat.le_of_ble_eq_true rfl) (Nat.le_of_ble_eq_true rfl) (Nat.le_of_ble_eq_true rfl) (by dsimp only; omega) ?_
  rintro _ _ _ T ⟨rfl, rfl, rfl⟩ W
  refine g_iloadN W d27_11 (q := 12) rfl rfl ?_
  by_cases h0 : i.toInt32 = 0
  · refine g_ifN W d27_12 (q := 15) (XT.i0_ne_f h0) rfl ?_
    obtain rfl : i = 0 := (own_eq (j := 0) (by omega) (by decide)).mp h0
    refine g_iloadN W d27_15 (q := 16) rfl rfl ?_
    refine g_iloadN W d27_16 (q := 17) rfl rfl ?_
    by_cases h1 : j.toInt32 = cs.length.toInt32
    · refine g_icN W d27_17 (q := 20) (XT.ii_ne_f h1) rfl ?_
      obtain rfl : j = cs.length := (own_eq (by omega) (by omega)).mp h1
      refine g_aloadN W d27_20 (q := 21) rfl rfl rfl ?_
      exact g_retA W rfl rfl rfl d27_21 (Nat.le_of_ble_eq_true rfl) (by dsimp only; omega) ⟨x, rfl, rfl, fun y hy => hy, by rw [Nat.sub_zero, List.drop_zero, List.take_length]; exact hs⟩
    · refine g_icY W d27_17 (q := 22) (XT.ii_ne_t h1) (by decide) (by decide) ?_
      have hne : ¬ (0 = 0 ∧ j = cs.length) := fun z => h1 (by rw [z.2])
      refine g_iloadN W d27_22 (q := 23) rfl rfl ?_
      refine g_iloadN W d27_23 (q := 24) rfl rfl ?_
      refine g_isub W d27_24 (q := 25) (z := (j - 0).toInt32) (own_sub (Nat.zero_le _) (by omega)) rfl ?_
      refine g_istore W d27_25 (q := 27) (L' := #[.val (.ref x), .val (.int (0 : Nat).toInt32), .val (.int j.toInt32), .val (.int cs.length.toInt32), .val (.int (j - 0).toInt32)]) rfl rfl ?_
      refine g_aloadN W d27_27 (q := 28) rfl rfl rfl ?_
      refine g_virtual W (con_isL l Z a0 E0 O P x cs hs) (own_ex (W.rd hx) fun _ h => h.1) (argsL := []) (rest := []) rfl rfl pd_7 rfl (own_w hw 65 rfl) (own_w hw 66 rfl) (own_w hw 68 rfl) (own_w hw 67 rfl) (own_w hw 8 rfl) (own_w hw 69 rfl) (by decide) d27_28 (q := 31) rfl rfl (Nat.le_of_ble_eq_true rfl) (Nat.le_of_ble_eq_true rfl) (Nat.le_of_ble_eq_true rfl) (by dsimp only; omega) ?_
      rintro _ _ _ T ⟨rfl, rfl, rfl⟩ W
      refine g_ifN W d27_31 (q := 34) (XT.i0_eq_f (by decide)) rfl ?_
      refine g_aloadN W d27_34 (q := 35) rfl rfl rfl ?_
      refine g_getF W (W.rd hx) (i := 0) (v := .ref b) rfl rfl (own_w hw 37 rfl) d27_35 (q := 38) rfl fun T W => ?_
      refine g_iloadN W d27_38 (q := 39) rfl rfl ?_
      refine g_iload W d27_39 (q := 41) rfl rfl ?_
      refine g_static W (con_ns l Z a0 E0 O P b cs 0 (j - 0) N hlen (by omega) hN hN2 hb' (fun z => hne ⟨rfl, by omega⟩)) (argsL := [(.ref b), (.int (0 : Nat).toInt32), (.int (j - 0).toInt32)]) (rest := []) rfl rfl pd_17 rfl (own_w hw 134 rfl) (own_w hw 135 rfl) (own_w hw 82 rfl) (own_w hw 136 rfl) (by decide) d27_41 (q := 44) rfl rfl (Nat.le_of_ble_eq_true rfl) (Nat.le_of_ble_eq_true rfl) (Nat.le_of_ble_eq_true rfl) (by dsimp only; omega) ?_
      rintro _ _ _ T ⟨y, rfl, rfl, hsub, hy⟩ W
      refine g_goto W d27_44 (q := 57) (by decide) (by decide) ?_
      exact g_retA W rfl rfl rfl d27_57 (Nat.le_of_ble_eq_true rfl) (by dsimp only; omega) ⟨y, rfl, rfl, hsub, hy⟩
  · refine g_ifY W d27_12 (q := 22) (XT.i0_ne_t h0) (by decide) (by decide) ?_
    have hne : ¬ (i = 0 ∧ j = cs.length) := fun z => h0 (by rw [z.1]; rfl)
    refine g_iloadN W d27_22 (q := 23) rfl rfl ?_
    refine g_iloadN W d27_23 (q := 24) rfl rfl ?_
    refine g_isub W d27_24 (q := 25) (z := (j - i).toInt32) (own_sub hij (by omega)) rfl ?_
    refine g_istore W d27_25 (q := 27) (L' := #[.val (.ref x), .val (.int i.toInt32), .val (.int j.toInt32), .val (.int cs.length.toInt32), .val (.int (j - i).toInt32)]) rfl rfl ?_
    refine g_aloadN W d27_27 (q := 28) rfl rfl rfl ?_
    refine g_virtual W (con_isL l Z a0 E0 O P x cs hs) (own_ex (W.rd hx) fun _ h => h.1) (argsL := []) (rest := []) rfl rfl pd_7 rfl (own_w hw 65 rfl) (own_w hw 66 rfl) (own_w hw 68 rfl) (own_w hw 67 rfl) (own_w hw 8 rfl) (own_w hw 69 rfl) (by decide) d27_28 (q := 31) rfl rfl (Nat.le_of_ble_eq_true rfl) (Nat.le_of_ble_eq_true rfl) (Nat.le_of_ble_eq_true rfl) (by dsimp only; omega) ?_
    rintro _ _ _ T ⟨rfl, rfl, rfl⟩ W
    refine g_ifN W d27_31 (q := 34) (XT.i0_eq_f (by decide)) rfl ?_
    refine g_aloadN W d27_34 (q := 35) rfl rfl rfl ?_
    refine g_getF W (W.rd hx) (i := 0) (v := .ref b) rfl rfl (own_w hw 37 rfl) d27_35 (q := 38) rfl fun T W => ?_
    refine g_iloadN W d27_38 (q := 39) rfl rfl ?_
    refine g_iload W d27_39 (q := 41) rfl rfl ?_
    refine g_static W (con_ns l Z a0 E0 O P b cs i (j - i) N hlen (by omega) hN hN2 hb' (fun z => hne ⟨z.1, by omega⟩)) (argsL := [(.ref b), (.int i.toInt32), (.int (j - i).toInt32)]) (rest := []) rfl rfl pd_17 rfl (own_w hw 134 rfl) (own_w hw 135 rfl) (own_w hw 82 rfl) (own_w hw 136 rfl) (by decide) d27_41 (q := 44) rfl rfl (Nat.le_of_ble_eq_true rfl) (Nat.le_of_ble_eq_true rfl) (Nat.le_of_ble_eq_true rfl) (by dsimp only; omega) ?_
    rintro _ _ _ T ⟨y, rfl, rfl, hsub, hy⟩ W
    refine g_goto W d27_44 (q := 57) (by decide) (by decide) ?_
    exact g_retA W rfl rfl rfl d27_57 (Nat.le_of_ble_eq_true rfl) (by dsimp only; omega) ⟨y, rfl, rfl, hsub, hy⟩
theorem d28_0 : decode prog_21_method_12_code 0 = .ok (.aload_n 0, 1) := by decide +kernel
theorem d28_1 : decode prog_21_method_12_code 1 = .ok (.getfield 7, 3) := by decide +kernel
theorem d28_4 : decode prog_21_method_12_code 4 = .ok (.iload_n 1, 1) := by decide +kernel
theorem d28_5 : decode prog_21_method_12_code 5 = .ok (.aload_n 0, 1) := by decide +kernel
theorem d28_6 : decode prog_21_method_12_code 6 = .ok (.getfield 19, 3) := by decide +kernel
theorem d28_9 : decode prog_21_method_12_code 9 = .ok (.invokevirtual 75, 3) := by decide +kernel
theorem d28_12 : decode prog_21_method_12_code 12 = .ok (.istore_n 2, 1) := by decide +kernel
theorem d28_13 : decode prog_21_method_12_code 13 = .ok (.iload_n 2, 1) := by decide +kernel
theorem d28_14 : decode prog_21_method_12_code 14 = .ok (.ifCond .ge 11, 3) := by decide +kernel
theorem d28_17 : decode prog_21_method_12_code 17 = .ok (.aload_n 0, 1) := by decide +kernel
theorem d28_18 : decode prog_21_method_12_code 18 = .ok (.getfield 7, 3) := by decide +kernel
theorem d28_21 : decode prog_21_method_12_code 21 = .ok (.invokevirtual 23, 3) := by decide +kernel
theorem d28_24 : decode prog_21_method_12_code 24 = .ok (.istore_n 2, 1) := by decide +kernel
theorem d28_25 : decode prog_21_method_12_code 25 = .ok (.aload_n 0, 1) := by decide +kernel
theorem d28_26 : decode prog_21_method_12_code 26 = .ok (.getfield 7, 3) := by decide +kernel
theorem d28_29 : decode prog_21_method_12_code 29 = .ok (.aload_n 0, 1) := by decide +kernel
theorem d28_30 : decode prog_21_method_12_code 30 = .ok (.getfield 19, 3) := by decide +kernel
theorem d28_33 : decode prog_21_method_12_code 33 = .ok (.iload_n 2, 1) := by decide +kernel
theorem d28_34 : decode prog_21_method_12_code 34 = .ok (.invokevirtual 79, 3) := by decide +kernel
theorem d28_37 : decode prog_21_method_12_code 37 = .ok (.astore_n 3, 1) := by decide +kernel
theorem d28_38 : decode prog_21_method_12_code 38 = .ok (.aload_n 0, 1) := by decide +kernel
theorem d28_39 : decode prog_21_method_12_code 39 = .ok (.iload_n 2, 1) := by decide +kernel
theorem d28_40 : decode prog_21_method_12_code 40 = .ok (.putfield 19, 3) := by decide +kernel
theorem d28_43 : decode prog_21_method_12_code 43 = .ok (.aload_n 3, 1) := by decide +kernel
theorem d28_44 : decode prog_21_method_12_code 44 = .ok (.areturn, 1) := by decide +kernel
theorem ef_unt (m : MethodId) (x : Addr) (i : Int32) : entryFrame m #[(.ref x), (.int i)] 4 = mkF m 0 #[.val (.ref x), .val (.int i), .unset, .unset] [] := by first | (simp [entryFrame, mkF, argsToLocals, Value.category]; done) | rfl
theorem pd_18 : parseMethodDescriptor "(II)Ljava/lang/String;" = some ⟨[.int, .int], (some (.object "java/lang/String"))⟩ := by decide +kernel
set_option maxRecDepth 65536 in
set_option maxHeartbeats 40000000 in
theorem con_unt {kn : Prop} (l : Launch) (Z : State) (a0 : Array Value) (E0 : Env0 Z a0) (O P : List Ent) (lx tx lb : Addr) (cs : List Int32) (q N : Nat) (ch : Int32) (hlen : cs.length < 2 ^ 30) (hc : ∀ d ∈ cs, 0 ≤ d.toInt ∧ d.toInt ≤ 255) (hch : 0 ≤ ch.toInt ∧ ch.toInt ≤ 255) (hq : q ≤ cs.length) (hN : cs.length ≤ N) (hN2 : N ≤ 60000) (hs : IsL1 Z P tx cs) :
    Con kn l Z EL0 (⟨"com/example/recaller/recaller/Lexer", "until", "(C)Ljava/lang/String;"⟩ : MethodName) prog_21_method_12_code 4 (some (.object "java/lang/String")) [] ({ frames := 5, cells := 2, slots := N + 4, locals := 92 } : Room) #[.ref lx, .int ch] ((lx, ObjC Z "com/example/recaller/recaller/Lexer" shLx [.ref tx, .ref lb, .int q.toInt32]) :: O) P (fun v O' P' => ∃ y, v = some (.ref y) ∧ O' = (lx, ObjC Z "com/example/recaller/recaller/Lexer" shLx [.ref tx, .ref lb, .int (ix cs ch (cs.length - q) q).toInt32]) :: O ∧ (∀ y ∈ P, y ∈ P') ∧ IsL1 Z P' y ((cs.drop q).take ((ix cs ch (cs.length - q) q) - q))) := by
  obtain ⟨hw, hs0, hEL, hS, ⟨cs0, hC0, hcs0⟩, hmore⟩ := id E0
  refine con_intro (plainFor_of_name pn_5) hEL (fun m => ef_unt m _ _) ?_
  intro p e s m below meth c T W hnm
  obtain ⟨bx, hsx, hbx⟩ := id hs
  refine g_aloadN W d28_0 (q := 1) rfl rfl rfl ?_
  refine g_getF W (W.ow (i := 0) rfl) (i := 0) (v := .ref tx) rfl rfl (own_w hw 46 rfl) d28_1 (q := 4) rfl fun T W => ?_
  refine g_iloadN W d28_4 (q := 5) rfl rfl ?_
  refine g_aloadN W d28_5 (q := 6) rfl rfl rfl ?_
  refine g_getF W (W.ow (i := 0) rfl) (i := 2) (v := .int q.toInt32) rfl rfl (own_w hw 58 rfl) d28_6 (q := 9) rfl fun T W => ?_
  refine g_virtual W (con_six l Z a0 E0 _ P tx cs ch q hlen hc hch hq hs) (own_ex (W.rd hsx) fun _ h => h.1) (argsL := [(.int ch), (.int q.toInt32)]) (rest := []) rfl rfl pd_10 rfl (own_w hw 60 rfl) (own_w hw 61 rfl) (own_w hw 63 rfl) (own_w hw 62 rfl) (own_w hw 8 rfl) (own_w hw 64 rfl) (by decide) d28_9 (q := 12) rfl rfl (Nat.le_of_ble_eq_true rfl) (Nat.le_of_ble_eq_true rfl) (Nat.le_of_ble_eq_true rfl) (by dsimp only; omega) ?_
  rintro _ _ _ T ⟨rfl, rfl, rfl⟩ W
  have hE := ix_ge cs ch (cs.length - q) q
  obtain ⟨ee, eE⟩ : ∃ r, r = (ix cs ch (cs.length - q) q) := ⟨_, rfl⟩
  rw [← eE] at hE ⊢
  by_cases hlt : ee < cs.length
  · rw [if_pos hlt]
    refine g_istoreN W d28_12 (q := 13) (L' := #[.val (.ref lx), .val (.int ch), .val (.int ee.toInt32), .unset]) rfl rfl ?_
    refine g_iloadN W d28_13 (q := 14) rfl rfl ?_
    refine g_ifY W d28_14 (q := 25) (XT.i0_ge_t (own_nn (by omega))) (by decide) (by decide) ?_
    refine g_aloadN W d28_25 (q := 26) rfl rfl rfl ?_
    refine g_getF W (W.ow (i := 0) rfl) (i := 0) (v := .ref tx) rfl rfl (own_w hw 46 rfl) d28_26 (q := 29) rfl fun T W => ?_
    refine g_aloadN W d28_29 (q := 30) rfl rfl rfl ?_
    refine g_getF W (W.ow (i := 0) rfl) (i := 2) (v := .int q.toInt32) rfl rfl (own_w hw 58 rfl) d28_30 (q := 33) rfl fun T W => ?_
    refine g_iloadN W d28_33 (q := 34) rfl rfl ?_
    refine g_virtual W (con_sub l Z a0 E0 _ P tx cs q ee N hlen (by omega) (by omega) (by omega) hN2 hs) (own_ex (W.rd hsx) fun _ h => h.1) (argsL := [(.int q.toInt32), (.int ee.toInt32)]) (rest := []) rfl rfl pd_18 rfl (own_w hw 98 rfl) (own_w hw 99 rfl) (own_w hw 101 rfl) (own_w hw 100 rfl) (own_w hw 8 rfl) (own_w hw 102 rfl) (by decide) d28_34 (q := 37) rfl rfl (Nat.le_of_ble_eq_true rfl) (Nat.le_of_ble_eq_true rfl) (Nat.le_of_ble_eq_true rfl) (by dsimp only; omega) ?_
    rintro _ _ _ T ⟨y, rfl, rfl, hsub, hy⟩ W
    refine g_astoreN W d28_37 (q := 38) (L' := #[.val (.ref lx), .val (.int ch), .val (.int ee.toInt32), .val (.ref y)]) rfl rfl rfl ?_
    refine g_aloadN W d28_38 (q := 39) rfl rfl rfl ?_
    refine g_iloadN W d28_39 (q := 40) rfl rfl ?_
    refine g_putF W (i := 0) (j := 2) rfl (shLx_ok hw) shLx_nd rfl rfl (own_w hw 58 rfl) (Or.inl (own_w hw 59 rfl)) (own_w hw 4 rfl) (ty := .int) (by decide) rfl rfl d28_40 (q := 43) rfl (vs' := [.ref tx, .ref lb, .int ee.toInt32]) rfl (O' := (lx, ObjC Z "com/example/recaller/recaller/Lexer" shLx [.ref tx, .ref lb, .int ee.toInt32]) :: O) rfl fun T W => ?_
    refine g_aloadN W d28_43 (q := 44) rfl rfl rfl ?_
    exact g_retA W rfl rfl rfl d28_44 (Nat.le_of_ble_eq_true rfl) (by dsimp only; omega) ⟨y, rfl, rfl, hsub, hy⟩
  · rw [if_neg hlt]
    obtain rfl : ee = cs.length := by omega
    refine g_istoreN W d28_12 (q := 13) (L' := #[.val (.ref lx), .val (.int ch), .val (.int (-1 : Int32)), .unset]) rfl rfl ?_
    refine g_iloadN W d28_13 (q := 14) rfl rfl ?_
    refine g_ifN W d28_14 (q := 17) (XT.i0_ge_f (by decide)) rfl ?_
    refine g_aloadN W d28_17 (q := 18) rfl rfl rfl ?_
    refine g_getF W (W.ow (i := 0) rfl) (i := 0) (v := .ref tx) rfl rfl (own_w hw 46 rfl) d28_18 (q := 21) rfl fun T W => ?_
    refine g_virtual W (con_slen l Z a0 E0 _ P tx cs hs) (own_ex (W.rd hsx) fun _ h => h.1) (argsL := []) (rest := []) rfl rfl pd_12 rfl (own_w hw 97 rfl) (own_w hw 71 rfl) (own_w hw 73 rfl) (own_w hw 72 rfl) (own_w hw 8 rfl) (own_w hw 74 rfl) (by decide) d28_21 (q := 24) rfl rfl (Nat.le_of_ble_eq_true rfl) (Nat.le_of_ble_eq_true rfl) (Nat.le_of_ble_eq_true rfl) (by dsimp only; omega) ?_
    rintro _ _ _ T ⟨rfl, rfl, rfl⟩ W
    refine g_istoreN W d28_24 (q := 25) (L' := #[.val (.ref lx), .val (.int ch), .val (.int cs.length.toInt32), .unset]) rfl rfl ?_
    refine g_aloadN W d28_25 (q := 26) rfl rfl rfl ?_
    refine g_getF W (W.ow (i := 0) rfl) (i := 0) (v := .ref tx) rfl rfl (own_w hw 46 rfl) d28_26 (q := 29) rfl fun T W => ?_
    refine g_aloadN W d28_29 (q := 30) rfl rfl rfl ?_
    refine g_getF W (W.ow (i := 0) rfl) (i := 2) (v := .int q.toInt32) rfl rfl (own_w hw 58 rfl) d28_30 (q := 33) rfl fun T W => ?_
    refine g_iloadN W d28_33 (q := 34) rfl rfl ?_
    refine g_virtual W (con_sub l Z a0 E0 _ P tx cs q cs.length N hlen (by omega) (by omega) (by omega) hN2 hs) (own_ex (W.rd hsx) fun _ h => h.1) (argsL := [(.int q.toInt32), (.int cs.length.toInt32)]) (rest := []) rfl rfl pd_18 rfl (own_w hw 98 rfl) (own_w hw 99 rfl) (own_w hw 101 rfl) (own_w hw 100 rfl) (own_w hw 8 rfl) (own_w hw 102 rfl) (by decide) d28_34 (q := 37) rfl rfl (Nat.le_of_ble_eq_true rfl) (Nat.le_of_ble_eq_true rfl) (Nat.le_of_ble_eq_true rfl) (by dsimp only; omega) ?_
    rintro _ _ _ T ⟨y, rfl, rfl, hsub, hy⟩ W
    refine g_astoreN W d28_37 (q := 38) (L' := #[.val (.ref lx), .val (.int ch), .val (.int cs.length.toInt32), .val (.ref y)]) rfl rfl rfl ?_
    refine g_aloadN W d28_38 (q := 39) rfl rfl rfl ?_
    refine g_iloadN W d28_39 (q := 40) rfl rfl ?_
    refine g_putF W (i := 0) (j := 2) rfl (shLx_ok hw) shLx_nd rfl rfl (own_w hw 58 rfl) (Or.inl (own_w hw 59 rfl)) (own_w hw 4 rfl) (ty := .int) (by decide) rfl rfl d28_40 (q := 43) rfl (vs' := [.ref tx, .ref lb, .int cs.length.toInt32]) rfl (O' := (lx, ObjC Z "com/example/recaller/recaller/Lexer" shLx [.ref tx, .ref lb, .int cs.length.toInt32]) :: O) rfl fun T W => ?_
    refine g_aloadN W d28_43 (q := 44) rfl rfl rfl ?_
    exact g_retA W rfl rfl rfl d28_44 (Nat.le_of_ble_eq_true rfl) (by dsimp only; omega) ⟨y, rfl, rfl, hsub, hy⟩
theorem d29_0 : decode method_2_code 0 = .ok (.iload_n 1, 1) := by decide +kernel
theorem d29_1 : decode method_2_code 1 = .ok (.ifCond .ne 7, 3) := by decide +kernel
theorem d29_4 : decode method_2_code 4 = .ok (.iconst 0, 1) := by decide +kernel
theorem d29_5 : decode method_2_code 5 = .ok (.newarray .char, 2) := by decide +kernel
theorem d29_7 : decode method_2_code 7 = .ok (.areturn, 1) := by decide +kernel
theorem d29_8 : decode method_2_code 8 = .ok (.iload_n 1, 1) := by decide +kernel
theorem d29_9 : decode method_2_code 9 = .ok (.iconst 1, 1) := by decide +kernel
theorem d29_10 : decode method_2_code 10 = .ok (.if_icmp .ne 13, 3) := by decide +kernel
theorem d29_13 : decode method_2_code 13 = .ok (.iconst 1, 1) := by decide +kernel
theorem d29_14 : decode method_2_code 14 = .ok (.newarray .char, 2) := by decide +kernel
theorem d29_16 : decode method_2_code 16 = .ok (.dup, 1) := by decide +kernel
theorem d29_17 : decode method_2_code 17 = .ok (.iconst 0, 1) := by decide +kernel
theorem d29_18 : decode method_2_code 18 = .ok (.aload_n 0, 1) := by decide +kernel
theorem d29_19 : decode method_2_code 19 = .ok (.iconst 0, 1) := by decide +kernel
theorem d29_20 : decode method_2_code 20 = .ok (.caload, 1) := by decide +kernel
theorem d29_21 : decode method_2_code 21 = .ok (.castore, 1) := by decide +kernel
theorem d29_22 : decode method_2_code 22 = .ok (.areturn, 1) := by decide +kernel
theorem d29_23 : decode method_2_code 23 = .ok (.iload_n 1, 1) := by decide +kernel
theorem d29_24 : decode method_2_code 24 = .ok (.iconst 2, 1) := by decide +kernel
theorem d29_25 : decode method_2_code 25 = .ok (.if_icmp .ne 19, 3) := by decide +kernel
theorem d29_28 : decode method_2_code 28 = .ok (.iconst 2, 1) := by decide +kernel
theorem d29_29 : decode method_2_code 29 = .ok (.newarray .char, 2) := by decide +kernel
theorem d29_31 : decode method_2_code 31 = .ok (.dup, 1) := by decide +kernel
theorem d29_32 : decode method_2_code 32 = .ok (.iconst 0, 1) := by decide +kernel
theorem d29_33 : decode method_2_code 33 = .ok (.aload_n 0, 1) := by decide +kernel
theorem d29_34 : decode method_2_code 34 = .ok (.iconst 0, 1) := by decide +kernel
theorem d29_35 : decode method_2_code 35 = .ok (.caload, 1) := by decide +kernel
theorem d29_36 : decode method_2_code 36 = .ok (.castore, 1) := by decide +kernel
theorem d29_37 : decode method_2_code 37 = .ok (.dup, 1) := by decide +kernel
theorem d29_38 : decode method_2_code 38 = .ok (.iconst 1, 1) := by decide +kernel
theorem d29_39 : decode method_2_code 39 = .ok (.aload_n 0, 1) := by decide +kernel
theorem d29_40 : decode method_2_code 40 = .ok (.iconst 1, 1) := by decide +kernel
theorem d29_41 : decode method_2_code 41 = .ok (.caload, 1) := by decide +kernel
theorem d29_42 : decode method_2_code 42 = .ok (.castore, 1) := by decide +kernel
theorem d29_43 : decode method_2_code 43 = .ok (.areturn, 1) := by decide +kernel
theorem d29_44 : decode method_2_code 44 = .ok (.iload_n 1, 1) := by decide +kernel
theorem d29_45 : decode method_2_code 45 = .ok (.iconst 3, 1) := by decide +kernel
theorem d29_46 : decode method_2_code 46 = .ok (.if_icmp .ne 25, 3) := by decide +kernel
theorem d29_49 : decode method_2_code 49 = .ok (.iconst 3, 1) := by decide +kernel
theorem d29_50 : decode method_2_code 50 = .ok (.newarray .char, 2) := by decide +kernel
theorem d29_52 : decode method_2_code 52 = .ok (.dup, 1) := by decide +kernel
theorem d29_53 : decode method_2_code 53 = .ok (.iconst 0, 1) := by decide +kernel
theorem d29_54 : decode method_2_code 54 = .ok (.aload_n 0, 1) := by decide +kernel
theorem d29_55 : decode method_2_code 55 = .ok (.iconst 0, 1) := by decide +kernel
theorem d29_56 : decode method_2_code 56 = .ok (.caload, 1) := by decide +kernel
theorem d29_57 : decode method_2_code 57 = .ok (.castore, 1) := by decide +kernel
theorem d29_58 : decode method_2_code 58 = .ok (.dup, 1) := by decide +kernel
theorem d29_59 : decode method_2_code 59 = .ok (.iconst 1, 1) := by decide +kernel
theorem d29_60 : decode method_2_code 60 = .ok (.aload_n 0, 1) := by decide +kernel
theorem d29_61 : decode method_2_code 61 = .ok (.iconst 1, 1) := by decide +kernel
theorem d29_62 : decode method_2_code 62 = .ok (.caload, 1) := by decide +kernel
theorem d29_63 : decode method_2_code 63 = .ok (.castore, 1) := by decide +kernel
theorem d29_64 : decode method_2_code 64 = .ok (.dup, 1) := by decide +kernel
theorem d29_65 : decode method_2_code 65 = .ok (.iconst 2, 1) := by decide +kernel
theorem d29_66 : decode method_2_code 66 = .ok (.aload_n 0, 1) := by decide +kernel
theorem d29_67 : decode method_2_code 67 = .ok (.iconst 2, 1) := by decide +kernel
theorem d29_68 : decode method_2_code 68 = .ok (.caload, 1) := by decide +kernel
theorem d29_69 : decode method_2_code 69 = .ok (.castore, 1) := by decide +kernel
theorem d29_70 : decode method_2_code 70 = .ok (.areturn, 1) := by decide +kernel
theorem d29_71 : decode method_2_code 71 = .ok (.iconst 4, 1) := by decide +kernel
theorem d29_72 : decode method_2_code 72 = .ok (.newarray .char, 2) := by decide +kernel
theorem d29_74 : decode method_2_code 74 = .ok (.dup, 1) := by decide +kernel
theorem d29_75 : decode method_2_code 75 = .ok (.iconst 0, 1) := by decide +kernel
theorem d29_76 : decode method_2_code 76 = .ok (.aload_n 0, 1) := by decide +kernel
theorem d29_77 : decode method_2_code 77 = .ok (.iconst 0, 1) := by decide +kernel
theorem d29_78 : decode method_2_code 78 = .ok (.caload, 1) := by decide +kernel
theorem d29_79 : decode method_2_code 79 = .ok (.castore, 1) := by decide +kernel
theorem d29_80 : decode method_2_code 80 = .ok (.dup, 1) := by decide +kernel
theorem d29_81 : decode method_2_code 81 = .ok (.iconst 1, 1) := by decide +kernel
theorem d29_82 : decode method_2_code 82 = .ok (.aload_n 0, 1) := by decide +kernel
theorem d29_83 : decode method_2_code 83 = .ok (.iconst 1, 1) := by decide +kernel
theorem d29_84 : decode method_2_code 84 = .ok (.caload, 1) := by decide +kernel
theorem d29_85 : decode method_2_code 85 = .ok (.castore, 1) := by decide +kernel
theorem d29_86 : decode method_2_code 86 = .ok (.dup, 1) := by decide +kernel
theorem d29_87 : decode method_2_code 87 = .ok (.iconst 2, 1) := by decide +kernel
theorem d29_88 : decode method_2_code 88 = .ok (.aload_n 0, 1) := by decide +kernel
theorem d29_89 : decode method_2_code 89 = .ok (.iconst 2, 1) := by decide +kernel
theorem d29_90 : decode method_2_code 90 = .ok (.caload, 1) := by decide +kernel
theorem d29_91 : decode method_2_code 91 = .ok (.castore, 1) := by decide +kernel
theorem d29_92 : decode method_2_code 92 = .ok (.dup, 1) := by decide +kernel
theorem d29_93 : decode method_2_code 93 = .ok (.iconst 3, 1) := by decide +kernel
theorem d29_94 : decode method_2_code 94 = .ok (.aload_n 0, 1) := by decide +kernel
theorem d29_95 : decode method_2_code 95 = .ok (.iconst 3, 1) := by decide +kernel
theorem d29_96 : decode method_2_code 96 = .ok (.caload, 1) := by decide +kernel
theorem d29_97 : decode method_2_code 97 = .ok (.castore, 1) := by decide +kernel
theorem d29_98 : decode method_2_code 98 = .ok (.areturn, 1) := by decide +kernel
theorem ef_pre (m : MethodId) (a : Addr) (i : Int32) : entryFrame m #[(.ref a), (.int i)] 2 = mkF m 0 #[.val (.ref a), .val (.int i)] [] := by first | (simp [entryFrame, mkF, argsToLocals, Value.category]; done) | rfl
theorem own_le4 {n : Nat} (h : n ≤ 4) : n = 0 ∨ n = 1 ∨ n = 2 ∨ n = 3 ∨ n = 4 := by omega
theorem own_mod5 (x : Int32) : ∃ ln : Nat, ln ≤ 4 ∧ (x &&& (2147483647 : Int32)) % (5 : Int32) = ln.toInt32 := by
  have h1 : 0 ≤ (x &&& (2147483647 : Int32)).toInt := (c_and x 2147483647 (by decide)).1
  have h2 := (c_irem (x &&& (2147483647 : Int32)) 5 5 (by decide)).1 h1
  refine ⟨((x &&& (2147483647 : Int32)).toInt % 5).toNat, by omega, ?_⟩
  rw [← Int32.toInt_inj, h2, own_i32 (by omega)]; omega
theorem own_lch (x : Int64) : ∃ c : Int32, (0 ≤ c.toInt ∧ c.toInt ≤ 255) ∧ (x &&& (255 : Int64)).toInt32.toUInt32.toUInt16.toUInt32.toInt32 = c := by
  have h1 := c_maskL x 255 8 (by decide) (by decide)
  have h2 := c_l2i (x &&& (255 : Int64))
  have h3 := rng32 (x &&& (255 : Int64)).toInt32
  have h4 : 0 ≤ (x &&& (255 : Int64)).toInt32.toInt ∧ (x &&& (255 : Int64)).toInt32.toInt ≤ 255 := by omega
  exact ⟨_, h4, own_chr (by omega)⟩
theorem pn_10 : plainName "com/example/recaller/recaller/LexerUntilPinLaw" = true := by first | (simp [plainName, overriddenIn]; done) | decide +kernel
set_option maxRecDepth 65536 in
set_option maxHeartbeats 40000000 in
theorem con_pre {kn : Prop} (l : Launch) (Z : State) (a0 : Array Value) (E0 : Env0 Z a0) (O P : List Ent) (a : Addr) (c0 c1 c2 c3 : Int32) (ln : Nat) (hln : ln ≤ 4) (hr : ∀ d ∈ [c0, c1, c2, c3], 0 ≤ d.toInt ∧ d.toInt ≤ 255) (ha : (a, ArrC Z .char ([c0, c1, c2, c3].map .int)) ∈ P) :
    Con kn l Z EL0 (⟨"com/example/recaller/recaller/LexerUntilPinLaw", "prefix", "([CI)[C"⟩ : MethodName) method_2_code 2 (some (.array .char)) [] ({ frames := 0, cells := 1, slots := 4, locals := 0 } : Room) #[.ref a, .int ln.toInt32] O P (fun v O' P' => ∃ t, v = some (.ref t) ∧ O = O' ∧ (∀ y ∈ P, y ∈ P') ∧ (t, ArrC Z .char (([c0, c1, c2, c3].take ln).map .int)) ∈ P') := by
  obtain ⟨hw, hs0, hEL, hS, ⟨cs0, hC0, hcs0⟩, hmore⟩ := id E0
  refine con_intro (plainFor_of_name pn_10) hEL (fun m => ef_pre m _ _) ?_
  intro p e s m below meth c T W hnm
  have hc0 := hr c0 (by simp)
  have hc1 := hr c1 (by simp)
  have hc2 := hr c2 (by simp)
  have hc3 := hr c3 (by simp)
  rcases own_le4 hln with rfl | rfl | rfl | rfl | rfl
  · show Go _ _ _ _ _ _ _ _ _ (mkF m 0 #[.val (.ref a), .val (.int (0 : Int32))] [])
    refine g_iloadN W d29_0 (q := 1) rfl rfl ?_
    refine g_ifN W d29_1 (q := 4) (XT.i0_ne_f (by decide)) rfl ?_
    refine g_iconst W (v := (0 : Int32)) d29_4 (q := 5) rfl rfl ?_
    refine g_newA W (ty := .char) (cap := 0) (vs := []) rfl (own_w hw 1 rfl) (by decide) (Nat.le_of_ble_eq_true rfl) (Nat.le_of_ble_eq_true rfl) rfl rfl d29_5 (q := 7) rfl (Nat.le_of_ble_eq_true rfl) (Nat.le_of_ble_eq_true rfl) fun ta T W => ?_
    have W := W.share (i := 0) rfl
    exact g_retA W rfl rfl rfl d29_7 (Nat.le_of_ble_eq_true rfl) (Nat.le_of_ble_eq_true rfl) ⟨ta, rfl, rfl, fun y hy => .tail _ hy, .head _⟩
  · show Go _ _ _ _ _ _ _ _ _ (mkF m 0 #[.val (.ref a), .val (.int (1 : Int32))] [])
    refine g_iloadN W d29_0 (q := 1) rfl rfl ?_
    refine g_ifY W d29_1 (q := 8) (XT.i0_ne_t (by decide)) (by decide) (by decide) ?_
    refine g_iloadN W d29_8 (q := 9) rfl rfl ?_
    refine g_iconst W (v := (1 : Int32)) d29_9 (q := 10) rfl rfl ?_
    refine g_icN W d29_10 (q := 13) (XT.ii_ne_f (by decide)) rfl ?_
    refine g_iconst W (v := (1 : Int32)) d29_13 (q := 14) rfl rfl ?_
    refine g_newA W (ty := .char) (cap := 1) (vs := [.int 0]) rfl (own_w hw 1 rfl) (by decide) (Nat.le_of_ble_eq_true rfl) (Nat.le_of_ble_eq_true rfl) rfl rfl d29_14 (q := 16) rfl (Nat.le_of_ble_eq_true rfl) (Nat.le_of_ble_eq_true rfl) fun ta T W => ?_
    refine g_dup W d29_16 (q := 17) rfl rfl ?_
    refine g_iconst W (v := (0 : Int32)) d29_17 (q := 18) rfl rfl ?_
    refine g_aloadN W d29_18 (q := 19) rfl rfl rfl ?_
    refine g_iconst W (v := (0 : Int32)) d29_19 (q := 20) rfl rfl ?_
    refine g_caload W (W.rd ha) (by decide) (i := 0) (by decide) (v := .int c0) rfl d29_20 (q := 21) rfl ?_
    refine g_castore W (i := 0) (ii := 0) (y := c0) rfl (by decide) (by decide) rfl (own_narc (by omega)) d29_21 (q := 22) rfl (vs' := [.int c0]) rfl (O' := (ta, ArrC Z .char [.int c0]) :: O) rfl fun T W => ?_
    have W := W.share (i := 0) rfl
    exact g_retA W rfl rfl rfl d29_22 (Nat.le_of_ble_eq_true rfl) (Nat.le_of_ble_eq_true rfl) ⟨ta, rfl, rfl, fun y hy => .tail _ hy, .head _⟩
  · show Go _ _ _ _ _ _ _ _ _ (mkF m 0 #[.val (.ref a), .val (.int (2 : Int32))] [])
    refine g_iloadN W d29_0 (q := 1) rfl rfl ?_
    refine g_ifY W d29_1 (q := 8) (XT.i0_ne_t (by decide)) (by decide) (by decide) ?_
    refine g_iloadN W d29_8 (q := 9) rfl rfl ?_
    refine g_iconst W (v := (1 : Int32)) d29_9 (q := 10) rfl rfl ?_
    refine g_icY W d29_10 (q := 23) (XT.ii_ne_t (by decide)) (by decide) (by decide) ?_
    refine g_iloadN W d29_23 (q := 24) rfl rfl ?_
    refine g_iconst W (v := (2 : Int32)) d29_24 (q := 25) rfl rfl ?_
    refine g_icN W d29_25 (q := 28) (XT.ii_ne_f (by decide)) rfl ?_
    refine g_iconst W (v := (2 : Int32)) d29_28 (q := 29) rfl rfl ?_
    refine g_newA W (ty := .char) (cap := 2) (vs := [.int 0, .int 0]) rfl (own_w hw 1 rfl) (by decide) (Nat.le_of_ble_eq_true rfl) (Nat.le_of_ble_eq_true rfl) rfl rfl d29_29 (q := 31) rfl (Nat.le_of_ble_eq_true rfl) (Nat.le_of_ble_eq_true rfl) fun ta T W => ?_
    refine g_dup W d29_31 (q := 32) rfl rfl ?_
    refine g_iconst W (v := (0 : Int32)) d29_32 (q := 33) rfl rfl ?_
    refine g_aloadN W d29_33 (q := 34) rfl rfl rfl ?_
    refine g_iconst W (v := (0 : Int32)) d29_34 (q := 35) rfl rfl ?_
    refine g_caload W (W.rd ha) (by decide) (i := 0) (by decide) (v := .int c0) rfl d29_35 (q := 36) rfl ?_
    refine g_castore W (i := 0) (ii := 0) (y := c0) rfl (by decide) (by decide) rfl (own_narc (by omega)) d29_36 (q := 37) rfl (vs' := [.int c0, .int 0]) rfl (O' := (ta, ArrC Z .char [.int c0, .int 0]) :: O) rfl fun T W => ?_
    refine g_dup W d29_37 (q := 38) rfl rfl ?_
    refine g_iconst W (v := (1 : Int32)) d29_38 (q := 39) rfl rfl ?_
    refine g_aloadN W d29_39 (q := 40) rfl rfl rfl ?_
    refine g_iconst W (v := (1 : Int32)) d29_40 (q := 41) rfl rfl ?_
    refine g_caload W (W.rd ha) (by decide) (i := 1) (by decide) (v := .int c1) rfl d29_41 (q := 42) rfl ?_
    refine g_castore W (i := 0) (ii := 1) (y := c1) rfl (by decide) (by decide) rfl (own_narc (by omega)) d29_42 (q := 43) rfl (vs' := [.int c0, .int c1]) rfl (O' := (ta, ArrC Z .char [.int c0, .int c1]) :: O) rfl fun T W => ?_
    have W := W.share (i := 0) rfl
    exact g_retA W rfl rfl rfl d29_43 (Nat.le_of_ble_eq_true rfl) (Nat.le_of_ble_eq_true rfl) ⟨ta, rfl, rfl, fun y hy => .tail _ hy, .head _⟩
  · show Go _ _ _ _ _ _ _ _ _ (mkF m 0 #[.val (.ref a), .val (.int (3 : Int32))] [])
    refine g_iloadN W d29_0 (q := 1) rfl rfl ?_
    refine g_ifY W d29_1 (q := 8) (XT.i0_ne_t (by decide)) (by decide) (by decide) ?_
    refine g_iloadN W d29_8 (q := 9) rfl rfl ?_
    refine g_iconst W (v := (1 : Int32)) d29_9 (q := 10) rfl rfl ?_
    refine g_icY W d29_10 (q := 23) (XT.ii_ne_t (by decide)) (by decide) (by decide) ?_
    refine g_iloadN W d29_23 (q := 24) rfl rfl ?_
    refine g_iconst W (v := (2 : Int32)) d29_24 (q := 25) rfl rfl ?_
    refine g_icY W d29_25 (q := 44) (XT.ii_ne_t (by decide)) (by decide) (by decide) ?_
    refine g_iloadN W d29_44 (q := 45) rfl rfl ?_
    refine g_iconst W (v := (3 : Int32)) d29_45 (q := 46) rfl rfl ?_
    refine g_icN W d29_46 (q := 49) (XT.ii_ne_f (by decide)) rfl ?_
    refine g_iconst W (v := (3 : Int32)) d29_49 (q := 50) rfl rfl ?_
    refine g_newA W (ty := .char) (cap := 3) (vs := [.int 0, .int 0, .int 0]) rfl (own_w hw 1 rfl) (by decide) (Nat.le_of_ble_eq_true rfl) (Nat.le_of_ble_eq_true rfl) rfl rfl d29_50 (q := 52) rfl (Nat.le_of_ble_eq_true rfl) (Nat.le_of_ble_eq_true rfl) fun ta T W => ?_
    refine g_dup W d29_52 (q := 53) rfl rfl ?_
    refine g_iconst W (v := (0 : Int32)) d29_53 (q := 54) rfl rfl ?_
    refine g_aloadN W d29_54 (q := 55) rfl rfl rfl ?_
    refine g_iconst W (v := (0 : Int32)) d29_55 (q := 56) rfl rfl ?_
    refine g_caload W (W.rd ha) (by decide) (i := 0) (by decide) (v := .int c0) rfl d29_56 (q := 57) rfl ?_
    refine g_castore W (i := 0) (ii := 0) (y := c0) rfl (by decide) (by decide) rfl (own_narc (by omega)) d29_57 (q := 58) rfl (vs' := [.int c0, .int 0, .int 0]) rfl (O' := (ta, ArrC Z .char [.int c0, .int 0, .int 0]) :: O) rfl fun T W => ?_
    refine g_dup W d29_58 (q := 59) rfl rfl ?_
    refine g_iconst W (v := (1 : Int32)) d29_59 (q := 60) rfl rfl ?_
    refine g_aloadN W d29_60 (q := 61) rfl rfl rfl ?_
    refine g_iconst W (v := (1 : Int32)) d29_61 (q := 62) rfl rfl ?_
    refine g_caload W (W.rd ha) (by decide) (i := 1) (by decide) (v := .int c1) rfl d29_62 (q := 63) rfl ?_
    refine g_castore W (i := 0) (ii := 1) (y := c1) rfl (by decide) (by decide) rfl (own_narc (by omega)) d29_63 (q := 64) rfl (vs' := [.int c0, .int c1, .int 0]) rfl (O' := (ta, ArrC Z .char [.int c0, .int c1, .int 0]) :: O) rfl fun T W => ?_
    refine g_dup W d29_64 (q := 65) rfl rfl ?_
    refine g_iconst W (v := (2 : Int32)) d29_65 (q := 66) rfl rfl ?_
    refine g_aloadN W d29_66 (q := 67) rfl rfl rfl ?_
    refine g_iconst W (v := (2 : Int32)) d29_67 (q := 68) rfl rfl ?_
    refine g_caload W (W.rd ha) (by decide) (i := 2) (by decide) (v := .int c2) rfl d29_68 (q := 69) rfl ?_
    refine g_castore W (i := 0) (ii := 2) (y := c2) rfl (by decide) (by decide) rfl (own_narc (by omega)) d29_69 (q := 70) rfl (vs' := [.int c0, .int c1, .int c2]) rfl (O' := (ta, ArrC Z .char [.int c0, .int c1, .int c2]) :: O) rfl fun T W => ?_
    have W := W.share (i := 0) rfl
    exact g_retA W rfl rfl rfl d29_70 (Nat.le_of_ble_eq_true rfl) (Nat.le_of_ble_eq_true rfl) ⟨ta, rfl, rfl, fun y hy => .tail _ hy, .head _⟩
  · show Go _ _ _ _ _ _ _ _ _ (mkF m 0 #[.val (.ref a), .val (.int (4 : Int32))] [])
    refine g_iloadN W d29_0 (q := 1) rfl rfl ?_
    refine g_ifY W d29_1 (q := 8) (XT.i0_ne_t (by decide)) (by decide) (by decide) ?_
    refine g_iloadN W d29_8 (q := 9) rfl rfl ?_
    refine g_iconst W (v := (1 : Int32)) d29_9 (q := 10) rfl rfl ?_
    refine g_icY W d29_10 (q := 23) (XT.ii_ne_t (by decide)) (by decide) (by decide) ?_
    refine g_iloadN W d29_23 (q := 24) rfl rfl ?_
    refine g_iconst W (v := (2 : Int32)) d29_24 (q := 25) rfl rfl ?_
    refine g_icY W d29_25 (q := 44) (XT.ii_ne_t (by decide)) (by decide) (by decide) ?_
    refine g_iloadN W d29_44 (q := 45) rfl rfl ?_
    refine g_iconst W (v := (3 : Int32)) d29_45 (q := 46) rfl rfl ?_
    refine g_icY W d29_46 (q := 71) (XT.ii_ne_t (by decide)) (by decide) (by decide) ?_
    refine g_iconst W (v := (4 : Int32)) d29_71 (q := 72) rfl rfl ?_
    refine g_newA W (ty := .char) (cap := 4) (vs := [.int 0, .int 0, .int 0, .int 0]) rfl (own_w hw 1 rfl) (by decide) (Nat.le_of_ble_eq_true rfl) (Nat.le_of_ble_eq_true rfl) rfl rfl d29_72 (q := 74) rfl (Nat.le_of_ble_eq_true rfl) (Nat.le_of_ble_eq_true rfl) fun ta T W => ?_
    refine g_dup W d29_74 (q := 75) rfl rfl ?_
    refine g_iconst W (v := (0 : Int32)) d29_75 (q := 76) rfl rfl ?_
    refine g_aloadN W d29_76 (q := 77) rfl rfl rfl ?_
    refine g_iconst W (v := (0 : Int32)) d29_77 (q := 78) rfl rfl ?_
    refine g_caload W (W.rd ha) (by decide) (i := 0) (by decide) (v := .int c0) rfl d29_78 (q := 79) rfl ?_
    refine g_castore W (i := 0) (ii := 0) (y := c0) rfl (by decide) (by decide) rfl (own_narc (by omega)) d29_79 (q := 80) rfl (vs' := [.int c0, .int 0, .int 0, .int 0]) rfl (O' := (ta, ArrC Z .char [.int c0, .int 0, .int 0, .int 0]) :: O) rfl fun T W => ?_
    refine g_dup W d29_80 (q := 81) rfl rfl ?_
    refine g_iconst W (v := (1 : Int32)) d29_81 (q := 82) rfl rfl ?_
    refine g_aloadN W d29_82 (q := 83) rfl rfl rfl ?_
    refine g_iconst W (v := (1 : Int32)) d29_83 (q := 84) rfl rfl ?_
    refine g_caload W (W.rd ha) (by decide) (i := 1) (by decide) (v := .int c1) rfl d29_84 (q := 85) rfl ?_
    refine g_castore W (i := 0) (ii := 1) (y := c1) rfl (by decide) (by decide) rfl (own_narc (by omega)) d29_85 (q := 86) rfl (vs' := [.int c0, .int c1, .int 0, .int 0]) rfl (O' := (ta, ArrC Z .char [.int c0, .int c1, .int 0, .int 0]) :: O) rfl fun T W => ?_
    refine g_dup W d29_86 (q := 87) rfl rfl ?_
    refine g_iconst W (v := (2 : Int32)) d29_87 (q := 88) rfl rfl ?_
    refine g_aloadN W d29_88 (q := 89) rfl rfl rfl ?_
    refine g_iconst W (v := (2 : Int32)) d29_89 (q := 90) rfl rfl ?_
    refine g_caload W (W.rd ha) (by decide) (i := 2) (by decide) (v := .int c2) rfl d29_90 (q := 91) rfl ?_
    refine g_castore W (i := 0) (ii := 2) (y := c2) rfl (by decide) (by decide) rfl (own_narc (by omega)) d29_91 (q := 92) rfl (vs' := [.int c0, .int c1, .int c2, .int 0]) rfl (O' := (ta, ArrC Z .char [.int c0, .int c1, .int c2, .int 0]) :: O) rfl fun T W => ?_
    refine g_dup W d29_92 (q := 93) rfl rfl ?_
    refine g_iconst W (v := (3 : Int32)) d29_93 (q := 94) rfl rfl ?_
    refine g_aloadN W d29_94 (q := 95) rfl rfl rfl ?_
    refine g_iconst W (v := (3 : Int32)) d29_95 (q := 96) rfl rfl ?_
    refine g_caload W (W.rd ha) (by decide) (i := 3) (by decide) (v := .int c3) rfl d29_96 (q := 97) rfl ?_
    refine g_castore W (i := 0) (ii := 3) (y := c3) rfl (by decide) (by decide) rfl (own_narc (by omega)) d29_97 (q := 98) rfl (vs' := [.int c0, .int c1, .int c2, .int c3]) rfl (O' := (ta, ArrC Z .char [.int c0, .int c1, .int c2, .int c3]) :: O) rfl fun T W => ?_
    have W := W.share (i := 0) rfl
    exact g_retA W rfl rfl rfl d29_98 (Nat.le_of_ble_eq_true rfl) (Nat.le_of_ble_eq_true rfl) ⟨ta, rfl, rfl, fun y hy => .tail _ hy, .head _⟩
theorem d30_0 : decode method_3_code 0 = .ok (.iload_n 2, 1) := by decide +kernel
theorem d30_1 : decode method_3_code 1 = .ok (.ifCond .gt 16, 3) := by decide +kernel
theorem d30_4 : decode method_3_code 4 = .ok (.iload_n 1, 1) := by decide +kernel
theorem d30_5 : decode method_3_code 5 = .ok (.ifCond .le 12, 3) := by decide +kernel
theorem d30_8 : decode method_3_code 8 = .ok (.aload_n 0, 1) := by decide +kernel
theorem d30_9 : decode method_3_code 9 = .ok (.iconst 0, 1) := by decide +kernel
theorem d30_10 : decode method_3_code 10 = .ok (.caload, 1) := by decide +kernel
theorem d30_11 : decode method_3_code 11 = .ok (.iload_n 3, 1) := by decide +kernel
theorem d30_12 : decode method_3_code 12 = .ok (.if_icmp .ne 5, 3) := by decide +kernel
theorem d30_15 : decode method_3_code 15 = .ok (.iconst 0, 1) := by decide +kernel
theorem d30_16 : decode method_3_code 16 = .ok (.ireturn, 1) := by decide +kernel
theorem d30_17 : decode method_3_code 17 = .ok (.iload_n 2, 1) := by decide +kernel
theorem d30_18 : decode method_3_code 18 = .ok (.iconst 1, 1) := by decide +kernel
theorem d30_19 : decode method_3_code 19 = .ok (.if_icmp .gt 17, 3) := by decide +kernel
theorem d30_22 : decode method_3_code 22 = .ok (.iload_n 1, 1) := by decide +kernel
theorem d30_23 : decode method_3_code 23 = .ok (.iconst 1, 1) := by decide +kernel
theorem d30_24 : decode method_3_code 24 = .ok (.if_icmp .le 12, 3) := by decide +kernel
theorem d30_27 : decode method_3_code 27 = .ok (.aload_n 0, 1) := by decide +kernel
theorem d30_28 : decode method_3_code 28 = .ok (.iconst 1, 1) := by decide +kernel
theorem d30_29 : decode method_3_code 29 = .ok (.caload, 1) := by decide +kernel
theorem d30_30 : decode method_3_code 30 = .ok (.iload_n 3, 1) := by decide +kernel
theorem d30_31 : decode method_3_code 31 = .ok (.if_icmp .ne 5, 3) := by decide +kernel
theorem d30_34 : decode method_3_code 34 = .ok (.iconst 1, 1) := by decide +kernel
theorem d30_35 : decode method_3_code 35 = .ok (.ireturn, 1) := by decide +kernel
theorem d30_36 : decode method_3_code 36 = .ok (.iload_n 2, 1) := by decide +kernel
theorem d30_37 : decode method_3_code 37 = .ok (.iconst 2, 1) := by decide +kernel
theorem d30_38 : decode method_3_code 38 = .ok (.if_icmp .gt 17, 3) := by decide +kernel
theorem d30_41 : decode method_3_code 41 = .ok (.iload_n 1, 1) := by decide +kernel
theorem d30_42 : decode method_3_code 42 = .ok (.iconst 2, 1) := by decide +kernel
theorem d30_43 : decode method_3_code 43 = .ok (.if_icmp .le 12, 3) := by decide +kernel
theorem d30_46 : decode method_3_code 46 = .ok (.aload_n 0, 1) := by decide +kernel
theorem d30_47 : decode method_3_code 47 = .ok (.iconst 2, 1) := by decide +kernel
theorem d30_48 : decode method_3_code 48 = .ok (.caload, 1) := by decide +kernel
theorem d30_49 : decode method_3_code 49 = .ok (.iload_n 3, 1) := by decide +kernel
theorem d30_50 : decode method_3_code 50 = .ok (.if_icmp .ne 5, 3) := by decide +kernel
theorem d30_53 : decode method_3_code 53 = .ok (.iconst 2, 1) := by decide +kernel
theorem d30_54 : decode method_3_code 54 = .ok (.ireturn, 1) := by decide +kernel
theorem d30_55 : decode method_3_code 55 = .ok (.iload_n 2, 1) := by decide +kernel
theorem d30_56 : decode method_3_code 56 = .ok (.iconst 3, 1) := by decide +kernel
theorem d30_57 : decode method_3_code 57 = .ok (.if_icmp .gt 17, 3) := by decide +kernel
theorem d30_60 : decode method_3_code 60 = .ok (.iload_n 1, 1) := by decide +kernel
theorem d30_61 : decode method_3_code 61 = .ok (.iconst 3, 1) := by decide +kernel
theorem d30_62 : decode method_3_code 62 = .ok (.if_icmp .le 12, 3) := by decide +kernel
theorem d30_65 : decode method_3_code 65 = .ok (.aload_n 0, 1) := by decide +kernel
theorem d30_66 : decode method_3_code 66 = .ok (.iconst 3, 1) := by decide +kernel
theorem d30_67 : decode method_3_code 67 = .ok (.caload, 1) := by decide +kernel
theorem d30_68 : decode method_3_code 68 = .ok (.iload_n 3, 1) := by decide +kernel
theorem d30_69 : decode method_3_code 69 = .ok (.if_icmp .ne 5, 3) := by decide +kernel
theorem d30_72 : decode method_3_code 72 = .ok (.iconst 3, 1) := by decide +kernel
theorem d30_73 : decode method_3_code 73 = .ok (.ireturn, 1) := by decide +kernel
theorem d30_74 : decode method_3_code 74 = .ok (.iload_n 1, 1) := by decide +kernel
theorem d30_75 : decode method_3_code 75 = .ok (.ireturn, 1) := by decide +kernel
set_option maxRecDepth 65536 in
set_option maxHeartbeats 40000000 in
theorem ff_4 {kn : Prop} {p : Program} {l : Launch} {e : Env} {s : State} {m : MethodId} {args : Array Value} {below : List Frame} {meth : Method} {c : Code} {Z : State} {a0 : Array Value} {P : List Ent} (E0 : Env0 Z a0) {O : List Ent} {a : Addr} {cs4 : List Int32} {ln q : Nat} {ch : Int32} {Q : Option Value → List Ent → List Ent → Prop} (ha : (a, ArrC Z .char (cs4.map .int)) ∈ P) (h4 : cs4.length = 4) (hln : ln ≤ 4) (hq : q ≤ ln) (hno : ∀ j, q ≤ j → j < 4 → (cs4.take ln)[j]? ≠ some ch) (hQ : Q (some (.int (ix (cs4.take ln) ch (ln - q) q).toInt32)) O P) (T : State) (W : Wk kn p l e ({ frames := 0, cells := 0, slots := 0, locals := 0 } : Room) s m args below meth c method_3_code 4 (some .int) Z a0 EL0 "com/example/recaller/recaller/LexerUntilPinLaw" T O P 0 0) : Go p e below s ({ frames := 0, cells := 0, slots := 0, locals := 0 } : Room) Z EL0 Q T (mkF m 74 #[.val (.ref a), .val (.int ln.toInt32), .val (.int q.toInt32), .val (.int ch)] []) := by
  obtain ⟨hw, hs0, hEL, hS, ⟨cs0, hC0, hcs0⟩, hmore⟩ := id E0
  refine g_iloadN W d30_74 (q := 75) rfl rfl ?_
  have e : ix (cs4.take ln) ch (ln - q) q = ln := ix_at _ _ _ hq (by omega) (fun j h1 h2 => hno j h1 (by omega)) (Or.inl (by omega))
  rw [e] at hQ
  exact g_retI W rfl (Or.inl rfl) rfl d30_75 (Nat.le_of_ble_eq_true rfl) (Nat.le_of_ble_eq_true rfl) hQ
set_option maxRecDepth 65536 in
set_option maxHeartbeats 40000000 in
theorem ff_3 {kn : Prop} {p : Program} {l : Launch} {e : Env} {s : State} {m : MethodId} {args : Array Value} {below : List Frame} {meth : Method} {c : Code} {Z : State} {a0 : Array Value} {P : List Ent} (E0 : Env0 Z a0) {O : List Ent} {a : Addr} {cs4 : List Int32} {ln q : Nat} {ch : Int32} {Q : Option Value → List Ent → List Ent → Prop} (ha : (a, ArrC Z .char (cs4.map .int)) ∈ P) (h4 : cs4.length = 4) (hln : ln ≤ 4) (hq : q ≤ ln) (hno : ∀ j, q ≤ j → j < 3 → (cs4.take ln)[j]? ≠ some ch) (hQ : Q (some (.int (ix (cs4.take ln) ch (ln - q) q).toInt32)) O P) (T : State) (W : Wk kn p l e ({ frames := 0, cells := 0, slots := 0, locals := 0 } : Room) s m args below meth c method_3_code 4 (some .int) Z a0 EL0 "com/example/recaller/recaller/LexerUntilPinLaw" T O P 0 0) : Go p e below s ({ frames := 0, cells := 0, slots := 0, locals := 0 } : Room) Z EL0 Q T (mkF m 55 #[.val (.ref a), .val (.int ln.toInt32), .val (.int q.toInt32), .val (.int ch)] []) := by
  obtain ⟨hw, hs0, hEL, hS, ⟨cs0, hC0, hcs0⟩, hmore⟩ := id E0
  refine g_iloadN W d30_55 (q := 56) rfl rfl ?_
  refine g_iconst W (v := (3 : Int32)) d30_56 (q := 57) rfl rfl ?_
  by_cases h1 : (3 : Int32) < q.toInt32
  · refine g_icY W d30_57 (q := 74) (XT.ii_gt_t h1) (by decide) (by decide) ?_
    have h1n : 3 < q := (own_lt (i := 3) (by omega) (by omega)).mp h1
    exact ff_4 E0 ha h4 hln hq (fun j h1 h2 => by rcases Nat.lt_or_ge j 3 with r | r; exact hno j h1 r; omega) hQ T W
  · refine g_icN W d30_57 (q := 60) (XT.ii_gt_f h1) rfl ?_
    have h1n : ¬ 3 < q := fun r => h1 ((own_lt (i := 3) (by omega) (by omega)).mpr r)
    refine g_iloadN W d30_60 (q := 61) rfl rfl ?_
    refine g_iconst W (v := (3 : Int32)) d30_61 (q := 62) rfl rfl ?_
    by_cases h2 : (3 : Int32) < ln.toInt32
    · refine g_icN W d30_62 (q := 65) (XT.ii_le_f h2) rfl ?_
      have h2n : 3 < ln := (own_lt (i := 3) (by omega) (by omega)).mp h2
      obtain ⟨d, hd⟩ : ∃ d, cs4[3]? = some d := ⟨_, List.getElem?_eq_getElem (by omega)⟩
      have hd2 : (cs4.take ln)[3]? = some d := by rw [List.getElem?_take_of_lt h2n]; exact hd
      refine g_aloadN W d30_65 (q := 66) rfl rfl rfl ?_
      refine g_iconst W (v := (3 : Int32)) d30_66 (q := 67) rfl rfl ?_
      refine g_caload W (W.rd ha) (by decide) (i := 3) (by decide) (v := .int d) (by rw [List.getElem?_map, hd]; rfl) d30_67 (q := 68) rfl ?_
      refine g_iloadN W d30_68 (q := 69) rfl rfl ?_
      by_cases h3 : d = ch
      · refine g_icN W d30_69 (q := 72) (XT.ii_ne_f h3) rfl ?_
        have e : ix (cs4.take ln) ch (ln - q) q = 3 := ix_at _ _ _ (by omega) (by omega) hno (Or.inr (by rw [hd2, h3]))
        rw [e] at hQ
        refine g_iconst W (v := (3 : Int32)) d30_72 (q := 73) rfl rfl ?_
        exact g_retI W rfl (Or.inl rfl) rfl d30_73 (Nat.le_of_ble_eq_true rfl) (Nat.le_of_ble_eq_true rfl) hQ
      · refine g_icY W d30_69 (q := 74) (XT.ii_ne_t h3) (by decide) (by decide) ?_
        exact ff_4 E0 ha h4 hln hq (fun j h1 h2 => by rcases Nat.lt_or_ge j 3 with r | r; exact hno j h1 r; obtain rfl : j = 3 := (by omega); exact (by rw [hd2]; intro e; cases e; exact h3 rfl)) hQ T W
    · refine g_icY W d30_62 (q := 74) (XT.ii_le_t h2) (by decide) (by decide) ?_
      have h2n : ¬ 3 < ln := fun r => h2 ((own_lt (i := 3) (by omega) (by omega)).mpr r)
      exact ff_4 E0 ha h4 hln hq (fun j h1 h2 => by rcases Nat.lt_or_ge j 3 with r | r; exact hno j h1 r; obtain rfl : j = 3 := (by omega); exact (by rw [List.getElem?_eq_none (by rw [List.length_take]; omega)]; simp)) hQ T W
set_option maxRecDepth 65536 in
set_option maxHeartbeats 40000000 in
theorem ff_2 {kn : Prop} {p : Program} {l : Launch} {e : Env} {s : State} {m : MethodId} {args : Array Value} {below : List Frame} {meth : Method} {c : Code} {Z : State} {a0 : Array Value} {P : List Ent} (E0 : Env0 Z a0) {O : List Ent} {a : Addr} {cs4 : List Int32} {ln q : Nat} {ch : Int32} {Q : Option Value → List Ent → List Ent → Prop} (ha : (a, ArrC Z .char (cs4.map .int)) ∈ P) (h4 : cs4.length = 4) (hln : ln ≤ 4) (hq : q ≤ ln) (hno : ∀ j, q ≤ j → j < 2 → (cs4.take ln)[j]? ≠ some ch) (hQ : Q (some (.int (ix (cs4.take ln) ch (ln - q) q).toInt32)) O P) (T : State) (W : Wk kn p l e ({ frames := 0, cells := 0, slots := 0, locals := 0 } : Room) s m args below meth c method_3_code 4 (some .int) Z a0 EL0 "com/example/recaller/recaller/LexerUntilPinLaw" T O P 0 0) : Go p e below s ({ frames := 0, cells := 0, slots := 0, locals := 0 } : Room) Z EL0 Q T (mkF m 36 #[.val (.ref a), .val (.int ln.toInt32), .val (.int q.toInt32), .val (.int ch)] []) := by
  obtain ⟨hw, hs0, hEL, hS, ⟨cs0, hC0, hcs0⟩, hmore⟩ := id E0
  refine g_iloadN W d30_36 (q := 37) rfl rfl ?_
  refine g_iconst W (v := (2 : Int32)) d30_37 (q := 38) rfl rfl ?_
  by_cases h1 : (2 : Int32) < q.toInt32
  · refine g_icY W d30_38 (q := 55) (XT.ii_gt_t h1) (by decide) (by decide) ?_
    have h1n : 2 < q := (own_lt (i := 2) (by omega) (by omega)).mp h1
    exact ff_3 E0 ha h4 hln hq (fun j h1 h2 => by rcases Nat.lt_or_ge j 2 with r | r; exact hno j h1 r; omega) hQ T W
  · refine g_icN W d30_38 (q := 41) (XT.ii_gt_f h1) rfl ?_
    have h1n : ¬ 2 < q := fun r => h1 ((own_lt (i := 2) (by omega) (by omega)).mpr r)
    refine g_iloadN W d30_41 (q := 42) rfl rfl ?_
    refine g_iconst W (v := (2 : Int32)) d30_42 (q := 43) rfl rfl ?_
    by_cases h2 : (2 : Int32) < ln.toInt32
    · refine g_icN W d30_43 (q := 46) (XT.ii_le_f h2) rfl ?_
      have h2n : 2 < ln := (own_lt (i := 2) (by omega) (by omega)).mp h2
      obtain ⟨d, hd⟩ : ∃ d, cs4[2]? = some d := ⟨_, List.getElem?_eq_getElem (by omega)⟩
      have hd2 : (cs4.take ln)[2]? = some d := by rw [List.getElem?_take_of_lt h2n]; exact hd
      refine g_aloadN W d30_46 (q := 47) rfl rfl rfl ?_
      refine g_iconst W (v := (2 : Int32)) d30_47 (q := 48) rfl rfl ?_
      refine g_caload W (W.rd ha) (by decide) (i := 2) (by decide) (v := .int d) (by rw [List.getElem?_map, hd]; rfl) d30_48 (q := 49) rfl ?_
      refine g_iloadN W d30_49 (q := 50) rfl rfl ?_
      by_cases h3 : d = ch
      · refine g_icN W d30_50 (q := 53) (XT.ii_ne_f h3) rfl ?_
        have e : ix (cs4.take ln) ch (ln - q) q = 2 := ix_at _ _ _ (by omega) (by omega) hno (Or.inr (by rw [hd2, h3]))
        rw [e] at hQ
        refine g_iconst W (v := (2 : Int32)) d30_53 (q := 54) rfl rfl ?_
        exact g_retI W rfl (Or.inl rfl) rfl d30_54 (Nat.le_of_ble_eq_true rfl) (Nat.le_of_ble_eq_true rfl) hQ
      · refine g_icY W d30_50 (q := 55) (XT.ii_ne_t h3) (by decide) (by decide) ?_
        exact ff_3 E0 ha h4 hln hq (fun j h1 h2 => by rcases Nat.lt_or_ge j 2 with r | r; exact hno j h1 r; obtain rfl : j = 2 := (by omega); exact (by rw [hd2]; intro e; cases e; exact h3 rfl)) hQ T W
    · refine g_icY W d30_43 (q := 55) (XT.ii_le_t h2) (by decide) (by decide) ?_
      have h2n : ¬ 2 < ln := fun r => h2 ((own_lt (i := 2) (by omega) (by omega)).mpr r)
      exact ff_3 E0 ha h4 hln hq (fun j h1 h2 => by rcases Nat.lt_or_ge j 2 with r | r; exact hno j h1 r; obtain rfl : j = 2 := (by omega); exact (by rw [List.getElem?_eq_none (by rw [List.length_take]; omega)]; simp)) hQ T W
set_option maxRecDepth 65536 in
set_option maxHeartbeats 40000000 in
theorem ff_1 {kn : Prop} {p : Program} {l : Launch} {e : Env} {s : State} {m : MethodId} {args : Array Value} {below : List Frame} {meth : Method} {c : Code} {Z : State} {a0 : Array Value} {P : List Ent} (E0 : Env0 Z a0) {O : List Ent} {a : Addr} {cs4 : List Int32} {ln q : Nat} {ch : Int32} {Q : Option Value → List Ent → List Ent → Prop} (ha : (a, ArrC Z .char (cs4.map .int)) ∈ P) (h4 : cs4.length = 4) (hln : ln ≤ 4) (hq : q ≤ ln) (hno : ∀ j, q ≤ j → j < 1 → (cs4.take ln)[j]? ≠ some ch) (hQ : Q (some (.int (ix (cs4.take ln) ch (ln - q) q).toInt32)) O P) (T : State) (W : Wk kn p l e ({ frames := 0, cells := 0, slots := 0, locals := 0 } : Room) s m args below meth c method_3_code 4 (some .int) Z a0 EL0 "com/example/recaller/recaller/LexerUntilPinLaw" T O P 0 0) : Go p e below s ({ frames := 0, cells := 0, slots := 0, locals := 0 } : Room) Z EL0 Q T (mkF m 17 #[.val (.ref a), .val (.int ln.toInt32), .val (.int q.toInt32), .val (.int ch)] []) := by
  obtain ⟨hw, hs0, hEL, hS, ⟨cs0, hC0, hcs0⟩, hmore⟩ := id E0
  refine g_iloadN W d30_17 (q := 18) rfl rfl ?_
  refine g_iconst W (v := (1 : Int32)) d30_18 (q := 19) rfl rfl ?_
  by_cases h1 : (1 : Int32) < q.toInt32
  · refine g_icY W d30_19 (q := 36) (XT.ii_gt_t h1) (by decide) (by decide) ?_
    have h1n : 1 < q := (own_lt (i := 1) (by omega) (by omega)).mp h1
    exact ff_2 E0 ha h4 hln hq (fun j h1 h2 => by rcases Nat.lt_or_ge j 1 with r | r; exact hno j h1 r; omega) hQ T W
  · refine g_icN W d30_19 (q := 22) (XT.ii_gt_f h1) rfl ?_
    have h1n : ¬ 1 < q := fun r => h1 ((own_lt (i := 1) (by omega) (by omega)).mpr r)
    refine g_iloadN W d30_22 (q := 23) rfl rfl ?_
    refine g_iconst W (v := (1 : Int32)) d30_23 (q := 24) rfl rfl ?_
    by_cases h2 : (1 : Int32) < ln.toInt32
    · refine g_icN W d30_24 (q := 27) (XT.ii_le_f h2) rfl ?_
      have h2n : 1 < ln := (own_lt (i := 1) (by omega) (by omega)).mp h2
      obtain ⟨d, hd⟩ : ∃ d, cs4[1]? = some d := ⟨_, List.getElem?_eq_getElem (by omega)⟩
      have hd2 : (cs4.take ln)[1]? = some d := by rw [List.getElem?_take_of_lt h2n]; exact hd
      refine g_aloadN W d30_27 (q := 28) rfl rfl rfl ?_
      refine g_iconst W (v := (1 : Int32)) d30_28 (q := 29) rfl rfl ?_
      refine g_caload W (W.rd ha) (by decide) (i := 1) (by decide) (v := .int d) (by rw [List.getElem?_map, hd]; rfl) d30_29 (q := 30) rfl ?_
      refine g_iloadN W d30_30 (q := 31) rfl rfl ?_
      by_cases h3 : d = ch
      · refine g_icN W d30_31 (q := 34) (XT.ii_ne_f h3) rfl ?_
        have e : ix (cs4.take ln) ch (ln - q) q = 1 := ix_at _ _ _ (by omega) (by omega) hno (Or.inr (by rw [hd2, h3]))
        rw [e] at hQ
        refine g_iconst W (v := (1 : Int32)) d30_34 (q := 35) rfl rfl ?_
        exact g_retI W rfl (Or.inl rfl) rfl d30_35 (Nat.le_of_ble_eq_true rfl) (Nat.le_of_ble_eq_true rfl) hQ
      · refine g_icY W d30_31 (q := 36) (XT.ii_ne_t h3) (by decide) (by decide) ?_
        exact ff_2 E0 ha h4 hln hq (fun j h1 h2 => by rcases Nat.lt_or_ge j 1 with r | r; exact hno j h1 r; obtain rfl : j = 1 := (by omega); exact (by rw [hd2]; intro e; cases e; exact h3 rfl)) hQ T W
    · refine g_icY W d30_24 (q := 36) (XT.ii_le_t h2) (by decide) (by decide) ?_
      have h2n : ¬ 1 < ln := fun r => h2 ((own_lt (i := 1) (by omega) (by omega)).mpr r)
      exact ff_2 E0 ha h4 hln hq (fun j h1 h2 => by rcases Nat.lt_or_ge j 1 with r | r; exact hno j h1 r; obtain rfl : j = 1 := (by omega); exact (by rw [List.getElem?_eq_none (by rw [List.length_take]; omega)]; simp)) hQ T W
set_option maxRecDepth 65536 in
set_option maxHeartbeats 40000000 in
theorem ff_0 {kn : Prop} {p : Program} {l : Launch} {e : Env} {s : State} {m : MethodId} {args : Array Value} {below : List Frame} {meth : Method} {c : Code} {Z : State} {a0 : Array Value} {P : List Ent} (E0 : Env0 Z a0) {O : List Ent} {a : Addr} {cs4 : List Int32} {ln q : Nat} {ch : Int32} {Q : Option Value → List Ent → List Ent → Prop} (ha : (a, ArrC Z .char (cs4.map .int)) ∈ P) (h4 : cs4.length = 4) (hln : ln ≤ 4) (hq : q ≤ ln) (hno : ∀ j, q ≤ j → j < 0 → (cs4.take ln)[j]? ≠ some ch) (hQ : Q (some (.int (ix (cs4.take ln) ch (ln - q) q).toInt32)) O P) (T : State) (W : Wk kn p l e ({ frames := 0, cells := 0, slots := 0, locals := 0 } : Room) s m args below meth c method_3_code 4 (some .int) Z a0 EL0 "com/example/recaller/recaller/LexerUntilPinLaw" T O P 0 0) : Go p e below s ({ frames := 0, cells := 0, slots := 0, locals := 0 } : Room) Z EL0 Q T (mkF m 0 #[.val (.ref a), .val (.int ln.toInt32), .val (.int q.toInt32), .val (.int ch)] []) := by
  obtain ⟨hw, hs0, hEL, hS, ⟨cs0, hC0, hcs0⟩, hmore⟩ := id E0
  refine g_iloadN W d30_0 (q := 1) rfl rfl ?_
  by_cases h1 : 0 < q.toInt32
  · refine g_ifY W d30_1 (q := 17) (XT.i0_gt_t h1) (by decide) (by decide) ?_
    have h1n : 0 < q := (own_lt (i := 0) (by omega) (by omega)).mp h1
    exact ff_1 E0 ha h4 hln hq (fun j h1 h2 => by rcases Nat.lt_or_ge j 0 with r | r; exact hno j h1 r; omega) hQ T W
  · refine g_ifN W d30_1 (q := 4) (XT.i0_gt_f h1) rfl ?_
    have h1n : ¬ 0 < q := fun r => h1 ((own_lt (i := 0) (by omega) (by omega)).mpr r)
    refine g_iloadN W d30_4 (q := 5) rfl rfl ?_
    by_cases h2 : 0 < ln.toInt32
    · refine g_ifN W d30_5 (q := 8) (XT.i0_le_f h2) rfl ?_
      have h2n : 0 < ln := (own_lt (i := 0) (by omega) (by omega)).mp h2
      obtain ⟨d, hd⟩ : ∃ d, cs4[0]? = some d := ⟨_, List.getElem?_eq_getElem (by omega)⟩
      have hd2 : (cs4.take ln)[0]? = some d := by rw [List.getElem?_take_of_lt h2n]; exact hd
      refine g_aloadN W d30_8 (q := 9) rfl rfl rfl ?_
      refine g_iconst W (v := (0 : Int32)) d30_9 (q := 10) rfl rfl ?_
      refine g_caload W (W.rd ha) (by decide) (i := 0) (by decide) (v := .int d) (by rw [List.getElem?_map, hd]; rfl) d30_10 (q := 11) rfl ?_
      refine g_iloadN W d30_11 (q := 12) rfl rfl ?_
      by_cases h3 : d = ch
      · refine g_icN W d30_12 (q := 15) (XT.ii_ne_f h3) rfl ?_
        have e : ix (cs4.take ln) ch (ln - q) q = 0 := ix_at _ _ _ (by omega) (by omega) hno (Or.inr (by rw [hd2, h3]))
        rw [e] at hQ
        refine g_iconst W (v := (0 : Int32)) d30_15 (q := 16) rfl rfl ?_
        exact g_retI W rfl (Or.inl rfl) rfl d30_16 (Nat.le_of_ble_eq_true rfl) (Nat.le_of_ble_eq_true rfl) hQ
      · refine g_icY W d30_12 (q := 17) (XT.ii_ne_t h3) (by decide) (by decide) ?_
        exact ff_1 E0 ha h4 hln hq (fun j h1 h2 => by rcases Nat.lt_or_ge j 0 with r | r; exact hno j h1 r; obtain rfl : j = 0 := (by omega); exact (by rw [hd2]; intro e; cases e; exact h3 rfl)) hQ T W
    · refine g_ifY W d30_5 (q := 17) (XT.i0_le_t h2) (by decide) (by decide) ?_
      have h2n : ¬ 0 < ln := fun r => h2 ((own_lt (i := 0) (by omega) (by omega)).mpr r)
      exact ff_1 E0 ha h4 hln hq (fun j h1 h2 => by rcases Nat.lt_or_ge j 0 with r | r; exact hno j h1 r; obtain rfl : j = 0 := (by omega); exact (by rw [List.getElem?_eq_none (by rw [List.length_take]; omega)]; simp)) hQ T W
theorem ef_ff (m : MethodId) (a : Addr) (i : Int32) (j : Int32) (k : Int32) : entryFrame m #[(.ref a), (.int i), (.int j), (.int k)] 4 = mkF m 0 #[.val (.ref a), .val (.int i), .val (.int j), .val (.int k)] [] := by first | (simp [entryFrame, mkF, argsToLocals, Value.category]; done) | rfl
set_option maxRecDepth 65536 in
set_option maxHeartbeats 40000000 in
theorem con_ff {kn : Prop} (l : Launch) (Z : State) (a0 : Array Value) (E0 : Env0 Z a0) (O P : List Ent) (a : Addr) (cs4 : List Int32) (ln q : Nat) (ch : Int32) (ha : (a, ArrC Z .char (cs4.map .int)) ∈ P) (h4 : cs4.length = 4) (hln : ln ≤ 4) (hq : q ≤ ln) :
    Con kn l Z EL0 (⟨"com/example/recaller/recaller/LexerUntilPinLaw", "firstFrom", "([CIIC)I"⟩ : MethodName) method_3_code 4 (some .int) [] ({ frames := 0, cells := 0, slots := 0, locals := 0 } : Room) #[.ref a, .int ln.toInt32, .int q.toInt32, .int ch] O P (fun v O' P' => v = some (.int (ix (cs4.take ln) ch (ln - q) q).toInt32) ∧ O = O' ∧ P = P') := by
  obtain ⟨hw, hs0, hEL, hS, ⟨cs0, hC0, hcs0⟩, hmore⟩ := id E0
  refine con_intro (plainFor_of_name pn_10) hEL (fun m => ef_ff m _ _ _ _) ?_
  intro p e s m below meth c T W hnm
  exact ff_0 E0 ha h4 hln hq (fun j h1 h2 => by omega) ⟨rfl, rfl, rfl⟩ T W
theorem d31_0 : decode method_4_code 0 = .ok (.iload_n 3, 1) := by decide +kernel
theorem d31_1 : decode method_4_code 1 = .ok (.iload_n 2, 1) := by decide +kernel
theorem d31_2 : decode method_4_code 2 = .ok (.isub, 1) := by decide +kernel
theorem d31_3 : decode method_4_code 3 = .ok (.istore 4, 2) := by decide +kernel
theorem d31_5 : decode method_4_code 5 = .ok (.aload_n 0, 1) := by decide +kernel
theorem d31_6 : decode method_4_code 6 = .ok (.invokevirtual 7, 3) := by decide +kernel
theorem d31_9 : decode method_4_code 9 = .ok (.iload 4, 2) := by decide +kernel
theorem d31_11 : decode method_4_code 11 = .ok (.if_icmp .eq 5, 3) := by decide +kernel
theorem d31_14 : decode method_4_code 14 = .ok (.iconst 0, 1) := by decide +kernel
theorem d31_15 : decode method_4_code 15 = .ok (.ireturn, 1) := by decide +kernel
theorem d31_16 : decode method_4_code 16 = .ok (.iload 4, 2) := by decide +kernel
theorem d31_18 : decode method_4_code 18 = .ok (.ifCond .le 14, 3) := by decide +kernel
theorem d31_21 : decode method_4_code 21 = .ok (.aload_n 0, 1) := by decide +kernel
theorem d31_22 : decode method_4_code 22 = .ok (.iconst 0, 1) := by decide +kernel
theorem d31_23 : decode method_4_code 23 = .ok (.invokevirtual 13, 3) := by decide +kernel
theorem d31_26 : decode method_4_code 26 = .ok (.aload_n 1, 1) := by decide +kernel
theorem d31_27 : decode method_4_code 27 = .ok (.iload_n 2, 1) := by decide +kernel
theorem d31_28 : decode method_4_code 28 = .ok (.caload, 1) := by decide +kernel
theorem d31_29 : decode method_4_code 29 = .ok (.if_icmp .ne 64, 3) := by decide +kernel
theorem d31_32 : decode method_4_code 32 = .ok (.iload 4, 2) := by decide +kernel
theorem d31_34 : decode method_4_code 34 = .ok (.iconst 1, 1) := by decide +kernel
theorem d31_35 : decode method_4_code 35 = .ok (.if_icmp .le 16, 3) := by decide +kernel
theorem d31_38 : decode method_4_code 38 = .ok (.aload_n 0, 1) := by decide +kernel
theorem d31_39 : decode method_4_code 39 = .ok (.iconst 1, 1) := by decide +kernel
theorem d31_40 : decode method_4_code 40 = .ok (.invokevirtual 13, 3) := by decide +kernel
theorem d31_43 : decode method_4_code 43 = .ok (.aload_n 1, 1) := by decide +kernel
theorem d31_44 : decode method_4_code 44 = .ok (.iload_n 2, 1) := by decide +kernel
theorem d31_45 : decode method_4_code 45 = .ok (.iconst 1, 1) := by decide +kernel
theorem d31_46 : decode method_4_code 46 = .ok (.iadd, 1) := by decide +kernel
theorem d31_47 : decode method_4_code 47 = .ok (.caload, 1) := by decide +kernel
theorem d31_48 : decode method_4_code 48 = .ok (.if_icmp .ne 45, 3) := by decide +kernel
theorem d31_51 : decode method_4_code 51 = .ok (.iload 4, 2) := by decide +kernel
theorem d31_53 : decode method_4_code 53 = .ok (.iconst 2, 1) := by decide +kernel
theorem d31_54 : decode method_4_code 54 = .ok (.if_icmp .le 16, 3) := by decide +kernel
theorem d31_57 : decode method_4_code 57 = .ok (.aload_n 0, 1) := by decide +kernel
theorem d31_58 : decode method_4_code 58 = .ok (.iconst 2, 1) := by decide +kernel
theorem d31_59 : decode method_4_code 59 = .ok (.invokevirtual 13, 3) := by decide +kernel
theorem d31_62 : decode method_4_code 62 = .ok (.aload_n 1, 1) := by decide +kernel
theorem d31_63 : decode method_4_code 63 = .ok (.iload_n 2, 1) := by decide +kernel
theorem d31_64 : decode method_4_code 64 = .ok (.iconst 2, 1) := by decide +kernel
theorem d31_65 : decode method_4_code 65 = .ok (.iadd, 1) := by decide +kernel
theorem d31_66 : decode method_4_code 66 = .ok (.caload, 1) := by decide +kernel
theorem d31_67 : decode method_4_code 67 = .ok (.if_icmp .ne 26, 3) := by decide +kernel
theorem d31_70 : decode method_4_code 70 = .ok (.iload 4, 2) := by decide +kernel
theorem d31_72 : decode method_4_code 72 = .ok (.iconst 3, 1) := by decide +kernel
theorem d31_73 : decode method_4_code 73 = .ok (.if_icmp .le 16, 3) := by decide +kernel
theorem d31_76 : decode method_4_code 76 = .ok (.aload_n 0, 1) := by decide +kernel
theorem d31_77 : decode method_4_code 77 = .ok (.iconst 3, 1) := by decide +kernel
theorem d31_78 : decode method_4_code 78 = .ok (.invokevirtual 13, 3) := by decide +kernel
theorem d31_81 : decode method_4_code 81 = .ok (.aload_n 1, 1) := by decide +kernel
theorem d31_82 : decode method_4_code 82 = .ok (.iload_n 2, 1) := by decide +kernel
theorem d31_83 : decode method_4_code 83 = .ok (.iconst 3, 1) := by decide +kernel
theorem d31_84 : decode method_4_code 84 = .ok (.iadd, 1) := by decide +kernel
theorem d31_85 : decode method_4_code 85 = .ok (.caload, 1) := by decide +kernel
theorem d31_86 : decode method_4_code 86 = .ok (.if_icmp .ne 7, 3) := by decide +kernel
theorem d31_89 : decode method_4_code 89 = .ok (.iconst 1, 1) := by decide +kernel
theorem d31_90 : decode method_4_code 90 = .ok (.goto 4, 3) := by decide +kernel
theorem d31_93 : decode method_4_code 93 = .ok (.iconst 0, 1) := by decide +kernel
theorem d31_94 : decode method_4_code 94 = .ok (.ireturn, 1) := by decide +kernel
theorem ef_ss (m : MethodId) (r : Addr) (a : Addr) (i : Int32) (j : Int32) : entryFrame m #[(.ref r), (.ref a), (.int i), (.int j)] 5 = mkF m 0 #[.val (.ref r), .val (.ref a), .val (.int i), .val (.int j), .unset] [] := by first | (simp [entryFrame, mkF, argsToLocals, Value.category]; done) | rfl
theorem pd_19 : parseMethodDescriptor "(I)C" = some ⟨[.int], (some .char)⟩ := by decide +kernel
set_option maxRecDepth 65536 in
set_option maxHeartbeats 40000000 in
theorem con_ss {kn : Prop} (l : Launch) (Z : State) (a0 : Array Value) (E0 : Env0 Z a0) (O P : List Ent) (r a : Addr) (cs4 : List Int32) (ln q d : Nat) (ha : (a, ArrC Z .char (cs4.map .int)) ∈ P) (h4 : cs4.length = 4) (hln : ln ≤ 4) (hqd : q + d ≤ ln) (hr : ∀ d ∈ cs4, 0 ≤ d.toInt ∧ d.toInt ≤ 255) (hs : IsL1 Z P r (((cs4.take ln).drop q).take d)) :
    Con kn l Z EL0 (⟨"com/example/recaller/recaller/LexerUntilPinLaw", "sameSlice", "(Ljava/lang/String;[CII)Z"⟩ : MethodName) method_4_code 5 (some .boolean) [] ({ frames := 4, cells := 0, slots := 0, locals := 53 } : Room) #[.ref r, .ref a, .int q.toInt32, .int (q + d).toInt32] O P (fun v O' P' => v = some (.int (1 : Int32)) ∧ O = O' ∧ P = P') := by
  obtain ⟨hw, hs0, hEL, hS, ⟨cs0, hC0, hcs0⟩, hmore⟩ := id E0
  refine con_intro (plainFor_of_name pn_10) hEL (fun m => ef_ss m _ _ _ _) ?_
  intro p e s m below meth c T W hnm
  obtain ⟨b, hx, hb'⟩ := id hs
  have hl : (((cs4.take ln).drop q).take d).length = d := by simp; omega
  have hat : ∀ t, t < d → ∃ u, cs4[q + t]? = some u ∧ (((cs4.take ln).drop q).take d)[t]? = some u := fun t ht => ⟨_, List.getElem?_eq_getElem (show q + t < cs4.length by omega), by rw [List.getElem?_take_of_lt ht, List.getElem?_drop, List.getElem?_take_of_lt (by omega)]; exact List.getElem?_eq_getElem _⟩
  refine g_iloadN W d31_0 (q := 1) rfl rfl ?_
  refine g_iloadN W d31_1 (q := 2) rfl rfl ?_
  refine g_isub W d31_2 (q := 3) (z := d.toInt32) ((own_sub (by omega) (by omega)).trans (by rw [show q + d - q = d by omega])) rfl ?_
  refine g_istore W d31_3 (q := 5) (L' := #[.val (.ref r), .val (.ref a), .val (.int q.toInt32), .val (.int (q + d).toInt32), .val (.int d.toInt32)]) rfl rfl ?_
  refine g_aloadN W d31_5 (q := 6) rfl rfl rfl ?_
  refine g_virtual W (con_slen l Z a0 E0 O P r _ hs) (own_ex (W.rd hx) fun _ h => h.1) (argsL := []) (rest := []) rfl rfl pd_12 rfl (own_w hw 114 rfl) (own_w hw 71 rfl) (own_w hw 73 rfl) (own_w hw 72 rfl) (own_w hw 8 rfl) (own_w hw 74 rfl) (by decide) d31_6 (q := 9) rfl rfl (Nat.le_of_ble_eq_true rfl) (Nat.le_of_ble_eq_true rfl) (Nat.le_of_ble_eq_true rfl) (Nat.le_of_ble_eq_true rfl) ?_
  rintro _ _ _ T ⟨rfl, rfl, rfl⟩ W
  rw [hl]
  refine g_iload W d31_9 (q := 11) rfl rfl ?_
  refine g_icY W d31_11 (q := 16) (XT.ii_eq_t rfl) (by decide) (by decide) ?_
  have hd4 : d ≤ 4 := by omega
  rcases own_le4 hd4 with rfl | rfl | rfl | rfl | rfl
  · show Go _ _ _ _ _ _ _ _ _ (mkF m 16 #[.val (.ref r), .val (.ref a), .val (.int q.toInt32), .val (.int (q + 0).toInt32), .val (.int (0 : Int32))] [])
    refine g_iload W d31_16 (q := 18) rfl rfl ?_
    refine g_ifY W d31_18 (q := 32) (XT.i0_le_t (by decide)) (by decide) (by decide) ?_
    refine g_iload W d31_32 (q := 34) rfl rfl ?_
    refine g_iconst W (v := (1 : Int32)) d31_34 (q := 35) rfl rfl ?_
    refine g_icY W d31_35 (q := 51) (XT.ii_le_t (by decide)) (by decide) (by decide) ?_
    refine g_iload W d31_51 (q := 53) rfl rfl ?_
    refine g_iconst W (v := (2 : Int32)) d31_53 (q := 54) rfl rfl ?_
    refine g_icY W d31_54 (q := 70) (XT.ii_le_t (by decide)) (by decide) (by decide) ?_
    refine g_iload W d31_70 (q := 72) rfl rfl ?_
    refine g_iconst W (v := (3 : Int32)) d31_72 (q := 73) rfl rfl ?_
    refine g_icY W d31_73 (q := 89) (XT.ii_le_t (by decide)) (by decide) (by decide) ?_
    refine g_iconst W (v := (1 : Int32)) d31_89 (q := 90) rfl rfl ?_
    refine g_goto W d31_90 (q := 94) (by decide) (by decide) ?_
    exact g_retI W rfl (Or.inr (Or.inl rfl)) rfl d31_94 (Nat.le_of_ble_eq_true rfl) (Nat.le_of_ble_eq_true rfl) ⟨rfl, rfl, rfl⟩
  · show Go _ _ _ _ _ _ _ _ _ (mkF m 16 #[.val (.ref r), .val (.ref a), .val (.int q.toInt32), .val (.int (q + 1).toInt32), .val (.int (1 : Int32))] [])
    obtain ⟨u0, hu0, hv0⟩ := hat 0 (by omega)
    refine g_iload W d31_16 (q := 18) rfl rfl ?_
    refine g_ifN W d31_18 (q := 21) (XT.i0_le_f (by decide)) rfl ?_
    refine g_aloadN W d31_21 (q := 22) rfl rfl rfl ?_
    refine g_iconst W (v := (0 : Int32)) d31_22 (q := 23) rfl rfl ?_
    refine g_virtual W (con_cha l Z a0 E0 O P r _ 0 u0 (by omega) hv0 (hr _ (List.mem_of_getElem? hu0)) hs) (own_ex (W.rd hx) fun _ h => h.1) (argsL := [(.int (0 : Int32))]) (rest := []) rfl rfl pd_19 rfl (own_w hw 115 rfl) (own_w hw 116 rfl) (own_w hw 118 rfl) (own_w hw 117 rfl) (own_w hw 8 rfl) (own_w hw 119 rfl) (by decide) d31_23 (q := 26) rfl rfl (Nat.le_of_ble_eq_true rfl) (Nat.le_of_ble_eq_true rfl) (Nat.le_of_ble_eq_true rfl) (Nat.le_of_ble_eq_true rfl) ?_
    rintro _ _ _ T ⟨rfl, rfl, rfl⟩ W
    refine g_aloadN W d31_26 (q := 27) rfl rfl rfl ?_
    refine g_iloadN W d31_27 (q := 28) rfl rfl ?_
    refine g_caload W (W.rd ha) (own_nn (by omega)) (i := q + 0) (own_clamp (by omega)) (v := .int u0) (by rw [List.getElem?_map, hu0]; rfl) d31_28 (q := 29) rfl ?_
    refine g_icN W d31_29 (q := 32) (XT.ii_ne_f rfl) rfl ?_
    refine g_iload W d31_32 (q := 34) rfl rfl ?_
    refine g_iconst W (v := (1 : Int32)) d31_34 (q := 35) rfl rfl ?_
    refine g_icY W d31_35 (q := 51) (XT.ii_le_t (by decide)) (by decide) (by decide) ?_
    refine g_iload W d31_51 (q := 53) rfl rfl ?_
    refine g_iconst W (v := (2 : Int32)) d31_53 (q := 54) rfl rfl ?_
    refine g_icY W d31_54 (q := 70) (XT.ii_le_t (by decide)) (by decide) (by decide) ?_
    refine g_iload W d31_70 (q := 72) rfl rfl ?_
    refine g_iconst W (v := (3 : Int32)) d31_72 (q := 73) rfl rfl ?_
    refine g_icY W d31_73 (q := 89) (XT.ii_le_t (by decide)) (by decide) (by decide) ?_
    refine g_iconst W (v := (1 : Int32)) d31_89 (q := 90) rfl rfl ?_
    refine g_goto W d31_90 (q := 94) (by decide) (by decide) ?_
    exact g_retI W rfl (Or.inr (Or.inl rfl)) rfl d31_94 (Nat.le_of_ble_eq_true rfl) (Nat.le_of_ble_eq_true rfl) ⟨rfl, rfl, rfl⟩
  · show Go _ _ _ _ _ _ _ _ _ (mkF m 16 #[.val (.ref r), .val (.ref a), .val (.int q.toInt32), .val (.int (q + 2).toInt32), .val (.int (2 : Int32))] [])
    obtain ⟨u0, hu0, hv0⟩ := hat 0 (by omega)
    refine g_iload W d31_16 (q := 18) rfl rfl ?_
    refine g_ifN W d31_18 (q := 21) (XT.i0_le_f (by decide)) rfl ?_
    refine g_aloadN W d31_21 (q := 22) rfl rfl rfl ?_
    refine g_iconst W (v := (0 : Int32)) d31_22 (q := 23) rfl rfl ?_
    refine g_virtual W (con_cha l Z a0 E0 O P r _ 0 u0 (by omega) hv0 (hr _ (List.mem_of_getElem? hu0)) hs) (own_ex (W.rd hx) fun _ h => h.1) (argsL := [(.int (0 : Int32))]) (rest := []) rfl rfl pd_19 rfl (own_w hw 115 rfl) (own_w hw 116 rfl) (own_w hw 118 rfl) (own_w hw 117 rfl) (own_w hw 8 rfl) (own_w hw 119 rfl) (by decide) d31_23 (q := 26) rfl rfl (Nat.le_of_ble_eq_true rfl) (Nat.le_of_ble_eq_true rfl) (Nat.le_of_ble_eq_true rfl) (Nat.le_of_ble_eq_true rfl) ?_
    rintro _ _ _ T ⟨rfl, rfl, rfl⟩ W
    refine g_aloadN W d31_26 (q := 27) rfl rfl rfl ?_
    refine g_iloadN W d31_27 (q := 28) rfl rfl ?_
    refine g_caload W (W.rd ha) (own_nn (by omega)) (i := q + 0) (own_clamp (by omega)) (v := .int u0) (by rw [List.getElem?_map, hu0]; rfl) d31_28 (q := 29) rfl ?_
    refine g_icN W d31_29 (q := 32) (XT.ii_ne_f rfl) rfl ?_
    obtain ⟨u1, hu1, hv1⟩ := hat 1 (by omega)
    refine g_iload W d31_32 (q := 34) rfl rfl ?_
    refine g_iconst W (v := (1 : Int32)) d31_34 (q := 35) rfl rfl ?_
    refine g_icN W d31_35 (q := 38) (XT.ii_le_f (by decide)) rfl ?_
    refine g_aloadN W d31_38 (q := 39) rfl rfl rfl ?_
    refine g_iconst W (v := (1 : Int32)) d31_39 (q := 40) rfl rfl ?_
    refine g_virtual W (con_cha l Z a0 E0 O P r _ 1 u1 (by omega) hv1 (hr _ (List.mem_of_getElem? hu1)) hs) (own_ex (W.rd hx) fun _ h => h.1) (argsL := [(.int (1 : Int32))]) (rest := []) rfl rfl pd_19 rfl (own_w hw 115 rfl) (own_w hw 116 rfl) (own_w hw 118 rfl) (own_w hw 117 rfl) (own_w hw 8 rfl) (own_w hw 119 rfl) (by decide) d31_40 (q := 43) rfl rfl (Nat.le_of_ble_eq_true rfl) (Nat.le_of_ble_eq_true rfl) (Nat.le_of_ble_eq_true rfl) (Nat.le_of_ble_eq_true rfl) ?_
    rintro _ _ _ T ⟨rfl, rfl, rfl⟩ W
    refine g_aloadN W d31_43 (q := 44) rfl rfl rfl ?_
    refine g_iloadN W d31_44 (q := 45) rfl rfl ?_
    refine g_iconst W (v := (1 : Int32)) d31_45 (q := 46) rfl rfl ?_
    refine g_iadd W d31_46 (q := 47) (z := (q + 1).toInt32) (own_add (b := 1) (by omega)) rfl ?_
    refine g_caload W (W.rd ha) (own_nn (by omega)) (i := q + 1) (own_clamp (by omega)) (v := .int u1) (by rw [List.getElem?_map, hu1]; rfl) d31_47 (q := 48) rfl ?_
    refine g_icN W d31_48 (q := 51) (XT.ii_ne_f rfl) rfl ?_
    refine g_iload W d31_51 (q := 53) rfl rfl ?_
    refine g_iconst W (v := (2 : Int32)) d31_53 (q := 54) rfl rfl ?_
    refine g_icY W d31_54 (q := 70) (XT.ii_le_t (by decide)) (by decide) (by decide) ?_
    refine g_iload W d31_70 (q := 72) rfl rfl ?_
    refine g_iconst W (v := (3 : Int32)) d31_72 (q := 73) rfl rfl ?_
    refine g_icY W d31_73 (q := 89) (XT.ii_le_t (by decide)) (by decide) (by decide) ?_
    refine g_iconst W (v := (1 : Int32)) d31_89 (q := 90) rfl rfl ?_
    refine g_goto W d31_90 (q := 94) (by decide) (by decide) ?_
    exact g_retI W rfl (Or.inr (Or.inl rfl)) rfl d31_94 (Nat.le_of_ble_eq_true rfl) (Nat.le_of_ble_eq_true rfl) ⟨rfl, rfl, rfl⟩
  · show Go _ _ _ _ _ _ _ _ _ (mkF m 16 #[.val (.ref r), .val (.ref a), .val (.int q.toInt32), .val (.int (q + 3).toInt32), .val (.int (3 : Int32))] [])
    obtain ⟨u0, hu0, hv0⟩ := hat 0 (by omega)
    refine g_iload W d31_16 (q := 18) rfl rfl ?_
    refine g_ifN W d31_18 (q := 21) (XT.i0_le_f (by decide)) rfl ?_
    refine g_aloadN W d31_21 (q := 22) rfl rfl rfl ?_
    refine g_iconst W (v := (0 : Int32)) d31_22 (q := 23) rfl rfl ?_
    refine g_virtual W (con_cha l Z a0 E0 O P r _ 0 u0 (by omega) hv0 (hr _ (List.mem_of_getElem? hu0)) hs) (own_ex (W.rd hx) fun _ h => h.1) (argsL := [(.int (0 : Int32))]) (rest := []) rfl rfl pd_19 rfl (own_w hw 115 rfl) (own_w hw 116 rfl) (own_w hw 118 rfl) (own_w hw 117 rfl) (own_w hw 8 rfl) (own_w hw 119 rfl) (by decide) d31_23 (q := 26) rfl rfl (Nat.le_of_ble_eq_true rfl) (Nat.le_of_ble_eq_true rfl) (Nat.le_of_ble_eq_true rfl) (Nat.le_of_ble_eq_true rfl) ?_
    rintro _ _ _ T ⟨rfl, rfl, rfl⟩ W
    refine g_aloadN W d31_26 (q := 27) rfl rfl rfl ?_
    refine g_iloadN W d31_27 (q := 28) rfl rfl ?_
    refine g_caload W (W.rd ha) (own_nn (by omega)) (i := q + 0) (own_clamp (by omega)) (v := .int u0) (by rw [List.getElem?_map, hu0]; rfl) d31_28 (q := 29) rfl ?_
    refine g_icN W d31_29 (q := 32) (XT.ii_ne_f rfl) rfl ?_
    obtain ⟨u1, hu1, hv1⟩ := hat 1 (by omega)
    refine g_iload W d31_32 (q := 34) rfl rfl ?_
    refine g_iconst W (v := (1 : Int32)) d31_34 (q := 35) rfl rfl ?_
    refine g_icN W d31_35 (q := 38) (XT.ii_le_f (by decide)) rfl ?_
    refine g_aloadN W d31_38 (q := 39) rfl rfl rfl ?_
    refine g_iconst W (v := (1 : Int32)) d31_39 (q := 40) rfl rfl ?_
    refine g_virtual W (con_cha l Z a0 E0 O P r _ 1 u1 (by omega) hv1 (hr _ (List.mem_of_getElem? hu1)) hs) (own_ex (W.rd hx) fun _ h => h.1) (argsL := [(.int (1 : Int32))]) (rest := []) rfl rfl pd_19 rfl (own_w hw 115 rfl) (own_w hw 116 rfl) (own_w hw 118 rfl) (own_w hw 117 rfl) (own_w hw 8 rfl) (own_w hw 119 rfl) (by decide) d31_40 (q := 43) rfl rfl (Nat.le_of_ble_eq_true rfl) (Nat.le_of_ble_eq_true rfl) (Nat.le_of_ble_eq_true rfl) (Nat.le_of_ble_eq_true rfl) ?_
    rintro _ _ _ T ⟨rfl, rfl, rfl⟩ W
    refine g_aloadN W d31_43 (q := 44) rfl rfl rfl ?_
    refine g_iloadN W d31_44 (q := 45) rfl rfl ?_
    refine g_iconst W (v := (1 : Int32)) d31_45 (q := 46) rfl rfl ?_
    refine g_iadd W d31_46 (q := 47) (z := (q + 1).toInt32) (own_add (b := 1) (by omega)) rfl ?_
    refine g_caload W (W.rd ha) (own_nn (by omega)) (i := q + 1) (own_clamp (by omega)) (v := .int u1) (by rw [List.getElem?_map, hu1]; rfl) d31_47 (q := 48) rfl ?_
    refine g_icN W d31_48 (q := 51) (XT.ii_ne_f rfl) rfl ?_
    obtain ⟨u2, hu2, hv2⟩ := hat 2 (by omega)
    refine g_iload W d31_51 (q := 53) rfl rfl ?_
    refine g_iconst W (v := (2 : Int32)) d31_53 (q := 54) rfl rfl ?_
    refine g_icN W d31_54 (q := 57) (XT.ii_le_f (by decide)) rfl ?_
    refine g_aloadN W d31_57 (q := 58) rfl rfl rfl ?_
    refine g_iconst W (v := (2 : Int32)) d31_58 (q := 59) rfl rfl ?_
    refine g_virtual W (con_cha l Z a0 E0 O P r _ 2 u2 (by omega) hv2 (hr _ (List.mem_of_getElem? hu2)) hs) (own_ex (W.rd hx) fun _ h => h.1) (argsL := [(.int (2 : Int32))]) (rest := []) rfl rfl pd_19 rfl (own_w hw 115 rfl) (own_w hw 116 rfl) (own_w hw 118 rfl) (own_w hw 117 rfl) (own_w hw 8 rfl) (own_w hw 119 rfl) (by decide) d31_59 (q := 62) rfl rfl (Nat.le_of_ble_eq_true rfl) (Nat.le_of_ble_eq_true rfl) (Nat.le_of_ble_eq_true rfl) (Nat.le_of_ble_eq_true rfl) ?_
    rintro _ _ _ T ⟨rfl, rfl, rfl⟩ W
    refine g_aloadN W d31_62 (q := 63) rfl rfl rfl ?_
    refine g_iloadN W d31_63 (q := 64) rfl rfl ?_
    refine g_iconst W (v := (2 : Int32)) d31_64 (q := 65) rfl rfl ?_
    refine g_iadd W d31_65 (q := 66) (z := (q + 2).toInt32) (own_add (b := 2) (by omega)) rfl ?_
    refine g_caload W (W.rd ha) (own_nn (by omega)) (i := q + 2) (own_clamp (by omega)) (v := .int u2) (by rw [List.getElem?_map, hu2]; rfl) d31_66 (q := 67) rfl ?_
    refine g_icN W d31_67 (q := 70) (XT.ii_ne_f rfl) rfl ?_
    refine g_iload W d31_70 (q := 72) rfl rfl ?_
    refine g_iconst W (v := (3 : Int32)) d31_72 (q := 73) rfl rfl ?_
    refine g_icY W d31_73 (q := 89) (XT.ii_le_t (by decide)) (by decide) (by decide) ?_
    refine g_iconst W (v := (1 : Int32)) d31_89 (q := 90) rfl rfl ?_
    refine g_goto W d31_90 (q := 94) (by decide) (by decide) ?_
    exact g_retI W rfl (Or.inr (Or.inl rfl)) rfl d31_94 (Nat.le_of_ble_eq_true rfl) (Nat.le_of_ble_eq_true rfl) ⟨rfl, rfl, rfl⟩
  · show Go _ _ _ _ _ _ _ _ _ (mkF m 16 #[.val (.ref r), .val (.ref a), .val (.int q.toInt32), .val (.int (q + 4).toInt32), .val (.int (4 : Int32))] [])
    obtain ⟨u0, hu0, hv0⟩ := hat 0 (by omega)
    refine g_iload W d31_16 (q := 18) rfl rfl ?_
    refine g_ifN W d31_18 (q := 21) (XT.i0_le_f (by decide)) rfl ?_
    refine g_aloadN W d31_21 (q := 22) rfl rfl rfl ?_
    refine g_iconst W (v := (0 : Int32)) d31_22 (q := 23) rfl rfl ?_
    refine g_virtual W (con_cha l Z a0 E0 O P r _ 0 u0 (by omega) hv0 (hr _ (List.mem_of_getElem? hu0)) hs) (own_ex (W.rd hx) fun _ h => h.1) (argsL := [(.int (0 : Int32))]) (rest := []) rfl rfl pd_19 rfl (own_w hw 115 rfl) (own_w hw 116 rfl) (own_w hw 118 rfl) (own_w hw 117 rfl) (own_w hw 8 rfl) (own_w hw 119 rfl) (by decide) d31_23 (q := 26) rfl rfl (Nat.le_of_ble_eq_true rfl) (Nat.le_of_ble_eq_true rfl) (Nat.le_of_ble_eq_true rfl) (Nat.le_of_ble_eq_true rfl) ?_
    rintro _ _ _ T ⟨rfl, rfl, rfl⟩ W
    refine g_aloadN W d31_26 (q := 27) rfl rfl rfl ?_
    refine g_iloadN W d31_27 (q := 28) rfl rfl ?_
    refine g_caload W (W.rd ha) (own_nn (by omega)) (i := q + 0) (own_clamp (by omega)) (v := .int u0) (by rw [List.getElem?_map, hu0]; rfl) d31_28 (q := 29) rfl ?_
    refine g_icN W d31_29 (q := 32) (XT.ii_ne_f rfl) rfl ?_
    obtain ⟨u1, hu1, hv1⟩ := hat 1 (by omega)
    refine g_iload W d31_32 (q := 34) rfl rfl ?_
    refine g_iconst W (v := (1 : Int32)) d31_34 (q := 35) rfl rfl ?_
    refine g_icN W d31_35 (q := 38) (XT.ii_le_f (by decide)) rfl ?_
    refine g_aloadN W d31_38 (q := 39) rfl rfl rfl ?_
    refine g_iconst W (v := (1 : Int32)) d31_39 (q := 40) rfl rfl ?_
    refine g_virtual W (con_cha l Z a0 E0 O P r _ 1 u1 (by omega) hv1 (hr _ (List.mem_of_getElem? hu1)) hs) (own_ex (W.rd hx) fun _ h => h.1) (argsL := [(.int (1 : Int32))]) (rest := []) rfl rfl pd_19 rfl (own_w hw 115 rfl) (own_w hw 116 rfl) (own_w hw 118 rfl) (own_w hw 117 rfl) (own_w hw 8 rfl) (own_w hw 119 rfl) (by decide) d31_40 (q := 43) rfl rfl (Nat.le_of_ble_eq_true rfl) (Nat.le_of_ble_eq_true rfl) (Nat.le_of_ble_eq_true rfl) (Nat.le_of_ble_eq_true rfl) ?_
    rintro _ _ _ T ⟨rfl, rfl, rfl⟩ W
    refine g_aloadN W d31_43 (q := 44) rfl rfl rfl ?_
    refine g_iloadN W d31_44 (q := 45) rfl rfl ?_
    refine g_iconst W (v := (1 : Int32)) d31_45 (q := 46) rfl rfl ?_
    refine g_iadd W d31_46 (q := 47) (z := (q + 1).toInt32) (own_add (b := 1) (by omega)) rfl ?_
    refine g_caload W (W.rd ha) (own_nn (by omega)) (i := q + 1) (own_clamp (by omega)) (v := .int u1) (by rw [List.getElem?_map, hu1]; rfl) d31_47 (q := 48) rfl ?_
    refine g_icN W d31_48 (q := 51) (XT.ii_ne_f rfl) rfl ?_
    obtain ⟨u2, hu2, hv2⟩ := hat 2 (by omega)
    refine g_iload W d31_51 (q := 53) rfl rfl ?_
    refine g_iconst W (v := (2 : Int32)) d31_53 (q := 54) rfl rfl ?_
    refine g_icN W d31_54 (q := 57) (XT.ii_le_f (by decide)) rfl ?_
    refine g_aloadN W d31_57 (q := 58) rfl rfl rfl ?_
    refine g_iconst W (v := (2 : Int32)) d31_58 (q := 59) rfl rfl ?_
    refine g_virtual W (con_cha l Z a0 E0 O P r _ 2 u2 (by omega) hv2 (hr _ (List.mem_of_getElem? hu2)) hs) (own_ex (W.rd hx) fun _ h => h.1) (argsL := [(.int (2 : Int32))]) (rest := []) rfl rfl pd_19 rfl (own_w hw 115 rfl) (own_w hw 116 rfl) (own_w hw 118 rfl) (own_w hw 117 rfl) (own_w hw 8 rfl) (own_w hw 119 rfl) (by decide) d31_59 (q := 62) rfl rfl (Nat.le_of_ble_eq_true rfl) (Nat.le_of_ble_eq_true rfl) (Nat.le_of_ble_eq_true rfl) (Nat.le_of_ble_eq_true rfl) ?_
    rintro _ _ _ T ⟨rfl, rfl, rfl⟩ W
    refine g_aloadN W d31_62 (q := 63) rfl rfl rfl ?_
    refine g_iloadN W d31_63 (q := 64) rfl rfl ?_
    refine g_iconst W (v := (2 : Int32)) d31_64 (q := 65) rfl rfl ?_
    refine g_iadd W d31_65 (q := 66) (z := (q + 2).toInt32) (own_add (b := 2) (by omega)) rfl ?_
    refine g_caload W (W.rd ha) (own_nn (by omega)) (i := q + 2) (own_clamp (by omega)) (v := .int u2) (by rw [List.getElem?_map, hu2]; rfl) d31_66 (q := 67) rfl ?_
    refine g_icN W d31_67 (q := 70) (XT.ii_ne_f rfl) rfl ?_
    obtain ⟨u3, hu3, hv3⟩ := hat 3 (by omega)
    refine g_iload W d31_70 (q := 72) rfl rfl ?_
    refine g_iconst W (v := (3 : Int32)) d31_72 (q := 73) rfl rfl ?_
    refine g_icN W d31_73 (q := 76) (XT.ii_le_f (by decide)) rfl ?_
    refine g_aloadN W d31_76 (q := 77) rfl rfl rfl ?_
    refine g_iconst W (v := (3 : Int32)) d31_77 (q := 78) rfl rfl ?_
    refine g_virtual W (con_cha l Z a0 E0 O P r _ 3 u3 (by omega) hv3 (hr _ (List.mem_of_getElem? hu3)) hs) (own_ex (W.rd hx) fun _ h => h.1) (argsL := [(.int (3 : Int32))]) (rest := []) rfl rfl pd_19 rfl (own_w hw 115 rfl) (own_w hw 116 rfl) (own_w hw 118 rfl) (own_w hw 117 rfl) (own_w hw 8 rfl) (own_w hw 119 rfl) (by decide) d31_78 (q := 81) rfl rfl (Nat.le_of_ble_eq_true rfl) (Nat.le_of_ble_eq_true rfl) (Nat.le_of_ble_eq_true rfl) (Nat.le_of_ble_eq_true rfl) ?_
    rintro _ _ _ T ⟨rfl, rfl, rfl⟩ W
    refine g_aloadN W d31_81 (q := 82) rfl rfl rfl ?_
    refine g_iloadN W d31_82 (q := 83) rfl rfl ?_
    refine g_iconst W (v := (3 : Int32)) d31_83 (q := 84) rfl rfl ?_
    refine g_iadd W d31_84 (q := 85) (z := (q + 3).toInt32) (own_add (b := 3) (by omega)) rfl ?_
    refine g_caload W (W.rd ha) (own_nn (by omega)) (i := q + 3) (own_clamp (by omega)) (v := .int u3) (by rw [List.getElem?_map, hu3]; rfl) d31_85 (q := 86) rfl ?_
    refine g_icN W d31_86 (q := 89) (XT.ii_ne_f rfl) rfl ?_
    refine g_iconst W (v := (1 : Int32)) d31_89 (q := 90) rfl rfl ?_
    refine g_goto W d31_90 (q := 94) (by decide) (by decide) ?_
    exact g_retI W rfl (Or.inr (Or.inl rfl)) rfl d31_94 (Nat.le_of_ble_eq_true rfl) (Nat.le_of_ble_eq_true rfl) ⟨rfl, rfl, rfl⟩
theorem ef_law (m : MethodId) (x0 : Int64) (x1 x2 x3 : Int32) : entryFrame m #[(.long x0), (.int x1), (.int x2), (.int x3)] maxLocals = mkF m 0 #[.val (.long x0), .second, .val (.int x1), .val (.int x2), .val (.int x3), .unset, .unset, .unset, .unset, .unset, .unset, .unset, .unset, .unset, .unset, .unset] [] := by first | (simp [entryFrame, mkF, argsToLocals, Value.category, maxLocals]; done) | rfl
theorem pd_20 : parseMethodDescriptor "([CI)[C" = some ⟨[(.array .char), .int], (some (.array .char))⟩ := by decide +kernel
theorem pd_21 : parseMethodDescriptor "([C)V" = some ⟨[(.array .char)], none⟩ := by decide +kernel
theorem pd_22 : parseMethodDescriptor "(Ljava/lang/String;Ljava/lang/String;)V" = some ⟨[(.object "java/lang/String"), (.object "java/lang/String")], none⟩ := by decide +kernel
theorem pd_23 : parseMethodDescriptor "([CIIC)I" = some ⟨[(.array .char), .int, .int, .char], (some .int)⟩ := by decide +kernel
theorem pd_24 : parseMethodDescriptor "(C)Ljava/lang/String;" = some ⟨[.char], (some (.object "java/lang/String"))⟩ := by decide +kernel
theorem pd_25 : parseMethodDescriptor "(Ljava/lang/String;[CII)Z" = some ⟨[(.object "java/lang/String"), (.array .char), .int, .int], (some .boolean)⟩ := by decide +kernel
theorem own_conE {kn : Prop} {l : Launch} {Z : State} {EL : List (String × Nat)} {y : MethodName} {bytes : ByteArray} {maxL : Nat} {ret : Option FieldType} {ws : List Jvm.Cond} {rm : Room} {as1 as2 : Array Value} {O P : List Ent} {Q : Option Value → List Ent → List Ent → Prop} (e : as1 = as2) (h : Con kn l Z EL y bytes maxL ret ws rm as2 O P Q) : Con kn l Z EL y bytes maxL ret ws rm as1 O P Q := e ▸ h
set_option maxRecDepth 65536 in
set_option maxHeartbeats 40000000 in
theorem con_law {kn : Prop} (l : Launch) (Z : State) (a0 : Array Value) (E0 : Env0 Z a0) (P : List Ent) (x0 : Int64) (x1 x2 x3 : Int32) :
    Con kn l Z EL0 x code maxLocals ret tables_1 room_1 #[.long x0, .int x1, .int x2, .int x3] [] P (fun v O' P' => v = some (.int (1 : Int32))) := by
  obtain ⟨hw, hs0, hEL, hS, ⟨cs0, hC0, hcs0⟩, hmore⟩ := id E0
  refine con_intro (plainFor_of_name pn_10) hEL (fun m => ef_law m _ _ _ _) ?_
  intro p e s m below meth c T W hnm
  obtain ⟨ln, hln, eln⟩ := own_mod5 x1
  refine g_iloadN W at_0 (q := 1) rfl rfl ?_
  refine g_ldcI W (v := (2147483647 : Int32)) (own_w hw 0 rfl) at_1 (q := 3) rfl ?_
  refine g_iand W at_3 (q := 4) (z := (x1 &&& (2147483647 : Int32))) rfl rfl ?_
  refine g_iconst W (v := (5 : Int32)) at_4 (q := 5) rfl rfl ?_
  refine g_irem W at_5 (q := 6) (z := ln.toInt32) (by decide) eln rfl ?_
  refine g_istore W at_6 (q := 8) (L' := #[.val (.long x0), .second, .val (.int x1), .val (.int x2), .val (.int x3), .val (.int ln.toInt32), .unset, .unset, .unset, .unset, .unset, .unset, .unset, .unset, .unset, .unset]) rfl rfl ?_
  refine g_iconst W (v := (4 : Int32)) at_8 (q := 9) rfl rfl ?_
  refine g_newA W (ty := .char) (cap := 4) (vs := [.int 0, .int 0, .int 0, .int 0]) rfl (own_w hw 1 rfl) (by decide) (Nat.le_of_ble_eq_true rfl) (Nat.le_of_ble_eq_true rfl) rfl rfl at_9 (q := 11) rfl (Nat.le_of_ble_eq_true rfl) (Nat.le_of_ble_eq_true rfl) fun a T W => ?_
  obtain ⟨c0, hc0, ec0⟩ := own_lch x0
  refine g_dup W at_11 (q := 12) rfl rfl ?_
  refine g_iconst W (v := (0 : Int32)) at_12 (q := 13) rfl rfl ?_
  refine g_lloadN W at_13 (q := 14) rfl rfl ?_
  refine g_ldcJ W (v := (255 : Int64)) (own_w hw 2 rfl) at_14 (q := 17) rfl ?_
  refine g_land W at_17 (q := 18) (z := (x0 &&& (255 : Int64))) rfl rfl ?_
  refine g_l2i W at_18 (q := 19) (z := ((x0 &&& (255 : Int64)).toInt32)) rfl rfl ?_
  refine g_i2c W at_19 (q := 20) (z := c0) ec0 rfl ?_
  refine g_castore W (i := 0) (ii := 0) (y := c0) rfl (by decide) (by decide) rfl (own_narc (by omega)) at_20 (q := 21) rfl (vs' := [.int c0, .int 0, .int 0, .int 0]) rfl (O' := [(a, ArrC Z .char [.int c0, .int 0, .int 0, .int 0])]) rfl fun T W => ?_
  obtain ⟨c1, hc1, ec1⟩ := own_lch (XT.ushrL x0 (8 : Int32))
  refine g_dup W at_21 (q := 22) rfl rfl ?_
  refine g_iconst W (v := (1 : Int32)) at_22 (q := 23) rfl rfl ?_
  refine g_lloadN W at_23 (q := 24) rfl rfl ?_
  refine g_bipush W (v := (8 : Int32)) at_24 (q := 26) rfl rfl ?_
  refine g_lushr W at_26 (q := 27) (z := (XT.ushrL x0 (8 : Int32))) rfl rfl ?_
  refine g_ldcJ W (v := (255 : Int64)) (own_w hw 2 rfl) at_27 (q := 30) rfl ?_
  refine g_land W at_30 (q := 31) (z := ((XT.ushrL x0 (8 : Int32)) &&& (255 : Int64))) rfl rfl ?_
  refine g_l2i W at_31 (q := 32) (z := (((XT.ushrL x0 (8 : Int32)) &&& (255 : Int64)).toInt32)) rfl rfl ?_
  refine g_i2c W at_32 (q := 33) (z := c1) ec1 rfl ?_
  refine g_castore W (i := 0) (ii := 1) (y := c1) rfl (by decide) (by decide) rfl (own_narc (by omega)) at_33 (q := 34) rfl (vs' := [.int c0, .int c1, .int 0, .int 0]) rfl (O' := [(a, ArrC Z .char [.int c0, .int c1, .int 0, .int 0])]) rfl fun T W => ?_
  obtain ⟨c2, hc2, ec2⟩ := own_lch (XT.ushrL x0 (16 : Int32))
  refine g_dup W at_34 (q := 35) rfl rfl ?_
  refine g_iconst W (v := (2 : Int32)) at_35 (q := 36) rfl rfl ?_
  refine g_lloadN W at_36 (q := 37) rfl rfl ?_
  refine g_bipush W (v := (16 : Int32)) at_37 (q := 39) rfl rfl ?_
  refine g_lushr W at_39 (q := 40) (z := (XT.ushrL x0 (16 : Int32))) rfl rfl ?_
  refine g_ldcJ W (v := (255 : Int64)) (own_w hw 2 rfl) at_40 (q := 43) rfl ?_
  refine g_land W at_43 (q := 44) (z := ((XT.ushrL x0 (16 : Int32)) &&& (255 : Int64))) rfl rfl ?_
  refine g_l2i W at_44 (q := 45) (z := (((XT.ushrL x0 (16 : Int32)) &&& (255 : Int64)).toInt32)) rfl rfl ?_
  refine g_i2c W at_45 (q := 46) (z := c2) ec2 rfl ?_
  refine g_castore W (i := 0) (ii := 2) (y := c2) rfl (by decide) (by decide) rfl (own_narc (by omega)) at_46 (q := 47) rfl (vs' := [.int c0, .int c1, .int c2, .int 0]) rfl (O' := [(a, ArrC Z .char [.int c0, .int c1, .int c2, .int 0])]) rfl fun T W => ?_
  obtain ⟨c3, hc3, ec3⟩ := own_lch (XT.ushrL x0 (24 : Int32))
  refine g_dup W at_47 (q := 48) rfl rfl ?_
  refine g_iconst W (v := (3 : Int32)) at_48 (q := 49) rfl rfl ?_
  refine g_lloadN W at_49 (q := 50) rfl rfl ?_
  refine g_bipush W (v := (24 : Int32)) at_50 (q := 52) rfl rfl ?_
  refine g_lushr W at_52 (q := 53) (z := (XT.ushrL x0 (24 : Int32))) rfl rfl ?_
  refine g_ldcJ W (v := (255 : Int64)) (own_w hw 2 rfl) at_53 (q := 56) rfl ?_
  refine g_land W at_56 (q := 57) (z := ((XT.ushrL x0 (24 : Int32)) &&& (255 : Int64))) rfl rfl ?_
  refine g_l2i W at_57 (q := 58) (z := (((XT.ushrL x0 (24 : Int32)) &&& (255 : Int64)).toInt32)) rfl rfl ?_
  refine g_i2c W at_58 (q := 59) (z := c3) ec3 rfl ?_
  refine g_castore W (i := 0) (ii := 3) (y := c3) rfl (by decide) (by decide) rfl (own_narc (by omega)) at_59 (q := 60) rfl (vs' := [.int c0, .int c1, .int c2, .int c3]) rfl (O' := [(a, ArrC Z .char [.int c0, .int c1, .int c2, .int c3])]) rfl fun T W => ?_
  have W := W.share (i := 0) rfl
  refine g_astore W at_60 (q := 62) (L' := #[.val (.long x0), .second, .val (.int x1), .val (.int x2), .val (.int x3), .val (.int ln.toInt32), .val (.ref a), .unset, .unset, .unset, .unset, .unset, .unset, .unset, .unset, .unset]) rfl rfl rfl ?_
  refine g_iloadN W at_62 (q := 63) rfl rfl ?_
  refine g_sipush W (v := (255 : Int32)) at_63 (q := 66) rfl rfl ?_
  refine g_iand W at_66 (q := 67) (z := (x2 &&& (255 : Int32))) rfl rfl ?_
  refine g_i2c W at_67 (q := 68) (z := (x2 &&& (255 : Int32))) (own_chr255 _) rfl ?_
  refine g_istore W at_68 (q := 70) (L' := #[.val (.long x0), .second, .val (.int x1), .val (.int x2), .val (.int x3), .val (.int ln.toInt32), .val (.ref a), .val (.int (x2 &&& (255 : Int32))), .unset, .unset, .unset, .unset, .unset, .unset, .unset, .unset]) rfl rfl ?_
  refine g_iload W at_70 (q := 72) rfl rfl ?_
  refine g_sipush W (v := (255 : Int32)) at_72 (q := 75) rfl rfl ?_
  refine g_iand W at_75 (q := 76) (z := (x3 &&& (255 : Int32))) rfl rfl ?_
  refine g_i2c W at_76 (q := 77) (z := (x3 &&& (255 : Int32))) (own_chr255 _) rfl ?_
  refine g_istore W at_77 (q := 79) (L' := #[.val (.long x0), .second, .val (.int x1), .val (.int x2), .val (.int x3), .val (.int ln.toInt32), .val (.ref a), .val (.int (x2 &&& (255 : Int32))), .val (.int (x3 &&& (255 : Int32))), .unset, .unset, .unset, .unset, .unset, .unset, .unset]) rfl rfl ?_
  refine g_new W (shLx_ok hw) shLx_ds (own_w hw 3 rfl) (own_w hw 4 rfl) (own_w hw 5 rfl) at_79 (q := 82) rfl (Nat.le_of_ble_eq_true rfl) (Nat.le_of_ble_eq_true rfl) fun lx T W => ?_
  refine g_dup W at_82 (q := 83) rfl rfl ?_
  refine g_new W (shStr_ok hw) shStr_ds (own_w hw 6 rfl) (own_w hw 7 rfl) (own_w hw 8 rfl) at_83 (q := 86) rfl (Nat.le_of_ble_eq_true rfl) (Nat.le_of_ble_eq_true rfl) fun tx T W => ?_
  refine g_dup W at_86 (q := 87) rfl rfl ?_
  refine g_aload W at_87 (q := 89) rfl rfl rfl ?_
  refine g_iload W at_89 (q := 91) rfl rfl ?_
  have hr : ∀ d ∈ [c0, c1, c2, c3], 0 ≤ d.toInt ∧ d.toInt ≤ 255 := by simp [hc0, hc1, hc2, hc3]
  refine g_static W (con_pre l Z a0 E0 _ _ a c0 c1 c2 c3 ln hln hr (.head _)) (argsL := [(.ref a), (.int ln.toInt32)]) (rest := [(.ref tx), (.ref tx), (.ref lx), (.ref lx)]) rfl rfl pd_20 rfl (own_w hw 9 rfl) (own_w hw 10 rfl) (own_w hw 11 rfl) (own_w hw 12 rfl) (by decide) at_91 (q := 94) rfl rfl (Nat.le_of_ble_eq_true rfl) (Nat.le_of_ble_eq_true rfl) (Nat.le_of_ble_eq_true rfl) (Nat.le_of_ble_eq_true rfl) ?_
  rintro _ _ _ T ⟨ta, rfl, rfl, hsub1, hta⟩ W
  have ha := hsub1 _ (.head _)
  obtain ⟨cs4, ecs⟩ : ∃ z, z = [c0, c1, c2, c3] := ⟨_, rfl⟩
  have h4 : cs4.length = 4 := by rw [ecs]; rfl
  rw [← ecs] at hr hta
  rw [show ArrC Z .char [.int c0, .int c1, .int c2, .int c3] = ArrC Z .char (cs4.map .int) by rw [ecs]; rfl] at ha
  have hcs : ∀ d ∈ cs4.take ln, 0 ≤ d.toInt ∧ d.toInt ≤ 255 := fun d hd => hr d (List.mem_of_mem_take hd)
  have hl : (cs4.take ln).length = ln := by rw [List.length_take]; omega
  refine g_special W (con_sI1 l Z a0 E0 _ _ tx ta (cs4.take ln) 4 (by omega) (by decide) (own_latOf hcs) hta) (argsL := [(.ref ta)]) (rest := [(.ref tx), (.ref lx), (.ref lx)]) rfl rfl rfl pd_21 rfl (own_w hw 13 rfl) (own_w hw 14 rfl) (own_w hw 8 rfl) (own_w hw 15 rfl) (by decide) at_94 (q := 97) rfl rfl (Nat.le_of_ble_eq_true rfl) (Nat.le_of_ble_eq_true rfl) (Nat.le_of_ble_eq_true rfl) (Nat.le_of_ble_eq_true rfl) ?_
  rintro _ _ _ T ⟨rfl, rfl, hsub2, hs⟩ W
  refine g_ldcO W (own_w hw 39 rfl) hS at_97 (q := 99) rfl (nn := 4) (by decide +kernel) (Nat.le_of_ble_eq_true rfl) (Nat.le_of_ble_eq_true rfl) (Nat.le_of_ble_eq_true rfl) fun lb T W => ?_
  refine g_special W (con_lxI l Z a0 E0 _ _ lx tx lb) (argsL := [(.ref tx), (.ref lb)]) (rest := [(.ref lx)]) rfl rfl rfl pd_22 rfl (own_w hw 42 rfl) (own_w hw 43 rfl) (own_w hw 5 rfl) (own_w hw 44 rfl) (by decide) at_99 (q := 102) rfl rfl (Nat.le_of_ble_eq_true rfl) (Nat.le_of_ble_eq_true rfl) (Nat.le_of_ble_eq_true rfl) (Nat.le_of_ble_eq_true rfl) ?_
  rintro _ _ _ T ⟨rfl, rfl, rfl⟩ W
  refine g_astore W at_102 (q := 104) (L' := #[.val (.long x0), .second, .val (.int x1), .val (.int x2), .val (.int x3), .val (.int ln.toInt32), .val (.ref a), .val (.int (x2 &&& (255 : Int32))), .val (.int (x3 &&& (255 : Int32))), .val (.ref lx), .unset, .unset, .unset, .unset, .unset, .unset]) rfl rfl rfl ?_
  refine g_aload W at_104 (q := 106) rfl rfl rfl ?_
  refine g_iload W at_106 (q := 108) rfl rfl ?_
  refine g_iconst W (v := (0 : Int32)) at_108 (q := 109) rfl rfl ?_
  refine g_iload W at_109 (q := 111) rfl rfl ?_
  have ha := hsub2 _ ha
  refine g_static W (con_ff l Z a0 E0 _ _ a cs4 ln 0 (x2 &&& (255 : Int32)) ha h4 hln (by omega)) (argsL := [(.ref a), (.int ln.toInt32), (.int (0 : Int32)), (.int (x2 &&& (255 : Int32)))]) (rest := []) rfl rfl pd_23 rfl (own_w hw 50 rfl) (own_w hw 51 rfl) (own_w hw 11 rfl) (own_w hw 52 rfl) (by decide) at_111 (q := 114) rfl rfl (Nat.le_of_ble_eq_true rfl) (Nat.le_of_ble_eq_true rfl) (Nat.le_of_ble_eq_true rfl) (Nat.le_of_ble_eq_true rfl) ?_
  rintro _ _ _ T ⟨rfl, rfl, rfl⟩ W
  have hE0 := ix_ge (cs4.take ln) (x2 &&& (255 : Int32)) (ln - 0) 0
  obtain ⟨e1, ee0⟩ : ∃ r, r = ix (cs4.take ln) (x2 &&& (255 : Int32)) (ln - 0) 0 := ⟨_, rfl⟩
  rw [← ee0] at hE0 ⊢
  refine g_istore W at_114 (q := 116) (L' := #[.val (.long x0), .second, .val (.int x1), .val (.int x2), .val (.int x3), .val (.int ln.toInt32), .val (.ref a), .val (.int (x2 &&& (255 : Int32))), .val (.int (x3 &&& (255 : Int32))), .val (.ref lx), .val (.int e1.toInt32), .unset, .unset, .unset, .unset, .unset]) rfl rfl ?_
  refine g_aload W at_116 (q := 118) rfl rfl rfl ?_
  refine g_iload W at_118 (q := 120) rfl rfl ?_
  refine g_virtual W (con_unt l Z a0 E0 [] _ lx tx lb (cs4.take ln) 0 4 (x2 &&& (255 : Int32)) (by omega) hcs (own_and255 _) (by omega) (by omega) (by decide) hs) (own_ex (W.ow (i := 0) rfl) fun _ h => h.1) (argsL := [(.int (x2 &&& (255 : Int32)))]) (rest := []) rfl rfl pd_24 rfl (own_w hw 53 rfl) (own_w hw 54 rfl) (own_w hw 56 rfl) (own_w hw 55 rfl) (own_w hw 5 rfl) (own_w hw 57 rfl) (by decide) at_120 (q := 123) rfl rfl (Nat.le_of_ble_eq_true rfl) (Nat.le_of_ble_eq_true rfl) (Nat.le_of_ble_eq_true rfl) (Nat.le_of_ble_eq_true rfl) ?_
  rintro _ _ _ T ⟨y0, rfl, rfl, hsb0, hy0⟩ W
  rw [hl, ← ee0] at hy0 W
  have ha := hsb0 _ ha
  have hs := hs.up hsb0
  refine g_astore W at_123 (q := 125) (L' := #[.val (.long x0), .second, .val (.int x1), .val (.int x2), .val (.int x3), .val (.int ln.toInt32), .val (.ref a), .val (.int (x2 &&& (255 : Int32))), .val (.int (x3 &&& (255 : Int32))), .val (.ref lx), .val (.int e1.toInt32), .val (.ref y0), .unset, .unset, .unset, .unset]) rfl rfl rfl ?_
  refine g_aload W at_125 (q := 127) rfl rfl rfl ?_
  refine g_aload W at_127 (q := 129) rfl rfl rfl ?_
  refine g_iconst W (v := (0 : Int32)) at_129 (q := 130) rfl rfl ?_
  refine g_iload W at_130 (q := 132) rfl rfl ?_
  obtain ⟨d0, hd0⟩ : ∃ d, e1 = 0 + d := ⟨e1 - 0, by omega⟩
  refine g_static W (own_conE (as1 := #[.ref y0, .ref a, .int (0 : Nat).toInt32, .int e1.toInt32]) (by rw [hd0]) (con_ss l Z a0 E0 _ _ y0 a cs4 ln 0 d0 ha h4 hln (by omega) hr (by rw [show e1 - 0 = d0 by omega] at hy0; exact hy0))) (argsL := [(.ref y0), (.ref a), (.int (0 : Int32)), (.int e1.toInt32)]) (rest := []) rfl rfl pd_25 rfl (own_w hw 111 rfl) (own_w hw 112 rfl) (own_w hw 11 rfl) (own_w hw 113 rfl) (by decide) at_132 (q := 135) rfl rfl (Nat.le_of_ble_eq_true rfl) (Nat.le_of_ble_eq_true rfl) (Nat.le_of_ble_eq_true rfl) (Nat.le_of_ble_eq_true rfl) ?_
  rintro _ _ _ T ⟨rfl, rfl, rfl⟩ W
  refine g_ifN W at_135 (q := 138) (XT.i0_eq_f (by decide)) rfl ?_
  refine g_aload W at_138 (q := 140) rfl rfl rfl ?_
  refine g_virtual W (con_gp l Z a0 E0 [] _ lx tx lb _) (own_ex (W.ow (i := 0) rfl) fun _ h => h.1) (argsL := []) (rest := []) rfl rfl pd_12 rfl (own_w hw 129 rfl) (own_w hw 130 rfl) (own_w hw 132 rfl) (own_w hw 131 rfl) (own_w hw 5 rfl) (own_w hw 133 rfl) (by decide) at_140 (q := 143) rfl rfl (Nat.le_of_ble_eq_true rfl) (Nat.le_of_ble_eq_true rfl) (Nat.le_of_ble_eq_true rfl) (Nat.le_of_ble_eq_true rfl) ?_
  rintro _ _ _ T ⟨rfl, rfl, rfl⟩ W
  refine g_iload W at_143 (q := 145) rfl rfl ?_
  refine g_icN W at_145 (q := 148) (XT.ii_ne_f rfl) rfl ?_
  refine g_iconst W (v := (1 : Int32)) at_148 (q := 149) rfl rfl ?_
  refine g_goto W at_149 (q := 153) (by decide) (by decide) ?_
  refine g_istore W at_153 (q := 155) (L' := #[.val (.long x0), .second, .val (.int x1), .val (.int x2), .val (.int x3), .val (.int ln.toInt32), .val (.ref a), .val (.int (x2 &&& (255 : Int32))), .val (.int (x3 &&& (255 : Int32))), .val (.ref lx), .val (.int e1.toInt32), .val (.ref y0), .val (.int (1 : Int32)), .unset, .unset, .unset]) rfl rfl ?_
  refine g_aload W at_155 (q := 157) rfl rfl rfl ?_
  refine g_iload W at_157 (q := 159) rfl rfl ?_
  refine g_iload W at_159 (q := 161) rfl rfl ?_
  refine g_iload W at_161 (q := 163) rfl rfl ?_
  refine g_static W (con_ff l Z a0 E0 _ _ a cs4 ln e1 (x3 &&& (255 : Int32)) ha h4 hln (by omega)) (argsL := [(.ref a), (.int ln.toInt32), (.int e1.toInt32), (.int (x3 &&& (255 : Int32)))]) (rest := []) rfl rfl pd_23 rfl (own_w hw 50 rfl) (own_w hw 51 rfl) (own_w hw 11 rfl) (own_w hw 52 rfl) (by decide) at_163 (q := 166) rfl rfl (Nat.le_of_ble_eq_true rfl) (Nat.le_of_ble_eq_true rfl) (Nat.le_of_ble_eq_true rfl) (Nat.le_of_ble_eq_true rfl) ?_
  rintro _ _ _ T ⟨rfl, rfl, rfl⟩ W
  have hE1 := ix_ge (cs4.take ln) (x3 &&& (255 : Int32)) (ln - e1) e1
  obtain ⟨e2, ee1⟩ : ∃ r, r = ix (cs4.take ln) (x3 &&& (255 : Int32)) (ln - e1) e1 := ⟨_, rfl⟩
  rw [← ee1] at hE1 ⊢
  refine g_istore W at_166 (q := 168) (L' := #[.val (.long x0), .second, .val (.int x1), .val (.int x2), .val (.int x3), .val (.int ln.toInt32), .val (.ref a), .val (.int (x2 &&& (255 : Int32))), .val (.int (x3 &&& (255 : Int32))), .val (.ref lx), .val (.int e1.toInt32), .val (.ref y0), .val (.int (1 : Int32)), .val (.int e2.toInt32), .unset, .unset]) rfl rfl ?_
  refine g_aload W at_168 (q := 170) rfl rfl rfl ?_
  refine g_iload W at_170 (q := 172) rfl rfl ?_
  refine g_virtual W (con_unt l Z a0 E0 [] _ lx tx lb (cs4.take ln) e1 4 (x3 &&& (255 : Int32)) (by omega) hcs (own_and255 _) (by omega) (by omega) (by decide) hs) (own_ex (W.ow (i := 0) rfl) fun _ h => h.1) (argsL := [(.int (x3 &&& (255 : Int32)))]) (rest := []) rfl rfl pd_24 rfl (own_w hw 53 rfl) (own_w hw 54 rfl) (own_w hw 56 rfl) (own_w hw 55 rfl) (own_w hw 5 rfl) (own_w hw 57 rfl) (by decide) at_172 (q := 175) rfl rfl (Nat.le_of_ble_eq_true rfl) (Nat.le_of_ble_eq_true rfl) (Nat.le_of_ble_eq_true rfl) (Nat.le_of_ble_eq_true rfl) ?_
  rintro _ _ _ T ⟨y1, rfl, rfl, hsb1, hy1⟩ W
  rw [hl, ← ee1] at hy1 W
  have ha := hsb1 _ ha
  have hs := hs.up hsb1
  refine g_astore W at_175 (q := 177) (L' := #[.val (.long x0), .second, .val (.int x1), .val (.int x2), .val (.int x3), .val (.int ln.toInt32), .val (.ref a), .val (.int (x2 &&& (255 : Int32))), .val (.int (x3 &&& (255 : Int32))), .val (.ref lx), .val (.int e1.toInt32), .val (.ref y0), .val (.int (1 : Int32)), .val (.int e2.toInt32), .val (.ref y1), .unset]) rfl rfl rfl ?_
  refine g_aload W at_177 (q := 179) rfl rfl rfl ?_
  refine g_aload W at_179 (q := 181) rfl rfl rfl ?_
  refine g_iload W at_181 (q := 183) rfl rfl ?_
  refine g_iload W at_183 (q := 185) rfl rfl ?_
  obtain ⟨d1, hd1⟩ : ∃ d, e2 = e1 + d := ⟨e2 - e1, by omega⟩
  refine g_static W (own_conE (as1 := #[.ref y1, .ref a, .int (e1 : Nat).toInt32, .int e2.toInt32]) (by rw [hd1]) (con_ss l Z a0 E0 _ _ y1 a cs4 ln e1 d1 ha h4 hln (by omega) hr (by rw [show e2 - e1 = d1 by omega] at hy1; exact hy1))) (argsL := [(.ref y1), (.ref a), (.int e1.toInt32), (.int e2.toInt32)]) (rest := []) rfl rfl pd_25 rfl (own_w hw 111 rfl) (own_w hw 112 rfl) (own_w hw 11 rfl) (own_w hw 113 rfl) (by decide) at_185 (q := 188) rfl rfl (Nat.le_of_ble_eq_true rfl) (Nat.le_of_ble_eq_true rfl) (Nat.le_of_ble_eq_true rfl) (Nat.le_of_ble_eq_true rfl) ?_
  rintro _ _ _ T ⟨rfl, rfl, rfl⟩ W
  refine g_ifN W at_188 (q := 191) (XT.i0_eq_f (by decide)) rfl ?_
  refine g_aload W at_191 (q := 193) rfl rfl rfl ?_
  refine g_virtual W (con_gp l Z a0 E0 [] _ lx tx lb _) (own_ex (W.ow (i := 0) rfl) fun _ h => h.1) (argsL := []) (rest := []) rfl rfl pd_12 rfl (own_w hw 129 rfl) (own_w hw 130 rfl) (own_w hw 132 rfl) (own_w hw 131 rfl) (own_w hw 5 rfl) (own_w hw 133 rfl) (by decide) at_193 (q := 196) rfl rfl (Nat.le_of_ble_eq_true rfl) (Nat.le_of_ble_eq_true rfl) (Nat.le_of_ble_eq_true rfl) (Nat.le_of_ble_eq_true rfl) ?_
  rintro _ _ _ T ⟨rfl, rfl, rfl⟩ W
  refine g_iload W at_196 (q := 198) rfl rfl ?_
  refine g_icN W at_198 (q := 201) (XT.ii_ne_f rfl) rfl ?_
  refine g_iconst W (v := (1 : Int32)) at_201 (q := 202) rfl rfl ?_
  refine g_goto W at_202 (q := 206) (by decide) (by decide) ?_
  refine g_istore W at_206 (q := 208) (L' := #[.val (.long x0), .second, .val (.int x1), .val (.int x2), .val (.int x3), .val (.int ln.toInt32), .val (.ref a), .val (.int (x2 &&& (255 : Int32))), .val (.int (x3 &&& (255 : Int32))), .val (.ref lx), .val (.int e1.toInt32), .val (.ref y0), .val (.int (1 : Int32)), .val (.int e2.toInt32), .val (.ref y1), .val (.int (1 : Int32))]) rfl rfl ?_
  refine g_iload W at_208 (q := 210) rfl rfl ?_
  refine g_ifN W at_210 (q := 213) (XT.i0_eq_f (by decide)) rfl ?_
  refine g_iload W at_213 (q := 215) rfl rfl ?_
  refine g_ifN W at_215 (q := 218) (XT.i0_eq_f (by decide)) rfl ?_
  refine g_iconst W (v := (1 : Int32)) at_218 (q := 219) rfl rfl ?_
  refine g_goto W at_219 (q := 223) (by decide) (by decide) ?_
  exact g_retI W rfl (Or.inr (Or.inl rfl)) rfl at_223 (Nat.le_of_ble_eq_true rfl) (Nat.le_of_ble_eq_true rfl) rfl
theorem own_EW {Z : State} {a0 : Array Value} (hw : ∀ d ∈ tables_1, d.before a0 Z = true) : EW Z a0 EL0 := EW.cons (own_w hw 138 rfl) (by decide +kernel) (EW.cons (own_w hw 137 rfl) (by decide +kernel) EW.nil)
set_option maxRecDepth 65536 in
set_option maxHeartbeats 40000000 in
theorem comes_1 {Post : Tables → Env → Array Value → State → Outcome → State → Prop} (hpost : ∀ tb e args s v u, (limb_1_1.after args s (.returned v) u = true ∧ limb_1_2.after args s (.returned v) u = true ∧ True) → ReturnedEndW s (.returned v) u (Jvm.fieldLocs frame_1_writes args s ++ Jvm.arrayLocs frame_1_arrays args s ++ Jvm.staticLocs frame_1_statics s) 32 3264 → Post tb e args s (.returned v) u) :
    ArmFor flags0 classFile x code maxLocals ret World_1 tables_1 room_1 Calls_1 rest_1 Pre_1 Post := by
  intro l hfl _ _ p e ha hc hk s m args below hf hA hF happ hP
  obtain ⟨hcalls, hrest, hpre⟩ := hP
  obtain ⟨-, -, -, hnamed, -, -, -, hat⟩ := (Spec.applies_iff hf).mp happ
  obtain ⟨hg, hn⟩ := and_e (Cond.before_iff.mp (show (Jvm.Cond.and given_1 narrow_1).before args s = true from hpre))
  obtain ⟨g0, gr0⟩ := and_e hg
  obtain ⟨g1, gr1⟩ := and_e gr0
  obtain ⟨g2, gr2⟩ := and_e gr1
  obtain ⟨g3, gr3⟩ := and_e gr2
  obtain ⟨w0, w1, w2, w3, rfl⟩ : ∃ w0 w1 w2 w3 : Value, args = #[w0, w1, w2, w3] := by
    have hs : args.size = 4 := by simpa [Cond.value, given_1] using g0
    obtain ⟨L⟩ := args
    match L, hs with
    | [w0, w1, w2, w3], _ => exact ⟨w0, w1, w2, w3, rfl⟩
  have hw := fun d (hd : d ∈ tables_1) => atoms_spec (ws := Jvm.Cond.code x code maxLocals ret :: tables_1) hat d (List.mem_cons_of_mem _ hd)
  obtain ⟨hs0, hown0⟩ := atoms_of _ (rest_1_c_eq ▸ (show rest_1_c.before _ s = true from hrest))
  have hfit : Fit s := fun {y c} hc i hi => by
    obtain ⟨ha, rfl⟩ := Array.getElem?_eq_some_iff.mp hc
    have q := List.all_eq_true.mp ((Array.all_eq_true_iff_forall_mem.mp hF) _ (Array.getElem_mem ha)) i (List.mem_range.mpr hi)
    simpa [Array.getElem?_eq_getElem hi] using q
  obtain ⟨x0, ex0⟩ := isL_v g1
  obtain rfl : w0 = (.long x0) := Option.some.inj ex0
  obtain ⟨x1, ex1⟩ := is_v g2
  obtain rfl : w1 = (.int x1) := Option.some.inj ex1
  obtain ⟨x2, ex2⟩ := is_v g3
  obtain rfl : w2 = (.int x2) := Option.some.inj ex2
  obtain ⟨x3, ex3⟩ := is_v gr3
  obtain rfl : w3 = (.int x3) := Option.some.inj ex3
  obtain ⟨fv, efv, hfv⟩ := isR_v (Cond.before_iff.mp (own_s hs0 8 rfl))
  have hFv := Sta.start efv (Or.inl (own_s hs0 7 rfl))
  have hStr : ∀ a ∈ Bundle.stringAtoms, a.before _ s = true := fun a q => hw a ((by decide +kernel : ∀ a ∈ Bundle.stringAtoms, a ∈ tables_1) a q)
  obtain ⟨ccs, ecs⟩ := is_v (Cond.before_iff.mp (hs0 _ (List.mem_of_getElem? (i := 1) rfl)))
  have hcC : Sta s s.heap "java/lang/String" "COMPACT_STRINGS" "Z" (.int ccs) := Sta.start ecs (Or.inl (hs0 _ (List.mem_of_getElem? (i := 0) rfl)))
  have hcc : ¬ (ccs = (0 : Int32)) := gotF (Cond.eq_ints ecs (Term.int_eval (0))) (not_v (Cond.before_iff.mp (hs0 _ (List.mem_of_getElem? (i := 2) rfl))))
  have hEW : EW s _ EL0 := own_EW hw
  have hCH : CHv s EL0 s.vm s.heap := CHv.start hEW (fun p hp => by rcases List.mem_cons.mp hp with rfl | hp; exact hcalls.1 _ (by decide); rcases List.mem_cons.mp hp with rfl | hp; exact hcalls.1 _ (by decide); cases hp) (hs0 _ (List.mem_of_getElem? (i := 2) rfl)) (own_w hw 28 rfl) (own_w hw 7 rfl)
  have E0 : Env0 s _ := ⟨hw, hs0, hEW, hStr, ⟨ccs, hcC, hcc⟩, ⟨fv, hFv, hfv⟩, trivial⟩
  obtain ⟨n, o, h1, h2, h3, v, L, rfl, -, hq, N, -, O', P', -, rfl⟩ := con_law (kn := False) l s _ E0 [] x0 x1 x2 x3 p e ha hc hk s m _ below hf ((Spec.applies_iff_loose hf).mp happ).1 ⟨rfl, State.Warmed39.refl s, hCH, ⟨Nat.le_refl _, fun _ _ q => q⟩, Lay.nil (fun y hy => by cases hy)⟩ (fun z => z.elim)
  exact ⟨n, _, h1, h2, h3, hpost _ _ _ _ _ _ ⟨Cond.after_iff.mpr rfl, Cond.after_iff.mpr (eq_i res_at (Term.int_eval (1)) rfl), trivial⟩ ⟨hq.1, hq.2.1, hq.2.2.1, (hq.2.2.2.sift fun y hy => Or.inr (N y hy)).mono (by decide) (by decide)⟩⟩
theorem main_1_1 : Claimed_1_1 := comes_1 fun _ _ _ _ _ _ h hF => ⟨h.1, hF⟩
theorem main_1_2 : Claimed_1_2 := comes_1 fun _ _ _ _ _ _ h hF => ⟨h.2.1, hF⟩
end Jvm.Pilot.@@N@@
namespace Jvm.Pilot.@@N@@
open Jvm Jvm.ClassFile Sem Op Lib Jvm.Free Jvm.Stand Jvm.Pilot.@@N@@.Jvm.D
/-! MADE BY PROGRAM (witnessworld.py) out of the Statement's table words and the real class files: 23 classes; the members and pool entries that the words name. The judged class is class 1, her method 4. -/
namespace start1
open Jvm.ClassFile
def u (s : String) : CpInfo := .utf8 (stringToUtf16 s)
/-- a pool by its gaps: so many unusable entries, then the entry; so many at the end -/
def gap : Nat → List CpInfo → List CpInfo
  | 0, r => r
  | n + 1, r => .unusable :: gap n r
def poolList (es : List (Nat × CpInfo)) (last : Nat) : List CpInfo := es.foldr (fun e r => gap e.1 (e.2 :: r)) (gap last [])
def pool (es : List (Nat × CpInfo)) (last : Nat) : Array CpInfo := ⟨poolList es last⟩
def fileOf (pool : Array CpInfo) (this : Nat) (attrs : Array Attribute := #[]) (ms : Array MethodInfo := #[]) (fl : Nat := 33) (sup : Nat := 0) (ifs : Array Nat := #[]) (fds : Array FieldInfo := #[]) : ClassFile where
  minorVersion := 0
  majorVersion := 65
  constantPool := pool
  accessFlags := fl
  thisClass := this
  superClass := sup
  interfaces := ifs
  fields := fds
  methods := ms
  attributes := attrs
def plain (name : String) (sup : Option ClassId) : Class where
  name := name
  kind := .ordinary
  loader := none
  accessFlags := 33
  super := sup
  interfaces := #[]
  cf := none
  fields := #[]
  methods := #[]
  instanceTypes := #[]
  staticTypes := #[]
  resolved := #[]
  callSites := []
  init := .initialized
  statics := none
  mirror := none

def pool0 : Array CpInfo := pool [(5, u "<init>"), (0, u "()V"), (1, .class_ 10), (1, u "java/lang/Object")] 113

def k0c0 : Code := { maxStack := 0, maxLocals := 1, code := object_method_1_code, exceptionTable := #[], attributes := #[] }
def k0m0 : Method := { name := "<init>", desc := "()V", sig := { parameters := [], returnType := none }, accessFlags := 1, code := some k0c0 }
/-- java/lang/Object -/
def k0 : Class := { plain "java/lang/Object" none with
  accessFlags := 33
  interfaces := #[]
  cf := some (fileOf pool0 8 #[] #[{ accessFlags := 1, nameIndex := 5, descriptorIndex := 6, attributes := #[] }] 33 0 #[] #[])
  fields := #[]
  methods := #[k0m0]
  instanceTypes := #[]
  staticTypes := #[]
  resolved := Array.replicate 124 none
  statics := none }

def pool1 : Array CpInfo := pool [(2, .class_ 4), (1, u "java/lang/Object"), (0, u "<init>"), (0, u "()V"), (0, .methodref 8 9), (0, .class_ 10), (0, .nameAndType 11 12), (0, u "java/lang/String"), (0, u "length"), (0, u "()I"), (0, .methodref 8 14), (0, .nameAndType 15 16), (0, u "charAt"), (0, u "(I)C"), (0, .integer 2147483647), (0, .long 255), (1, .class_ 21), (0, u "com/example/recaller/recaller/Lexer"), (0, .methodref 23 24), (0, .class_ 25), (0, .nameAndType 26 27), (0, u "com/example/recaller/recaller/LexerUntilPinLaw"), (0, u "prefix"), (0, u "([CI)[C"), (0, .methodref 8 29), (0, .nameAndType 5 30), (0, u "([C)V"), (0, .string 32), (0, u "x"), (0, .methodref 20 34), (0, .nameAndType 5 35), (0, u "(Ljava/lang/String;Ljava/lang/String;)V"), (0, .methodref 23 37), (0, .nameAndType 38 39), (0, u "firstFrom"), (0, u "([CIIC)I"), (0, .methodref 20 41), (0, .nameAndType 42 43), (0, u "until"), (0, u "(C)Ljava/lang/String;"), (0, .methodref 23 45), (0, .nameAndType 46 47), (0, u "sameSlice"), (0, u "(Ljava/lang/String;[CII)Z"), (0, .methodref 20 49), (0, .nameAndType 50 12), (0, u "getPosition"), (3, u "law"), (0, u "(JIII)Z")] 4

def k1m0 : Method := { name := "<init>", desc := "()V", sig := { parameters := [], returnType := none }, accessFlags := 2, code := none }
def k1c1 : Code := { maxStack := 5, maxLocals := 2, code := method_2_code, exceptionTable := #[], attributes := #[] }
def k1m1 : Method := { name := "prefix", desc := "([CI)[C", sig := { parameters := [(.array .char), .int], returnType := some (.array .char) }, accessFlags := 10, code := some k1c1 }
def k1c2 : Code := { maxStack := 2, maxLocals := 4, code := method_3_code, exceptionTable := #[], attributes := #[] }
def k1m2 : Method := { name := "firstFrom", desc := "([CIIC)I", sig := { parameters := [(.array .char), .int, .int, .char], returnType := some .int }, accessFlags := 10, code := some k1c2 }
def k1c3 : Code := { maxStack := 4, maxLocals := 5, code := method_4_code, exceptionTable := #[], attributes := #[] }
def k1m3 : Method := { name := "sameSlice", desc := "(Ljava/lang/String;[CII)Z", sig := { parameters := [(.object "java/lang/String"), (.array .char), .int, .int], returnType := some .boolean }, accessFlags := 10, code := some k1c3 }
def k1c4 : Code := { maxStack := 7, maxLocals := 16, code := code, exceptionTable := #[], attributes := #[] }
def k1m4 : Method := { name := "law", desc := "(JIII)Z", sig := { parameters := [.long, .int, .int, .int], returnType := some .boolean }, accessFlags := 9, code := some k1c4 }
/-- com/example/recaller/recaller/LexerUntilPinLaw -/
def k1 : Class := { plain "com/example/recaller/recaller/LexerUntilPinLaw" (some 0) with
  accessFlags := 49
  interfaces := #[]
  cf := some (fileOf pool1 23 #[] #[{ accessFlags := 2, nameIndex := 5, descriptorIndex := 6, attributes := #[] }, { accessFlags := 10, nameIndex := 26, descriptorIndex := 27, attributes := #[] }, { accessFlags := 10, nameIndex := 38, descriptorIndex := 39, attributes := #[] }, { accessFlags := 10, nameIndex := 46, descriptorIndex := 47, attributes := #[] }, { accessFlags := 9, nameIndex := 54, descriptorIndex := 55, attributes := #[] }] 49 2 #[] #[])
  fields := #[]
  methods := #[k1m0, k1m1, k1m2, k1m3, k1m4]
  instanceTypes := #[]
  staticTypes := #[]
  resolved := Array.replicate 60 none
  statics := none }

def pool2 : Array CpInfo := pool [(1, .methodref 2 3), (0, .class_ 4), (0, .nameAndType 5 6), (0, u "java/lang/Object"), (0, u "<init>"), (0, u "()V"), (0, .fieldref 8 9), (0, .class_ 10), (0, .nameAndType 11 12), (0, u "com/example/recaller/recaller/Lexer"), (0, u "text"), (0, u "Ljava/lang/String;"), (0, .fieldref 8 14), (0, .nameAndType 15 12), (0, u "subject"), (3, .fieldref 8 20), (0, .nameAndType 21 22), (0, u "position"), (0, u "I"), (0, .methodref 24 25), (0, .class_ 26), (0, .nameAndType 27 28), (0, u "java/lang/String"), (0, u "length"), (0, u "()I"), (46, .methodref 24 76), (0, .nameAndType 77 78), (0, u "indexOf"), (0, u "(II)I"), (0, .methodref 24 80), (0, .nameAndType 81 82), (0, u "substring"), (0, u "(II)Ljava/lang/String;"), (90, u "TOKEN_MARKS"), (1, u "(Ljava/lang/String;Ljava/lang/String;)V"), (4, u "getPosition"), (6, u "until"), (0, u "(C)Ljava/lang/String;")] 48

def k2c0 : Code := { maxStack := 2, maxLocals := 3, code := prog_21_method_1_code, exceptionTable := #[], attributes := #[] }
def k2m0 : Method := { name := "<init>", desc := "(Ljava/lang/String;Ljava/lang/String;)V", sig := { parameters := [(.object "java/lang/String"), (.object "java/lang/String")], returnType := none }, accessFlags := 0, code := some k2c0 }
def k2c1 : Code := { maxStack := 1, maxLocals := 1, code := prog_21_method_3_code, exceptionTable := #[], attributes := #[] }
def k2m1 : Method := { name := "getPosition", desc := "()I", sig := { parameters := [], returnType := some .int }, accessFlags := 0, code := some k2c1 }
def k2c2 : Code := { maxStack := 3, maxLocals := 4, code := prog_21_method_12_code, exceptionTable := #[], attributes := #[] }
def k2m2 : Method := { name := "until", desc := "(C)Ljava/lang/String;", sig := { parameters := [.char], returnType := some (.object "java/lang/String") }, accessFlags := 0, code := some k2c2 }
/-- com/example/recaller/recaller/Lexer -/
def k2 : Class := { plain "com/example/recaller/recaller/Lexer" (some 0) with
  accessFlags := 48
  interfaces := #[]
  cf := some (fileOf pool2 8 #[] #[{ accessFlags := 0, nameIndex := 5, descriptorIndex := 175, attributes := #[] }, { accessFlags := 0, nameIndex := 180, descriptorIndex := 28, attributes := #[] }, { accessFlags := 0, nameIndex := 187, descriptorIndex := 188, attributes := #[] }] 48 2 #[] #[{ accessFlags := 26, nameIndex := 173, descriptorIndex := 12, attributes := #[] }, { accessFlags := 18, nameIndex := 11, descriptorIndex := 12, attributes := #[] }, { accessFlags := 18, nameIndex := 15, descriptorIndex := 12, attributes := #[] }, { accessFlags := 2, nameIndex := 21, descriptorIndex := 22, attributes := #[] }])
  fields := #[{ name := "TOKEN_MARKS", type := (.object "java/lang/String"), accessFlags := 26, slot := 0, constantValue := 0 }, { name := "text", type := (.object "java/lang/String"), accessFlags := 18, slot := 0, constantValue := 0 }, { name := "subject", type := (.object "java/lang/String"), accessFlags := 18, slot := 1, constantValue := 0 }, { name := "position", type := .int, accessFlags := 2, slot := 2, constantValue := 0 }]
  methods := #[k2m0, k2m1, k2m2]
  instanceTypes := #[(.object "java/lang/String"), (.object "java/lang/String"), .int]
  staticTypes := #[(.object "java/lang/String")]
  resolved := Array.replicate 237 none
  statics := none }

def pool3 : Array CpInfo := pool [(1, .class_ 2), (0, u "java/io/Serializable"), (0, .class_ 4), (0, u "java/lang/Object")] 2

/-- java/io/Serializable -/
def k3 : Class := { plain "java/io/Serializable" (some 0) with
  accessFlags := 1537
  interfaces := #[]
  cf := some (fileOf pool3 1 #[] #[] 1537 3 #[] #[])
  fields := #[]
  methods := #[]
  instanceTypes := #[]
  staticTypes := #[]
  resolved := Array.replicate 7 none
  statics := none }

def pool4 : Array CpInfo := pool [(1, .class_ 2), (0, u "java/lang/Comparable"), (0, .class_ 4), (0, u "java/lang/Object")] 7

/-- java/lang/Comparable -/
def k4 : Class := { plain "java/lang/Comparable" (some 0) with
  accessFlags := 1537
  interfaces := #[]
  cf := some (fileOf pool4 1 #[] #[] 1537 3 #[] #[])
  fields := #[]
  methods := #[]
  instanceTypes := #[]
  staticTypes := #[]
  resolved := Array.replicate 12 none
  statics := none }

def pool5 : Array CpInfo := pool [(2, .class_ 4), (1, u "java/lang/CharSequence"), (42, .class_ 48), (0, u "java/lang/CharSequence$1CodePointIterator"), (10, .class_ 60), (0, u "java/lang/CharSequence$1CharIterator"), (5, .class_ 67), (0, u "java/lang/Object")] 63

/-- java/lang/CharSequence -/
def k5 : Class := { plain "java/lang/CharSequence" (some 0) with
  accessFlags := 1537
  interfaces := #[]
  cf := some (fileOf pool5 2 #[.nestMembers #[47, 59]] #[] 1537 66 #[] #[])
  fields := #[]
  methods := #[]
  instanceTypes := #[]
  staticTypes := #[]
  resolved := Array.replicate 131 none
  statics := none }

def pool6 : Array CpInfo := pool [(1, .class_ 2), (0, u "java/lang/constant/Constable"), (0, .class_ 4), (0, u "java/lang/Object")] 6

/-- java/lang/constant/Constable -/
def k6 : Class := { plain "java/lang/constant/Constable" (some 0) with
  accessFlags := 1537
  interfaces := #[]
  cf := some (fileOf pool6 1 #[] #[] 1537 3 #[] #[])
  fields := #[]
  methods := #[]
  instanceTypes := #[]
  staticTypes := #[]
  resolved := Array.replicate 11 none
  statics := none }

def pool7 : Array CpInfo := pool [(1, .class_ 2), (0, u "java/lang/constant/ConstantDesc"), (0, .class_ 4), (0, u "java/lang/Object")] 32

/-- java/lang/constant/ConstantDesc -/
def k7 : Class := { plain "java/lang/constant/ConstantDesc" (some 0) with
  accessFlags := 1537
  interfaces := #[]
  cf := some (fileOf pool7 1 #[] #[] 1537 3 #[] #[])
  fields := #[]
  methods := #[]
  instanceTypes := #[]
  staticTypes := #[]
  resolved := Array.replicate 37 none
  statics := none }

def pool8 : Array CpInfo := pool [(1, .methodref 2 3), (0, .class_ 4), (0, .nameAndType 5 6), (0, u "java/lang/Object"), (0, u "<init>"), (0, u "()V"), (0, .string 8), (0, u ""), (0, .fieldref 10 11), (0, .class_ 12), (0, .nameAndType 13 14), (0, u "java/lang/String"), (0, u "value"), (0, u "[B"), (0, .fieldref 10 16), (0, .nameAndType 17 18), (0, u "coder"), (0, u "B"), (2, u "hash"), (0, u "I"), (2, u "hashIsZero"), (0, u "Z"), (0, .methodref 10 28), (0, .nameAndType 5 29), (0, u "([CIILjava/lang/Void;)V"), (8, .fieldref 10 39), (0, .nameAndType 40 26), (0, u "COMPACT_STRINGS"), (1, .class_ 44), (1, u "java/lang/StringUTF16"), (0, u "compress"), (1, .methodref 42 48), (0, .nameAndType 49 50), (0, u "coderFromArrayLen"), (0, u "([BI)B"), (56, .class_ 109), (1, u "java/lang/StringLatin1"), (32, u "()Z"), (34, .methodref 42 178), (0, .nameAndType 45 179), (0, u "([CII)[B"), (31, u "([BB)V"), (122, u "()I"), (0, .methodref 10 336), (0, .nameAndType 17 337), (0, u "()B"), (25, u "([BI)C"), (27, u "(II)V"), (35, u "(I)C"), (64, .methodref 10 493), (0, .nameAndType 494 142), (0, u "isLatin1"), (0, .methodref 107 496), (0, .nameAndType 497 363), (0, u "charAt"), (3, u "checkIndex"), (3, .methodref 10 506), (0, .nameAndType 507 334), (0, u "length"), (5, u "checkFromToIndex"), (7, .methodref 10 522), (0, .nameAndType 523 524), (0, u "checkBoundsBeginEnd"), (0, u "(III)V"), (50, .class_ 576), (0, u "java/lang/CharSequence"), (22, u "CASE_INSENSITIVE_ORDER"), (0, u "Ljava/util/Comparator;"), (34, u "indexOf"), (0, u "(II)I"), (0, .methodref 107 638), (0, .nameAndType 635 639), (0, u "([BIII)I"), (43, u "substring"), (0, u "(II)Ljava/lang/String;"), (0, .methodref 107 686), (0, .nameAndType 687 688), (0, u "newString"), (0, u "([BII)Ljava/lang/String;"), (321, u "([C)V"), (42, .fieldref 1054 1055), (0, .class_ 1056), (0, .nameAndType 1057 1058), (0, u "jdk/internal/util/Preconditions"), (0, u "SIOOBE_FORMATTER"), (0, u "Ljava/util/function/BiFunction;"), (0, .methodref 1054 1060), (0, .nameAndType 501 1061), (0, u "(IILjava/util/function/BiFunction;)I"), (0, .methodref 1054 1063), (0, .nameAndType 513 1064), (0, u "(IIILjava/util/function/BiFunction;)I"), (36, u "serialPersistentFields"), (0, u "[Ljava/io/ObjectStreamField;"), (0, .class_ 1104), (0, u "java/lang/String$CaseInsensitiveComparator"), (1, .class_ 1107), (0, u "java/io/Serializable"), (0, .class_ 1109), (0, u "java/lang/Comparable"), (0, .class_ 1111), (0, u "java/lang/constant/Constable"), (0, .class_ 1113), (0, u "java/lang/constant/ConstantDesc"), (2, u "serialVersionUID"), (0, u "J"), (3, u "REPL"), (0, u "C"), (2, u "LATIN1"), (1, u "UTF16")] 323

def k8m0 : Method := { name := "<init>", desc := "()V", sig := { parameters := [], returnType := none }, accessFlags := 1, code := none }
def k8c1 : Code := { maxStack := 5, maxLocals := 2, code := jdk_42_method_3_code, exceptionTable := #[], attributes := #[] }
def k8m1 : Method := { name := "<init>", desc := "([C)V", sig := { parameters := [(.array .char)], returnType := none }, accessFlags := 1, code := some k8c1 }
def k8c2 : Code := { maxStack := 2, maxLocals := 1, code := jdk_42_method_54_code, exceptionTable := #[], attributes := #[] }
def k8m2 : Method := { name := "length", desc := "()I", sig := { parameters := [], returnType := some .int }, accessFlags := 1, code := some k8c2 }
def k8c3 : Code := { maxStack := 2, maxLocals := 2, code := jdk_42_method_56_code, exceptionTable := #[], attributes := #[] }
def k8m3 : Method := { name := "charAt", desc := "(I)C", sig := { parameters := [.int], returnType := some .char }, accessFlags := 1, code := some k8c3 }
def k8c4 : Code := { maxStack := 4, maxLocals := 3, code := jdk_42_method_80_code, exceptionTable := #[], attributes := #[] }
def k8m4 : Method := { name := "indexOf", desc := "(II)I", sig := { parameters := [.int, .int], returnType := some .int }, accessFlags := 1, code := some k8c4 }
def k8c5 : Code := { maxStack := 3, maxLocals := 5, code := jdk_42_method_92_code, exceptionTable := #[], attributes := #[] }
def k8m5 : Method := { name := "substring", desc := "(II)Ljava/lang/String;", sig := { parameters := [.int, .int], returnType := some (.object "java/lang/String") }, accessFlags := 1, code := some k8c5 }
def k8c6 : Code := { maxStack := 4, maxLocals := 6, code := jdk_42_method_149_code, exceptionTable := #[], attributes := #[] }
def k8m6 : Method := { name := "<init>", desc := "([CIILjava/lang/Void;)V", sig := { parameters := [(.array .char), .int, .int, (.object "java/lang/Void")], returnType := none }, accessFlags := 2, code := some k8c6 }
def k8c7 : Code := { maxStack := 2, maxLocals := 3, code := jdk_42_method_151_code, exceptionTable := #[], attributes := #[] }
def k8m7 : Method := { name := "<init>", desc := "([BB)V", sig := { parameters := [(.array .byte), .byte], returnType := none }, accessFlags := 0, code := some k8c7 }
def k8c8 : Code := { maxStack := 1, maxLocals := 1, code := jdk_42_method_152_code, exceptionTable := #[], attributes := #[] }
def k8m8 : Method := { name := "coder", desc := "()B", sig := { parameters := [], returnType := some .byte }, accessFlags := 0, code := some k8c8 }
def k8c9 : Code := { maxStack := 1, maxLocals := 1, code := jdk_42_method_154_code, exceptionTable := #[], attributes := #[] }
def k8m9 : Method := { name := "isLatin1", desc := "()Z", sig := { parameters := [], returnType := some .boolean }, accessFlags := 0, code := some k8c9 }
def k8c10 : Code := { maxStack := 3, maxLocals := 2, code := jdk_42_method_155_code, exceptionTable := #[], attributes := #[] }
def k8m10 : Method := { name := "checkIndex", desc := "(II)V", sig := { parameters := [.int, .int], returnType := none }, accessFlags := 8, code := some k8c10 }
def k8c11 : Code := { maxStack := 4, maxLocals := 3, code := jdk_42_method_158_code, exceptionTable := #[], attributes := #[] }
def k8m11 : Method := { name := "checkBoundsBeginEnd", desc := "(III)V", sig := { parameters := [.int, .int, .int], returnType := none }, accessFlags := 8, code := some k8c11 }
/-- java/lang/String -/
def k8 : Class := { plain "java/lang/String" (some 0) with
  accessFlags := 49
  interfaces := #[3, 4, 5, 6, 7]
  cf := some (fileOf pool8 10 #[.nestMembers #[1103]] #[{ accessFlags := 1, nameIndex := 5, descriptorIndex := 6, attributes := #[] }, { accessFlags := 1, nameIndex := 5, descriptorIndex := 1010, attributes := #[] }, { accessFlags := 1, nameIndex := 507, descriptorIndex := 334, attributes := #[] }, { accessFlags := 1, nameIndex := 497, descriptorIndex := 427, attributes := #[] }, { accessFlags := 1, nameIndex := 635, descriptorIndex := 636, attributes := #[] }, { accessFlags := 1, nameIndex := 683, descriptorIndex := 684, attributes := #[] }, { accessFlags := 2, nameIndex := 5, descriptorIndex := 29, attributes := #[] }, { accessFlags := 0, nameIndex := 5, descriptorIndex := 211, attributes := #[] }, { accessFlags := 0, nameIndex := 17, descriptorIndex := 337, attributes := #[] }, { accessFlags := 0, nameIndex := 494, descriptorIndex := 142, attributes := #[] }, { accessFlags := 8, nameIndex := 501, descriptorIndex := 391, attributes := #[] }, { accessFlags := 8, nameIndex := 523, descriptorIndex := 524, attributes := #[] }] 49 2 #[1106, 1108, 575, 1110, 1112] #[{ accessFlags := 18, nameIndex := 13, descriptorIndex := 14, attributes := #[] }, { accessFlags := 18, nameIndex := 17, descriptorIndex := 18, attributes := #[] }, { accessFlags := 2, nameIndex := 21, descriptorIndex := 22, attributes := #[] }, { accessFlags := 2, nameIndex := 25, descriptorIndex := 26, attributes := #[] }, { accessFlags := 26, nameIndex := 1116, descriptorIndex := 1117, attributes := #[] }, { accessFlags := 24, nameIndex := 40, descriptorIndex := 26, attributes := #[] }, { accessFlags := 26, nameIndex := 1101, descriptorIndex := 1102, attributes := #[] }, { accessFlags := 26, nameIndex := 1121, descriptorIndex := 1122, attributes := #[] }, { accessFlags := 25, nameIndex := 599, descriptorIndex := 600, attributes := #[] }, { accessFlags := 24, nameIndex := 1125, descriptorIndex := 18, attributes := #[] }, { accessFlags := 24, nameIndex := 1127, descriptorIndex := 18, attributes := #[] }])
  fields := #[{ name := "value", type := (.array .byte), accessFlags := 18, slot := 0, constantValue := 0 }, { name := "coder", type := .byte, accessFlags := 18, slot := 1, constantValue := 0 }, { name := "hash", type := .int, accessFlags := 2, slot := 2, constantValue := 0 }, { name := "hashIsZero", type := .boolean, accessFlags := 2, slot := 3, constantValue := 0 }, { name := "serialVersionUID", type := .long, accessFlags := 26, slot := 0, constantValue := 0 }, { name := "COMPACT_STRINGS", type := .boolean, accessFlags := 24, slot := 1, constantValue := 0 }, { name := "serialPersistentFields", type := (.array (.object "java/io/ObjectStreamField")), accessFlags := 26, slot := 2, constantValue := 0 }, { name := "REPL", type := .char, accessFlags := 26, slot := 3, constantValue := 0 }, { name := "CASE_INSENSITIVE_ORDER", type := (.object "java/util/Comparator"), accessFlags := 25, slot := 4, constantValue := 0 }, { name := "LATIN1", type := .byte, accessFlags := 24, slot := 5, constantValue := 0 }, { name := "UTF16", type := .byte, accessFlags := 24, slot := 6, constantValue := 0 }]
  methods := #[k8m0, k8m1, k8m2, k8m3, k8m4, k8m5, k8m6, k8m7, k8m8, k8m9, k8m10, k8m11]
  instanceTypes := #[(.array .byte), .byte, .int, .boolean]
  staticTypes := #[.long, .boolean, (.array (.object "java/io/ObjectStreamField")), .char, (.object "java/util/Comparator"), .byte, .byte]
  resolved := Array.replicate 1451 none
  statics := some 0 }

def pool9 : Array CpInfo := pool [(6, .class_ 8), (1, u "java/lang/Object"), (0, u "<init>"), (0, u "()V"), (1, .class_ 14), (1, u "java/lang/StringUTF16"), (31, u "$assertionsDisabled"), (0, u "Z"), (13, u "HI_BYTE_SHIFT"), (0, u "I"), (2, u "LO_BYTE_SHIFT"), (49, .methodref 12 116), (0, .nameAndType 117 118), (0, u "compress"), (0, u "([CI[BII)I"), (3, u "([CII)[B"), (138, u "coderFromArrayLen"), (0, u "([BI)B"), (106, .class_ 371), (1, u "java/lang/StringUTF16$LinesSpliterator"), (58, u "MAX_LENGTH"), (196, .class_ 628), (0, u "java/lang/StringUTF16$CodePointsSpliterator"), (0, .class_ 630), (0, u "java/lang/StringUTF16$CharsSpliterator")] 4

def k9m0 : Method := { name := "<init>", desc := "()V", sig := { parameters := [], returnType := none }, accessFlags := 0, code := none }
def k9c1 : Code := { maxStack := 2, maxLocals := 2, code := jdk_52_method_15_code, exceptionTable := #[], attributes := #[] }
def k9m1 : Method := { name := "coderFromArrayLen", desc := "([BI)B", sig := { parameters := [(.array .byte), .int], returnType := some .byte }, accessFlags := 8, code := some k9c1 }
def k9c2 : Code := { maxStack := 5, maxLocals := 6, code := jdk_52_method_16_code, exceptionTable := #[], attributes := #[] }
def k9m2 : Method := { name := "compress", desc := "([CII)[B", sig := { parameters := [(.array .char), .int, .int], returnType := some (.array .byte) }, accessFlags := 9, code := some k9c2 }
def k9c3 : Code := { maxStack := 3, maxLocals := 7, code := jdk_52_method_21_code, exceptionTable := #[], attributes := #[] }
def k9m3 : Method := { name := "compress", desc := "([CI[BII)I", sig := { parameters := [(.array .char), .int, (.array .byte), .int, .int], returnType := some .int }, accessFlags := 9, code := some k9c3 }
/-- java/lang/StringUTF16 -/
def k9 : Class := { plain "java/lang/StringUTF16" (some 0) with
  accessFlags := 48
  interfaces := #[]
  cf := some (fileOf pool9 12 #[.nestMembers #[627, 629, 369]] #[{ accessFlags := 0, nameIndex := 9, descriptorIndex := 10, attributes := #[] }, { accessFlags := 8, nameIndex := 261, descriptorIndex := 262, attributes := #[] }, { accessFlags := 9, nameIndex := 117, descriptorIndex := 122, attributes := #[] }, { accessFlags := 9, nameIndex := 117, descriptorIndex := 118, attributes := #[] }] 48 6 #[] #[{ accessFlags := 26, nameIndex := 61, descriptorIndex := 62, attributes := #[] }, { accessFlags := 26, nameIndex := 65, descriptorIndex := 62, attributes := #[] }, { accessFlags := 24, nameIndex := 430, descriptorIndex := 62, attributes := #[] }, { accessFlags := 4120, nameIndex := 46, descriptorIndex := 47, attributes := #[] }])
  fields := #[{ name := "HI_BYTE_SHIFT", type := .int, accessFlags := 26, slot := 0, constantValue := 0 }, { name := "LO_BYTE_SHIFT", type := .int, accessFlags := 26, slot := 1, constantValue := 0 }, { name := "MAX_LENGTH", type := .int, accessFlags := 24, slot := 2, constantValue := 0 }, { name := "$assertionsDisabled", type := .boolean, accessFlags := 4120, slot := 3, constantValue := 0 }]
  methods := #[k9m0, k9m1, k9m2, k9m3]
  instanceTypes := #[]
  staticTypes := #[.int, .int, .int, .boolean]
  resolved := Array.replicate 635 none
  statics := none }

def pool10 : Array CpInfo := pool [(1, .class_ 2), (0, u "java/lang/String"), (1, .class_ 6), (1, u "java/lang/Object"), (0, u "<init>"), (0, u "()V"), (0, .methodref 1 10), (0, .nameAndType 11 12), (0, u "checkIndex"), (0, u "(II)V"), (1, .class_ 16), (1, u "java/lang/StringLatin1"), (21, .methodref 39 40), (0, .class_ 41), (0, .nameAndType 42 43), (0, u "java/lang/Math"), (0, u "min"), (0, u "(II)I"), (9, u "([BI)C"), (34, .methodref 14 89), (0, .nameAndType 90 91), (0, u "canEncode"), (0, u "(I)Z"), (0, .methodref 39 93), (0, .nameAndType 94 43), (0, u "max"), (0, .methodref 14 96), (0, .nameAndType 97 98), (0, u "indexOfChar"), (0, u "([BIII)I"), (2, u "indexOf"), (10, .methodref 1 113), (0, .nameAndType 7 114), (0, u "([BB)V"), (6, u "$assertionsDisabled"), (0, u "Z"), (8, .class_ 133), (1, u "java/util/Arrays"), (17, .string 152), (0, u ""), (43, u "newString"), (0, u "([BII)Ljava/lang/String;"), (23, .class_ 223), (1, u "java/lang/StringLatin1$LinesSpliterator"), (8, .methodref 131 233), (0, .nameAndType 234 235), (0, u "copyOfRange"), (0, u "([BII)[B"), (16, u "charAt"), (137, .class_ 391), (0, u "java/lang/StringLatin1$CharsSpliterator")] 3

def k10m0 : Method := { name := "<init>", desc := "()V", sig := { parameters := [], returnType := none }, accessFlags := 0, code := none }
def k10c1 : Code := { maxStack := 2, maxLocals := 2, code := jdk_43_method_2_code, exceptionTable := #[], attributes := #[] }
def k10m1 : Method := { name := "charAt", desc := "([BI)C", sig := { parameters := [(.array .byte), .int], returnType := some .char }, accessFlags := 9, code := some k10c1 }
def k10c2 : Code := { maxStack := 2, maxLocals := 1, code := jdk_43_method_4_code, exceptionTable := #[], attributes := #[] }
def k10m2 : Method := { name := "canEncode", desc := "(I)Z", sig := { parameters := [.int], returnType := some .boolean }, accessFlags := 9, code := some k10c2 }
def k10c3 : Code := { maxStack := 4, maxLocals := 4, code := jdk_43_method_22_code, exceptionTable := #[], attributes := #[] }
def k10m3 : Method := { name := "indexOf", desc := "([BIII)I", sig := { parameters := [(.array .byte), .int, .int, .int], returnType := some .int }, accessFlags := 9, code := some k10c3 }
def k10c4 : Code := { maxStack := 2, maxLocals := 6, code := jdk_43_method_23_code, exceptionTable := #[], attributes := #[] }
def k10m4 : Method := { name := "indexOfChar", desc := "([BIII)I", sig := { parameters := [(.array .byte), .int, .int, .int], returnType := some .int }, accessFlags := 10, code := some k10c4 }
def k10c5 : Code := { maxStack := 6, maxLocals := 3, code := jdk_43_method_47_code, exceptionTable := #[], attributes := #[] }
def k10m5 : Method := { name := "newString", desc := "([BII)Ljava/lang/String;", sig := { parameters := [(.array .byte), .int, .int], returnType := some (.object "java/lang/String") }, accessFlags := 9, code := some k10c5 }
/-- java/lang/StringLatin1 -/
def k10 : Class := { plain "java/lang/StringLatin1" (some 0) with
  accessFlags := 48
  interfaces := #[]
  cf := some (fileOf pool10 14 #[.nestMembers #[390, 221]] #[{ accessFlags := 0, nameIndex := 7, descriptorIndex := 8, attributes := #[] }, { accessFlags := 9, nameIndex := 252, descriptorIndex := 53, attributes := #[] }, { accessFlags := 9, nameIndex := 90, descriptorIndex := 91, attributes := #[] }, { accessFlags := 9, nameIndex := 101, descriptorIndex := 98, attributes := #[] }, { accessFlags := 10, nameIndex := 97, descriptorIndex := 98, attributes := #[] }, { accessFlags := 9, nameIndex := 196, descriptorIndex := 197, attributes := #[] }] 48 4 #[] #[{ accessFlags := 4120, nameIndex := 121, descriptorIndex := 122, attributes := #[] }])
  fields := #[{ name := "$assertionsDisabled", type := .boolean, accessFlags := 4120, slot := 0, constantValue := 0 }]
  methods := #[k10m0, k10m1, k10m2, k10m3, k10m4, k10m5]
  instanceTypes := #[]
  staticTypes := #[.boolean]
  resolved := Array.replicate 395 none
  statics := none }

def pool11 : Array CpInfo := pool [(1, .class_ 2), (0, u "java/lang/Math"), (1, .class_ 6), (1, u "java/lang/Object"), (0, u "<init>"), (0, u "()V"), (89, .class_ 100), (1, u "java/lang/Math$RandomNumberGeneratorHolder"), (71, u "negativeZeroFloatBits"), (0, u "J"), (2, u "negativeZeroDoubleBits"), (21, u "max"), (2, u "min"), (43, u "$assertionsDisabled"), (0, u "Z"), (88, u "(II)I"), (2, u "twoToTheDoubleScaleDown"), (0, u "D"), (4, u "twoToTheDoubleScaleUp"), (9, u "E"), (3, u "PI"), (2, u "TAU"), (2, u "DEGREES_TO_RADIANS"), (0, u "RADIANS_TO_DEGREES")] 94

def k11m0 : Method := { name := "<init>", desc := "()V", sig := { parameters := [], returnType := none }, accessFlags := 2, code := none }
def k11c1 : Code := { maxStack := 2, maxLocals := 2, code := jdk_29_method_65_code, exceptionTable := #[], attributes := #[] }
def k11m1 : Method := { name := "max", desc := "(II)I", sig := { parameters := [.int, .int], returnType := some .int }, accessFlags := 9, code := some k11c1 }
def k11c2 : Code := { maxStack := 2, maxLocals := 2, code := jdk_29_method_69_code, exceptionTable := #[], attributes := #[] }
def k11m2 : Method := { name := "min", desc := "(II)I", sig := { parameters := [.int, .int], returnType := some .int }, accessFlags := 9, code := some k11c2 }
/-- java/lang/Math -/
def k11 : Class := { plain "java/lang/Math" (some 0) with
  accessFlags := 49
  interfaces := #[]
  cf := some (fileOf pool11 1 #[.nestMembers #[98]] #[{ accessFlags := 2, nameIndex := 7, descriptorIndex := 8, attributes := #[] }, { accessFlags := 9, nameIndex := 198, descriptorIndex := 335, attributes := #[] }, { accessFlags := 9, nameIndex := 201, descriptorIndex := 335, attributes := #[] }] 49 4 #[] #[{ accessFlags := 25, nameIndex := 354, descriptorIndex := 339, attributes := #[] }, { accessFlags := 25, nameIndex := 358, descriptorIndex := 339, attributes := #[] }, { accessFlags := 25, nameIndex := 361, descriptorIndex := 339, attributes := #[] }, { accessFlags := 26, nameIndex := 364, descriptorIndex := 339, attributes := #[] }, { accessFlags := 26, nameIndex := 365, descriptorIndex := 339, attributes := #[] }, { accessFlags := 26, nameIndex := 172, descriptorIndex := 173, attributes := #[] }, { accessFlags := 26, nameIndex := 176, descriptorIndex := 173, attributes := #[] }, { accessFlags := 8, nameIndex := 344, descriptorIndex := 339, attributes := #[] }, { accessFlags := 8, nameIndex := 338, descriptorIndex := 339, attributes := #[] }, { accessFlags := 4120, nameIndex := 245, descriptorIndex := 246, attributes := #[] }])
  fields := #[{ name := "E", type := .double, accessFlags := 25, slot := 0, constantValue := 0 }, { name := "PI", type := .double, accessFlags := 25, slot := 1, constantValue := 0 }, { name := "TAU", type := .double, accessFlags := 25, slot := 2, constantValue := 0 }, { name := "DEGREES_TO_RADIANS", type := .double, accessFlags := 26, slot := 3, constantValue := 0 }, { name := "RADIANS_TO_DEGREES", type := .double, accessFlags := 26, slot := 4, constantValue := 0 }, { name := "negativeZeroFloatBits", type := .long, accessFlags := 26, slot := 5, constantValue := 0 }, { name := "negativeZeroDoubleBits", type := .long, accessFlags := 26, slot := 6, constantValue := 0 }, { name := "twoToTheDoubleScaleUp", type := .double, accessFlags := 8, slot := 7, constantValue := 0 }, { name := "twoToTheDoubleScaleDown", type := .double, accessFlags := 8, slot := 8, constantValue := 0 }, { name := "$assertionsDisabled", type := .boolean, accessFlags := 4120, slot := 9, constantValue := 0 }]
  methods := #[k11m0, k11m1, k11m2]
  instanceTypes := #[]
  staticTypes := #[.double, .double, .double, .double, .double, .long, .long, .double, .double, .boolean]
  resolved := Array.replicate 460 none
  statics := none }

def pool12 : Array CpInfo := pool [(2, .class_ 4), (1, u "java/lang/Object"), (0, u "<init>"), (0, u "()V"), (17, .class_ 26), (1, u "jdk/internal/util/Preconditions"), (6, u "checkIndex"), (13, u "checkFromToIndex"), (7, .class_ 56), (0, u "jdk/internal/util/Preconditions$4"), (57, .class_ 115), (0, u "jdk/internal/util/Preconditions$1"), (7, u "SIOOBE_FORMATTER"), (0, u "Ljava/util/function/BiFunction;"), (0, .class_ 126), (0, u "jdk/internal/util/Preconditions$2"), (3, u "AIOOBE_FORMATTER"), (0, .class_ 132), (0, u "jdk/internal/util/Preconditions$3"), (3, u "IOOBE_FORMATTER"), (41, u "(IILjava/util/function/BiFunction;)I"), (4, u "(IIILjava/util/function/BiFunction;)I")] 10

def k12m0 : Method := { name := "<init>", desc := "()V", sig := { parameters := [], returnType := none }, accessFlags := 1, code := none }
def k12c1 : Code := { maxStack := 3, maxLocals := 3, code := jdk_41_method_11_code, exceptionTable := #[], attributes := #[] }
def k12m1 : Method := { name := "checkIndex", desc := "(IILjava/util/function/BiFunction;)I", sig := { parameters := [.int, .int, (.object "java/util/function/BiFunction")], returnType := some .int }, accessFlags := 9, code := some k12c1 }
def k12c2 : Code := { maxStack := 4, maxLocals := 4, code := jdk_41_method_12_code, exceptionTable := #[], attributes := #[] }
def k12m2 : Method := { name := "checkFromToIndex", desc := "(IIILjava/util/function/BiFunction;)I", sig := { parameters := [.int, .int, .int, (.object "java/util/function/BiFunction")], returnType := some .int }, accessFlags := 9, code := some k12c2 }
/-- jdk/internal/util/Preconditions -/
def k12 : Class := { plain "jdk/internal/util/Preconditions" (some 0) with
  accessFlags := 33
  interfaces := #[]
  cf := some (fileOf pool12 24 #[.nestMembers #[55, 131, 125, 114]] #[{ accessFlags := 1, nameIndex := 5, descriptorIndex := 6, attributes := #[] }, { accessFlags := 9, nameIndex := 33, descriptorIndex := 178, attributes := #[] }, { accessFlags := 9, nameIndex := 47, descriptorIndex := 183, attributes := #[] }] 33 2 #[] #[{ accessFlags := 25, nameIndex := 123, descriptorIndex := 124, attributes := #[] }, { accessFlags := 25, nameIndex := 130, descriptorIndex := 124, attributes := #[] }, { accessFlags := 25, nameIndex := 136, descriptorIndex := 124, attributes := #[] }])
  fields := #[{ name := "SIOOBE_FORMATTER", type := (.object "java/util/function/BiFunction"), accessFlags := 25, slot := 0, constantValue := 0 }, { name := "AIOOBE_FORMATTER", type := (.object "java/util/function/BiFunction"), accessFlags := 25, slot := 1, constantValue := 0 }, { name := "IOOBE_FORMATTER", type := (.object "java/util/function/BiFunction"), accessFlags := 25, slot := 2, constantValue := 0 }]
  methods := #[k12m0, k12m1, k12m2]
  instanceTypes := #[]
  staticTypes := #[(.object "java/util/function/BiFunction"), (.object "java/util/function/BiFunction"), (.object "java/util/function/BiFunction")]
  resolved := Array.replicate 194 none
  statics := some 1 }

def pool13 : Array CpInfo := pool [(2, .class_ 4), (1, u "java/lang/Object"), (0, u "<init>"), (0, u "()V"), (7, .class_ 16), (1, u "java/util/Arrays"), (57, .class_ 76), (1, u "java/util/Arrays$NaturalOrder"), (36, .class_ 115), (1, u "java/util/Arrays$LegacyMergeSort"), (1, u "Z"), (21, u "copyOfRange"), (10, .methodref 151 152), (0, .class_ 153), (0, .nameAndType 154 155), (0, u "java/lang/System"), (0, u "arraycopy"), (0, u "(Ljava/lang/Object;ILjava/lang/Object;II)V"), (148, .methodref 305 306), (0, .class_ 307), (0, .nameAndType 308 309), (0, u "java/lang/Math"), (0, u "min"), (0, u "(II)I"), (29, .methodref 14 340), (0, .nameAndType 341 342), (0, u "copyOfRangeByte"), (0, u "([BII)[B"), (0, .methodref 14 344), (0, .nameAndType 345 346), (0, u "checkLength"), (0, u "(II)V"), (28, .class_ 376), (0, u "java/util/Arrays$ArrayList"), (68, u "$assertionsDisabled"), (269, u "MIN_ARRAY_SORT_GRAN"), (0, u "I"), (2, u "INSERTIONSORT_THRESHOLD"), (255, .class_ 976), (0, u "java/util/Arrays$ArrayItr")] 52

def k13m0 : Method := { name := "<init>", desc := "()V", sig := { parameters := [], returnType := none }, accessFlags := 2, code := none }
def k13c1 : Code := { maxStack := 4, maxLocals := 2, code := jdk_65_method_131_code, exceptionTable := #[], attributes := #[] }
def k13m1 : Method := { name := "checkLength", desc := "(II)V", sig := { parameters := [.int, .int], returnType := none }, accessFlags := 10, code := some k13c1 }
def k13c2 : Code := { maxStack := 3, maxLocals := 3, code := jdk_65_method_132_code, exceptionTable := #[], attributes := #[] }
def k13m2 : Method := { name := "copyOfRange", desc := "([BII)[B", sig := { parameters := [(.array .byte), .int, .int], returnType := some (.array .byte) }, accessFlags := 9, code := some k13c2 }
def k13c3 : Code := { maxStack := 6, maxLocals := 5, code := jdk_65_method_133_code, exceptionTable := #[], attributes := #[] }
def k13m3 : Method := { name := "copyOfRangeByte", desc := "([BII)[B", sig := { parameters := [(.array .byte), .int, .int], returnType := some (.array .byte) }, accessFlags := 10, code := some k13c3 }
/-- java/util/Arrays -/
def k13 : Class := { plain "java/util/Arrays" (some 0) with
  accessFlags := 49
  interfaces := #[]
  cf := some (fileOf pool13 14 #[.nestMembers #[975, 375, 113, 74]] #[{ accessFlags := 2, nameIndex := 5, descriptorIndex := 6, attributes := #[] }, { accessFlags := 10, nameIndex := 345, descriptorIndex := 346, attributes := #[] }, { accessFlags := 9, nameIndex := 139, descriptorIndex := 342, attributes := #[] }, { accessFlags := 10, nameIndex := 341, descriptorIndex := 342, attributes := #[] }] 49 2 #[] #[{ accessFlags := 26, nameIndex := 715, descriptorIndex := 716, attributes := #[] }, { accessFlags := 26, nameIndex := 719, descriptorIndex := 716, attributes := #[] }, { accessFlags := 4120, nameIndex := 445, descriptorIndex := 117, attributes := #[] }])
  fields := #[{ name := "MIN_ARRAY_SORT_GRAN", type := .int, accessFlags := 26, slot := 0, constantValue := 0 }, { name := "INSERTIONSORT_THRESHOLD", type := .int, accessFlags := 26, slot := 1, constantValue := 0 }, { name := "$assertionsDisabled", type := .boolean, accessFlags := 4120, slot := 2, constantValue := 0 }]
  methods := #[k13m0, k13m1, k13m2, k13m3]
  instanceTypes := #[]
  staticTypes := #[.int, .int, .boolean]
  resolved := Array.replicate 1029 none
  statics := none }

def pool14 : Array CpInfo := pool [(2, .class_ 4), (1, u "java/lang/Object"), (0, u "<init>"), (0, u "()V"), (1, .class_ 10), (1, u "java/lang/System"), (0, u "allowSecurityManager"), (0, u "I"), (16, u "cons"), (0, u "Ljava/io/Console;"), (77, .class_ 110), (1, u "java/lang/System$CallersHolder"), (43, u "initialErrStream"), (0, u "Ljava/io/PrintStream;"), (19, u "security"), (0, u "Ljava/lang/SecurityManager;"), (31, .class_ 209), (0, u "java/lang/System$1"), (7, u "props"), (0, u "Ljava/util/Properties;"), (2, u "lineSeparator"), (0, u "Ljava/lang/String;"), (96, .class_ 321), (1, u "java/lang/System$LoggerFinder"), (5, .class_ 328), (0, u "java/lang/System$Logger"), (67, u "err"), (2, u "out"), (91, u "notSupportedJnuEncoding"), (15, u "in"), (17, u "initialIn"), (0, u "Ljava/io/InputStream;"), (35, u "bootLayer"), (0, u "Ljava/lang/ModuleLayer;"), (99, .class_ 664), (0, u "java/lang/System$2"), (9, u "NEVER"), (2, u "MAYBE"), (49, u "arraycopy"), (0, u "(Ljava/lang/Object;ILjava/lang/Object;II)V"), (72, .class_ 802), (0, u "java/lang/System$Logger$Level")] 31

def k14m0 : Method := { name := "<init>", desc := "()V", sig := { parameters := [], returnType := none }, accessFlags := 2, code := none }
def k14m1 : Method := { name := "arraycopy", desc := "(Ljava/lang/Object;ILjava/lang/Object;II)V", sig := { parameters := [(.object "java/lang/Object"), .int, (.object "java/lang/Object"), .int, .int], returnType := none }, accessFlags := 265, code := none }
/-- java/lang/System -/
def k14 : Class := { plain "java/lang/System" (some 0) with
  accessFlags := 49
  interfaces := #[]
  cf := some (fileOf pool14 8 #[.nestMembers #[319, 327, 801, 108, 663, 208]] #[{ accessFlags := 2, nameIndex := 5, descriptorIndex := 6, attributes := #[] }, { accessFlags := 265, nameIndex := 727, descriptorIndex := 728, attributes := #[] }] 49 2 #[] #[{ accessFlags := 25, nameIndex := 507, descriptorIndex := 526, attributes := #[] }, { accessFlags := 25, nameIndex := 399, descriptorIndex := 155, attributes := #[] }, { accessFlags := 25, nameIndex := 396, descriptorIndex := 155, attributes := #[] }, { accessFlags := 10, nameIndex := 525, descriptorIndex := 526, attributes := #[] }, { accessFlags := 26, nameIndex := 674, descriptorIndex := 12, attributes := #[] }, { accessFlags := 26, nameIndex := 677, descriptorIndex := 12, attributes := #[] }, { accessFlags := 10, nameIndex := 11, descriptorIndex := 12, attributes := #[] }, { accessFlags := 74, nameIndex := 175, descriptorIndex := 176, attributes := #[] }, { accessFlags := 10, nameIndex := 491, descriptorIndex := 222, attributes := #[] }, { accessFlags := 74, nameIndex := 29, descriptorIndex := 30, attributes := #[] }, { accessFlags := 74, nameIndex := 154, descriptorIndex := 155, attributes := #[] }, { accessFlags := 10, nameIndex := 217, descriptorIndex := 218, attributes := #[] }, { accessFlags := 10, nameIndex := 221, descriptorIndex := 222, attributes := #[] }, { accessFlags := 8, nameIndex := 562, descriptorIndex := 563, attributes := #[] }])
  fields := #[{ name := "in", type := (.object "java/io/InputStream"), accessFlags := 25, slot := 0, constantValue := 0 }, { name := "out", type := (.object "java/io/PrintStream"), accessFlags := 25, slot := 1, constantValue := 0 }, { name := "err", type := (.object "java/io/PrintStream"), accessFlags := 25, slot := 2, constantValue := 0 }, { name := "initialIn", type := (.object "java/io/InputStream"), accessFlags := 10, slot := 3, constantValue := 0 }, { name := "NEVER", type := .int, accessFlags := 26, slot := 4, constantValue := 0 }, { name := "MAYBE", type := .int, accessFlags := 26, slot := 5, constantValue := 0 }, { name := "allowSecurityManager", type := .int, accessFlags := 10, slot := 6, constantValue := 0 }, { name := "security", type := (.object "java/lang/SecurityManager"), accessFlags := 74, slot := 7, constantValue := 0 }, { name := "notSupportedJnuEncoding", type := (.object "java/lang/String"), accessFlags := 10, slot := 8, constantValue := 0 }, { name := "cons", type := (.object "java/io/Console"), accessFlags := 74, slot := 9, constantValue := 0 }, { name := "initialErrStream", type := (.object "java/io/PrintStream"), accessFlags := 74, slot := 10, constantValue := 0 }, { name := "props", type := (.object "java/util/Properties"), accessFlags := 10, slot := 11, constantValue := 0 }, { name := "lineSeparator", type := (.object "java/lang/String"), accessFlags := 10, slot := 12, constantValue := 0 }, { name := "bootLayer", type := (.object "java/lang/ModuleLayer"), accessFlags := 8, slot := 13, constantValue := 0 }]
  methods := #[k14m0, k14m1]
  instanceTypes := #[]
  staticTypes := #[(.object "java/io/InputStream"), (.object "java/io/PrintStream"), (.object "java/io/PrintStream"), (.object "java/io/InputStream"), .int, .int, .int, (.object "java/lang/SecurityManager"), (.object "java/lang/String"), (.object "java/io/Console"), (.object "java/io/PrintStream"), (.object "java/util/Properties"), (.object "java/lang/String"), (.object "java/lang/ModuleLayer")]
  resolved := Array.replicate 834 none
  statics := none }

def pool15 : Array CpInfo := pool [(9, u "<init>"), (6, .class_ 18), (1, u "java/lang/Object"), (0, u "()V"), (1, .class_ 23), (1, u "jdk/internal/util/ArraysSupport"), (0, u "LOG2_ARRAY_LONG_INDEX_SCALE"), (0, u "I"), (2, u "U"), (0, u "Ljdk/internal/misc/Unsafe;"), (8, u "BIG_ENDIAN"), (0, u "Z"), (8, u "LOG2_BYTE_BIT_SIZE"), (4, u "LOG2_ARRAY_INT_INDEX_SCALE"), (54, u "JLA"), (0, u "Ljdk/internal/access/JavaLangAccess;"), (11, u "LOG2_ARRAY_BOOLEAN_INDEX_SCALE"), (9, u "LOG2_ARRAY_BYTE_INDEX_SCALE"), (5, u "LOG2_ARRAY_CHAR_INDEX_SCALE"), (5, u "LOG2_ARRAY_SHORT_INDEX_SCALE"), (18, u "LOG2_ARRAY_FLOAT_INDEX_SCALE"), (24, u "LOG2_ARRAY_DOUBLE_INDEX_SCALE"), (89, u "T_BOOLEAN"), (2, u "T_CHAR"), (1, u "T_FLOAT"), (1, u "T_DOUBLE"), (1, u "T_BYTE"), (1, u "T_SHORT"), (1, u "T_INT"), (1, u "T_LONG"), (1, u "SOFT_MAX_ARRAY_LENGTH")] 83

def k15m0 : Method := { name := "<init>", desc := "()V", sig := { parameters := [], returnType := none }, accessFlags := 2, code := none }
/-- jdk/internal/util/ArraysSupport -/
def k15 : Class := { plain "jdk/internal/util/ArraysSupport" (some 0) with
  accessFlags := 33
  interfaces := #[]
  cf := some (fileOf pool15 21 #[] #[{ accessFlags := 2, nameIndex := 9, descriptorIndex := 19, attributes := #[] }] 33 16 #[] #[{ accessFlags := 24, nameIndex := 28, descriptorIndex := 29, attributes := #[] }, { accessFlags := 26, nameIndex := 38, descriptorIndex := 39, attributes := #[] }, { accessFlags := 25, nameIndex := 121, descriptorIndex := 25, attributes := #[] }, { accessFlags := 25, nameIndex := 131, descriptorIndex := 25, attributes := #[] }, { accessFlags := 25, nameIndex := 137, descriptorIndex := 25, attributes := #[] }, { accessFlags := 25, nameIndex := 143, descriptorIndex := 25, attributes := #[] }, { accessFlags := 25, nameIndex := 53, descriptorIndex := 25, attributes := #[] }, { accessFlags := 25, nameIndex := 24, descriptorIndex := 25, attributes := #[] }, { accessFlags := 25, nameIndex := 162, descriptorIndex := 25, attributes := #[] }, { accessFlags := 25, nameIndex := 187, descriptorIndex := 25, attributes := #[] }, { accessFlags := 26, nameIndex := 48, descriptorIndex := 25, attributes := #[] }, { accessFlags := 25, nameIndex := 277, descriptorIndex := 25, attributes := #[] }, { accessFlags := 25, nameIndex := 280, descriptorIndex := 25, attributes := #[] }, { accessFlags := 25, nameIndex := 282, descriptorIndex := 25, attributes := #[] }, { accessFlags := 25, nameIndex := 284, descriptorIndex := 25, attributes := #[] }, { accessFlags := 25, nameIndex := 286, descriptorIndex := 25, attributes := #[] }, { accessFlags := 25, nameIndex := 288, descriptorIndex := 25, attributes := #[] }, { accessFlags := 25, nameIndex := 290, descriptorIndex := 25, attributes := #[] }, { accessFlags := 25, nameIndex := 292, descriptorIndex := 25, attributes := #[] }, { accessFlags := 26, nameIndex := 108, descriptorIndex := 109, attributes := #[] }, { accessFlags := 25, nameIndex := 294, descriptorIndex := 25, attributes := #[] }])
  fields := #[{ name := "U", type := (.object "jdk/internal/misc/Unsafe"), accessFlags := 24, slot := 0, constantValue := 0 }, { name := "BIG_ENDIAN", type := .boolean, accessFlags := 26, slot := 1, constantValue := 0 }, { name := "LOG2_ARRAY_BOOLEAN_INDEX_SCALE", type := .int, accessFlags := 25, slot := 2, constantValue := 0 }, { name := "LOG2_ARRAY_BYTE_INDEX_SCALE", type := .int, accessFlags := 25, slot := 3, constantValue := 0 }, { name := "LOG2_ARRAY_CHAR_INDEX_SCALE", type := .int, accessFlags := 25, slot := 4, constantValue := 0 }, { name := "LOG2_ARRAY_SHORT_INDEX_SCALE", type := .int, accessFlags := 25, slot := 5, constantValue := 0 }, { name := "LOG2_ARRAY_INT_INDEX_SCALE", type := .int, accessFlags := 25, slot := 6, constantValue := 0 }, { name := "LOG2_ARRAY_LONG_INDEX_SCALE", type := .int, accessFlags := 25, slot := 7, constantValue := 0 }, { name := "LOG2_ARRAY_FLOAT_INDEX_SCALE", type := .int, accessFlags := 25, slot := 8, constantValue := 0 }, { name := "LOG2_ARRAY_DOUBLE_INDEX_SCALE", type := .int, accessFlags := 25, slot := 9, constantValue := 0 }, { name := "LOG2_BYTE_BIT_SIZE", type := .int, accessFlags := 26, slot := 10, constantValue := 0 }, { name := "T_BOOLEAN", type := .int, accessFlags := 25, slot := 11, constantValue := 0 }, { name := "T_CHAR", type := .int, accessFlags := 25, slot := 12, constantValue := 0 }, { name := "T_FLOAT", type := .int, accessFlags := 25, slot := 13, constantValue := 0 }, { name := "T_DOUBLE", type := .int, accessFlags := 25, slot := 14, constantValue := 0 }, { name := "T_BYTE", type := .int, accessFlags := 25, slot := 15, constantValue := 0 }, { name := "T_SHORT", type := .int, accessFlags := 25, slot := 16, constantValue := 0 }, { name := "T_INT", type := .int, accessFlags := 25, slot := 17, constantValue := 0 }, { name := "T_LONG", type := .int, accessFlags := 25, slot := 18, constantValue := 0 }, { name := "JLA", type := (.object "jdk/internal/access/JavaLangAccess"), accessFlags := 26, slot := 19, constantValue := 0 }, { name := "SOFT_MAX_ARRAY_LENGTH", type := .int, accessFlags := 25, slot := 20, constantValue := 0 }]
  methods := #[k15m0]
  instanceTypes := #[]
  staticTypes := #[(.object "jdk/internal/misc/Unsafe"), .boolean, .int, .int, .int, .int, .int, .int, .int, .int, .int, .int, .int, .int, .int, .int, .int, .int, .int, (.object "jdk/internal/access/JavaLangAccess"), .int]
  resolved := Array.replicate 378 none
  statics := none }

def pool16 : Array CpInfo := pool [(1, u "java/lang/Cloneable"), (0, .class_ 1), (0, u "java/lang/Object"), (0, .class_ 3)] 3

/-- java/lang/Cloneable -/
def k16 : Class := { plain "java/lang/Cloneable" (some 0) with
  accessFlags := 1537
  interfaces := #[]
  cf := some (fileOf pool16 2 #[] #[] 1537 4 #[] #[])
  fields := #[]
  methods := #[]
  instanceTypes := #[]
  staticTypes := #[]
  resolved := Array.replicate 8 none
  statics := none }

/-- the primitive byte -/
def k17 : Class := { plain "byte" none with kind := .primitive 'B', accessFlags := 0x411 }
/-- [B -/
def k18 : Class := { plain "[B" (some 0) with kind := .array 17 .byte, interfaces := #[16, 3], accessFlags := 1041 }

/-- the primitive char -/
def k19 : Class := { plain "char" none with kind := .primitive 'C', accessFlags := 0x411 }
/-- [C -/
def k20 : Class := { plain "[C" (some 0) with kind := .array 19 .char, interfaces := #[16, 3], accessFlags := 1041 }

/-- the primitive int -/
def k21 : Class := { plain "int" none with kind := .primitive 'I', accessFlags := 0x411 }
/-- [I -/
def k22 : Class := { plain "[I" (some 0) with kind := .array 21 .int, interfaces := #[16, 3], accessFlags := 1041 }

def heap : Heap := #[{ cls := 8, slots := #[.long 0, .int 1, .null, .int 0, .null, .int 0, .int 0], vm := .statics 8 },
  { cls := 12, slots := #[.null, .null, .null], vm := .statics 12 }]
def classes : Array Class := #[k0, k1, k2, k3, k4, k5, k6, k7, k8, k9, k10, k11, k12, k13, k14, k15, k16, k17, k18, k19, k20, k21, k22]
def interned : List (Array UInt16 × Addr) := []
def slotsUsed : Nat := 10
def theMethod : MethodId := ⟨1, 4⟩
def args0 : Array Value := #[.long 5, .int 2, .int 3, .int 4]
def aboutOver (below : List Frame) : State where
  vm := { classes := classes, interned := interned.toArray }
  heap := heap
  slotsUsed := slotsUsed
  threads := #[{ frames := .invoking theMethod args0 :: below }]
def below0 : List Frame := [.native { method := ⟨0, 0⟩, args := #[] }]
def about1 : State := aboutOver below0
def p0 : Program := .bare "" "" ""
def e0 : Env := launch0.env 0 0 0
theorem w_frames : about1.frames = Frame.invoking theMethod args0 :: below0 := rfl
set_option maxRecDepth 65536 in
theorem w_args : argsFit about1.vm theMethod args0 = true := by decide +kernel
set_option maxRecDepth 65536 in
theorem w_heap : heapFits about1 = true := by decide +kernel
set_option maxRecDepth 65536 in
theorem w_runnable : about1.curStatus? = some .runnable := by decide +kernel
set_option maxRecDepth 65536 in
theorem w_alone : about1.alone = true := by decide +kernel
set_option maxRecDepth 65536 in
theorem w_named : about1.methodNamed? x = some theMethod := by decide +kernel
set_option maxRecDepth 65536 in
theorem w_hears : about1.hears theMethod below0 = true := by decide +kernel
set_option maxRecDepth 65536 in
theorem w_ripe : about1.ripe theMethod args0 below0 = true := by decide +kernel
theorem w_running : about1.status = .running := rfl
set_option maxRecDepth 65536 in
theorem w_room : about1.hasRoom e0.platform room_1 = true :=
  launch0.hasRoom_least _ room_1 (by decide +kernel) (by decide +kernel) (by decide +kernel) (by decide +kernel) (by decide +kernel) (by decide +kernel)
theorem allAtoms_all (ts : List Jvm.Cond) (a : Array Jvm.Value) (st : Jvm.State) : (allAtoms ts).before a st = ts.all (fun c => c.before a st) := by
  induction ts with
  | nil => rfl
  | cons c t ih =>
    show (Jvm.Cond.and c (allAtoms t)).before a st = _
    rw [Jvm.Cond.before_and, ih, List.all_cons]
def words1 : List Jvm.Cond := Jvm.Cond.code x code maxLocals ret :: tables_1
/-- a 'code' word, met by the world's own term for the bytes: nothing is compared byte by byte -/
theorem code_word {y : MethodName} {bytes : ByteArray} {mx : Nat} {rt : Option FieldType} {a : Array Value} {s : State} {m : MethodId} {meth : Method} {c : Code} (h1 : s.methodNamed? y = some m) (h2 : s.vm.method? m = some meth) (h3 : meth.code = some c) (h4 : c.code = bytes)
    (h5 : (c.maxLocals == mx && c.exceptionTable.isEmpty && decide (c.maxStack ≤ mostOperands) && decide (meth.sig.returnType = rt) && !meth.locks && decide (parseMethodDescriptor y.desc = some meth.sig)) = true) : (Jvm.Cond.code y bytes mx rt).before a s = true := by
  simp only [Bool.and_eq_true, beq_iff_eq, Bool.not_eq_true', decide_eq_true_eq] at h5
  obtain ⟨⟨⟨⟨⟨g1, g2⟩, g3⟩, g4⟩, g5⟩, g6⟩ := h5
  simp [Cond.before, Cond.holds, Cond.value, h1, h2, h3, h4, g1, g2, g3, g4, g5, g6]
def isCode : Jvm.Cond → Bool
  | .code _ _ _ _ => true
  | _ => false
theorem all_split {L : List Jvm.Cond} {P : Jvm.Cond → Bool} (h1 : L.all (fun c => isCode c || P c) = true) (h2 : ∀ c ∈ L.filter isCode, P c = true) : L.all P = true := by
  refine List.all_eq_true.mpr fun c hc => ?_
  have h := List.all_eq_true.mp h1 c hc
  rcases Bool.eq_false_or_eq_true (isCode c) with hi | hi
  · exact h2 c (List.mem_filter.mpr ⟨hc, hi⟩)
  · simpa [hi] using h
set_option maxRecDepth 65536 in
theorem w_c0 : (Jvm.Cond.code x code maxLocals ret).before args0 about1 = true := code_word (m := ⟨1, 4⟩) (meth := k1m4) (c := k1c4) (by decide +kernel) rfl rfl rfl (by decide +kernel)
set_option maxRecDepth 65536 in
theorem w_c1 : (Jvm.Cond.code ({ cls := "com/example/recaller/recaller/LexerUntilPinLaw", name := "prefix", desc := "([CI)[C" } : Jvm.MethodName) method_2_code (2 : Nat) (Option.some (Jvm.ClassFile.FieldType.array Jvm.ClassFile.FieldType.char))).before args0 about1 = true := code_word (m := ⟨1, 1⟩) (meth := k1m1) (c := k1c1) (by decide +kernel) rfl rfl rfl (by decide +kernel)
set_option maxRecDepth 65536 in
theorem w_c2 : (Jvm.Cond.code ({ cls := "java/lang/String", name := "<init>", desc := "([C)V" } : Jvm.MethodName) jdk_42_method_3_code (2 : Nat) (Option.none : Option Jvm.ClassFile.FieldType)).before args0 about1 = true := code_word (m := ⟨8, 1⟩) (meth := k8m1) (c := k8c1) (by decide +kernel) rfl rfl rfl (by decide +kernel)
set_option maxRecDepth 65536 in
theorem w_c3 : (Jvm.Cond.code ({ cls := "java/lang/String", name := "<init>", desc := "([CIILjava/lang/Void;)V" } : Jvm.MethodName) jdk_42_method_149_code (6 : Nat) (Option.none : Option Jvm.ClassFile.FieldType)).before args0 about1 = true := code_word (m := ⟨8, 6⟩) (meth := k8m6) (c := k8c6) (by decide +kernel) rfl rfl rfl (by decide +kernel)
set_option maxRecDepth 65536 in
theorem w_c4 : (Jvm.Cond.code ({ cls := "java/lang/Object", name := "<init>", desc := "()V" } : Jvm.MethodName) object_method_1_code (1 : Nat) (Option.none : Option Jvm.ClassFile.FieldType)).before args0 about1 = true := code_word (m := ⟨0, 0⟩) (meth := k0m0) (c := k0c0) (by decide +kernel) rfl rfl rfl (by decide +kernel)
set_option maxRecDepth 65536 in
theorem w_c5 : (Jvm.Cond.code ({ cls := "java/lang/StringUTF16", name := "compress", desc := "([CII)[B" } : Jvm.MethodName) jdk_52_method_16_code (6 : Nat) (Option.some (Jvm.ClassFile.FieldType.array Jvm.ClassFile.FieldType.byte))).before args0 about1 = true := code_word (m := ⟨9, 2⟩) (meth := k9m2) (c := k9c2) (by decide +kernel) rfl rfl rfl (by decide +kernel)
set_option maxRecDepth 65536 in
theorem w_c6 : (Jvm.Cond.code ({ cls := "java/lang/StringUTF16", name := "compress", desc := "([CI[BII)I" } : Jvm.MethodName) jdk_52_method_21_code (7 : Nat) (Option.some Jvm.ClassFile.FieldType.int)).before args0 about1 = true := code_word (m := ⟨9, 3⟩) (meth := k9m3) (c := k9c3) (by decide +kernel) rfl rfl rfl (by decide +kernel)
set_option maxRecDepth 65536 in
theorem w_c7 : (Jvm.Cond.code ({ cls := "java/lang/StringUTF16", name := "coderFromArrayLen", desc := "([BI)B" } : Jvm.MethodName) jdk_52_method_15_code (2 : Nat) (Option.some Jvm.ClassFile.FieldType.byte)).before args0 about1 = true := code_word (m := ⟨9, 1⟩) (meth := k9m1) (c := k9c1) (by decide +kernel) rfl rfl rfl (by decide +kernel)
set_option maxRecDepth 65536 in
theorem w_c8 : (Jvm.Cond.code ({ cls := "com/example/recaller/recaller/Lexer", name := "<init>", desc := "(Ljava/lang/String;Ljava/lang/String;)V" } : Jvm.MethodName) prog_21_method_1_code (3 : Nat) (Option.none : Option Jvm.ClassFile.FieldType)).before args0 about1 = true := code_word (m := ⟨2, 0⟩) (meth := k2m0) (c := k2c0) (by decide +kernel) rfl rfl rfl (by decide +kernel)
set_option maxRecDepth 65536 in
theorem w_c9 : (Jvm.Cond.code ({ cls := "com/example/recaller/recaller/LexerUntilPinLaw", name := "firstFrom", desc := "([CIIC)I" } : Jvm.MethodName) method_3_code (4 : Nat) (Option.some Jvm.ClassFile.FieldType.int)).before args0 about1 = true := code_word (m := ⟨1, 2⟩) (meth := k1m2) (c := k1c2) (by decide +kernel) rfl rfl rfl (by decide +kernel)
set_option maxRecDepth 65536 in
theorem w_c10 : (Jvm.Cond.code ({ cls := "com/example/recaller/recaller/Lexer", name := "until", desc := "(C)Ljava/lang/String;" } : Jvm.MethodName) prog_21_method_12_code (4 : Nat) (Option.some (Jvm.ClassFile.FieldType.object "java/lang/String"))).before args0 about1 = true := code_word (m := ⟨2, 2⟩) (meth := k2m2) (c := k2c2) (by decide +kernel) rfl rfl rfl (by decide +kernel)
set_option maxRecDepth 65536 in
theorem w_c11 : (Jvm.Cond.code ({ cls := "java/lang/String", name := "indexOf", desc := "(II)I" } : Jvm.MethodName) jdk_42_method_80_code (3 : Nat) (Option.some Jvm.ClassFile.FieldType.int)).before args0 about1 = true := code_word (m := ⟨8, 4⟩) (meth := k8m4) (c := k8c4) (by decide +kernel) rfl rfl rfl (by decide +kernel)
set_option maxRecDepth 65536 in
theorem w_c12 : (Jvm.Cond.code ({ cls := "java/lang/String", name := "isLatin1", desc := "()Z" } : Jvm.MethodName) jdk_42_method_154_code (1 : Nat) (Option.some Jvm.ClassFile.FieldType.boolean)).before args0 about1 = true := code_word (m := ⟨8, 9⟩) (meth := k8m9) (c := k8c9) (by decide +kernel) rfl rfl rfl (by decide +kernel)
set_option maxRecDepth 65536 in
theorem w_c13 : (Jvm.Cond.code ({ cls := "java/lang/String", name := "length", desc := "()I" } : Jvm.MethodName) jdk_42_method_54_code (1 : Nat) (Option.some Jvm.ClassFile.FieldType.int)).before args0 about1 = true := code_word (m := ⟨8, 2⟩) (meth := k8m2) (c := k8c2) (by decide +kernel) rfl rfl rfl (by decide +kernel)
set_option maxRecDepth 65536 in
theorem w_c14 : (Jvm.Cond.code ({ cls := "java/lang/String", name := "coder", desc := "()B" } : Jvm.MethodName) jdk_42_method_152_code (1 : Nat) (Option.some Jvm.ClassFile.FieldType.byte)).before args0 about1 = true := code_word (m := ⟨8, 8⟩) (meth := k8m8) (c := k8c8) (by decide +kernel) rfl rfl rfl (by decide +kernel)
set_option maxRecDepth 65536 in
theorem w_c15 : (Jvm.Cond.code ({ cls := "java/lang/StringLatin1", name := "indexOf", desc := "([BIII)I" } : Jvm.MethodName) jdk_43_method_22_code (4 : Nat) (Option.some Jvm.ClassFile.FieldType.int)).before args0 about1 = true := code_word (m := ⟨10, 3⟩) (meth := k10m3) (c := k10c3) (by decide +kernel) rfl rfl rfl (by decide +kernel)
set_option maxRecDepth 65536 in
theorem w_c16 : (Jvm.Cond.code ({ cls := "java/lang/StringLatin1", name := "canEncode", desc := "(I)Z" } : Jvm.MethodName) jdk_43_method_4_code (1 : Nat) (Option.some Jvm.ClassFile.FieldType.boolean)).before args0 about1 = true := code_word (m := ⟨10, 2⟩) (meth := k10m2) (c := k10c2) (by decide +kernel) rfl rfl rfl (by decide +kernel)
set_option maxRecDepth 65536 in
theorem w_c17 : (Jvm.Cond.code ({ cls := "java/lang/Math", name := "max", desc := "(II)I" } : Jvm.MethodName) jdk_29_method_65_code (2 : Nat) (Option.some Jvm.ClassFile.FieldType.int)).before args0 about1 = true := code_word (m := ⟨11, 1⟩) (meth := k11m1) (c := k11c1) (by decide +kernel) rfl rfl rfl (by decide +kernel)
set_option maxRecDepth 65536 in
theorem w_c18 : (Jvm.Cond.code ({ cls := "java/lang/Math", name := "min", desc := "(II)I" } : Jvm.MethodName) jdk_29_method_69_code (2 : Nat) (Option.some Jvm.ClassFile.FieldType.int)).before args0 about1 = true := code_word (m := ⟨11, 2⟩) (meth := k11m2) (c := k11c2) (by decide +kernel) rfl rfl rfl (by decide +kernel)
set_option maxRecDepth 65536 in
theorem w_c19 : (Jvm.Cond.code ({ cls := "java/lang/StringLatin1", name := "indexOfChar", desc := "([BIII)I" } : Jvm.MethodName) jdk_43_method_23_code (6 : Nat) (Option.some Jvm.ClassFile.FieldType.int)).before args0 about1 = true := code_word (m := ⟨10, 4⟩) (meth := k10m4) (c := k10c4) (by decide +kernel) rfl rfl rfl (by decide +kernel)
set_option maxRecDepth 65536 in
theorem w_c20 : (Jvm.Cond.code ({ cls := "java/lang/String", name := "substring", desc := "(II)Ljava/lang/String;" } : Jvm.MethodName) jdk_42_method_92_code (5 : Nat) (Option.some (Jvm.ClassFile.FieldType.object "java/lang/String"))).before args0 about1 = true := code_word (m := ⟨8, 5⟩) (meth := k8m5) (c := k8c5) (by decide +kernel) rfl rfl rfl (by decide +kernel)
set_option maxRecDepth 65536 in
theorem w_c21 : (Jvm.Cond.code ({ cls := "java/lang/String", name := "checkBoundsBeginEnd", desc := "(III)V" } : Jvm.MethodName) jdk_42_method_158_code (3 : Nat) (Option.none : Option Jvm.ClassFile.FieldType)).before args0 about1 = true := code_word (m := ⟨8, 11⟩) (meth := k8m11) (c := k8c11) (by decide +kernel) rfl rfl rfl (by decide +kernel)
set_option maxRecDepth 65536 in
theorem w_c22 : (Jvm.Cond.code ({ cls := "jdk/internal/util/Preconditions", name := "checkFromToIndex", desc := "(IIILjava/util/function/BiFunction;)I" } : Jvm.MethodName) jdk_41_method_12_code (4 : Nat) (Option.some Jvm.ClassFile.FieldType.int)).before args0 about1 = true := code_word (m := ⟨12, 2⟩) (meth := k12m2) (c := k12c2) (by decide +kernel) rfl rfl rfl (by decide +kernel)
set_option maxRecDepth 65536 in
theorem w_c23 : (Jvm.Cond.code ({ cls := "com/example/recaller/recaller/LexerUntilPinLaw", name := "sameSlice", desc := "(Ljava/lang/String;[CII)Z" } : Jvm.MethodName) method_4_code (5 : Nat) (Option.some Jvm.ClassFile.FieldType.boolean)).before args0 about1 = true := code_word (m := ⟨1, 3⟩) (meth := k1m3) (c := k1c3) (by decide +kernel) rfl rfl rfl (by decide +kernel)
set_option maxRecDepth 65536 in
theorem w_c24 : (Jvm.Cond.code ({ cls := "java/lang/String", name := "charAt", desc := "(I)C" } : Jvm.MethodName) jdk_42_method_56_code (2 : Nat) (Option.some Jvm.ClassFile.FieldType.char)).before args0 about1 = true := code_word (m := ⟨8, 3⟩) (meth := k8m3) (c := k8c3) (by decide +kernel) rfl rfl rfl (by decide +kernel)
set_option maxRecDepth 65536 in
theorem w_c25 : (Jvm.Cond.code ({ cls := "java/lang/StringLatin1", name := "charAt", desc := "([BI)C" } : Jvm.MethodName) jdk_43_method_2_code (2 : Nat) (Option.some Jvm.ClassFile.FieldType.char)).before args0 about1 = true := code_word (m := ⟨10, 1⟩) (meth := k10m1) (c := k10c1) (by decide +kernel) rfl rfl rfl (by decide +kernel)
set_option maxRecDepth 65536 in
theorem w_c26 : (Jvm.Cond.code ({ cls := "java/lang/String", name := "checkIndex", desc := "(II)V" } : Jvm.MethodName) jdk_42_method_155_code (2 : Nat) (Option.none : Option Jvm.ClassFile.FieldType)).before args0 about1 = true := code_word (m := ⟨8, 10⟩) (meth := k8m10) (c := k8c10) (by decide +kernel) rfl rfl rfl (by decide +kernel)
set_option maxRecDepth 65536 in
theorem w_c27 : (Jvm.Cond.code ({ cls := "jdk/internal/util/Preconditions", name := "checkIndex", desc := "(IILjava/util/function/BiFunction;)I" } : Jvm.MethodName) jdk_41_method_11_code (3 : Nat) (Option.some Jvm.ClassFile.FieldType.int)).before args0 about1 = true := code_word (m := ⟨12, 1⟩) (meth := k12m1) (c := k12c1) (by decide +kernel) rfl rfl rfl (by decide +kernel)
set_option maxRecDepth 65536 in
theorem w_c28 : (Jvm.Cond.code ({ cls := "com/example/recaller/recaller/Lexer", name := "getPosition", desc := "()I" } : Jvm.MethodName) prog_21_method_3_code (1 : Nat) (Option.some Jvm.ClassFile.FieldType.int)).before args0 about1 = true := code_word (m := ⟨2, 1⟩) (meth := k2m1) (c := k2c1) (by decide +kernel) rfl rfl rfl (by decide +kernel)
set_option maxRecDepth 65536 in
theorem w_c29 : (Jvm.Cond.code ({ cls := "java/lang/StringLatin1", name := "newString", desc := "([BII)Ljava/lang/String;" } : Jvm.MethodName) jdk_43_method_47_code (3 : Nat) (Option.some (Jvm.ClassFile.FieldType.object "java/lang/String"))).before args0 about1 = true := code_word (m := ⟨10, 5⟩) (meth := k10m5) (c := k10c5) (by decide +kernel) rfl rfl rfl (by decide +kernel)
set_option maxRecDepth 65536 in
theorem w_c30 : (Jvm.Cond.code ({ cls := "java/util/Arrays", name := "copyOfRange", desc := "([BII)[B" } : Jvm.MethodName) jdk_65_method_132_code (3 : Nat) (Option.some (Jvm.ClassFile.FieldType.array Jvm.ClassFile.FieldType.byte))).before args0 about1 = true := code_word (m := ⟨13, 2⟩) (meth := k13m2) (c := k13c2) (by decide +kernel) rfl rfl rfl (by decide +kernel)
set_option maxRecDepth 65536 in
theorem w_c31 : (Jvm.Cond.code ({ cls := "java/util/Arrays", name := "copyOfRangeByte", desc := "([BII)[B" } : Jvm.MethodName) jdk_65_method_133_code (5 : Nat) (Option.some (Jvm.ClassFile.FieldType.array Jvm.ClassFile.FieldType.byte))).before args0 about1 = true := code_word (m := ⟨13, 3⟩) (meth := k13m3) (c := k13c3) (by decide +kernel) rfl rfl rfl (by decide +kernel)
set_option maxRecDepth 65536 in
theorem w_c32 : (Jvm.Cond.code ({ cls := "java/util/Arrays", name := "checkLength", desc := "(II)V" } : Jvm.MethodName) jdk_65_method_131_code (2 : Nat) (Option.none : Option Jvm.ClassFile.FieldType)).before args0 about1 = true := code_word (m := ⟨13, 1⟩) (meth := k13m1) (c := k13c1) (by decide +kernel) rfl rfl rfl (by decide +kernel)
set_option maxRecDepth 65536 in
theorem w_c33 : (Jvm.Cond.code ({ cls := "java/lang/String", name := "<init>", desc := "([BB)V" } : Jvm.MethodName) jdk_42_method_151_code (3 : Nat) (Option.none : Option Jvm.ClassFile.FieldType)).before args0 about1 = true := code_word (m := ⟨8, 7⟩) (meth := k8m7) (c := k8c7) (by decide +kernel) rfl rfl rfl (by decide +kernel)
def codes1 : List Jvm.Cond := [Jvm.Cond.code x code maxLocals ret, Jvm.Cond.code ({ cls := "com/example/recaller/recaller/LexerUntilPinLaw", name := "prefix", desc := "([CI)[C" } : Jvm.MethodName) method_2_code (2 : Nat) (Option.some (Jvm.ClassFile.FieldType.array Jvm.ClassFile.FieldType.char)), Jvm.Cond.code ({ cls := "java/lang/String", name := "<init>", desc := "([C)V" } : Jvm.MethodName) jdk_42_method_3_code (2 : Nat) (Option.none : Option Jvm.ClassFile.FieldType), Jvm.Cond.code ({ cls := "java/lang/String", name := "<init>", desc := "([CIILjava/lang/Void;)V" } : Jvm.MethodName) jdk_42_method_149_code (6 : Nat) (Option.none : Option Jvm.ClassFile.FieldType), Jvm.Cond.code ({ cls := "java/lang/Object", name := "<init>", desc := "()V" } : Jvm.MethodName) object_method_1_code (1 : Nat) (Option.none : Option Jvm.ClassFile.FieldType), Jvm.Cond.code ({ cls := "java/lang/StringUTF16", name := "compress", desc := "([CII)[B" } : Jvm.MethodName) jdk_52_method_16_code (6 : Nat) (Option.some (Jvm.ClassFile.FieldType.array Jvm.ClassFile.FieldType.byte)), Jvm.Cond.code ({ cls := "java/lang/StringUTF16", name := "compress", desc := "([CI[BII)I" } : Jvm.MethodName) jdk_52_method_21_code (7 : Nat) (Option.some Jvm.ClassFile.FieldType.int), Jvm.Cond.code ({ cls := "java/lang/StringUTF16", name := "coderFromArrayLen", desc := "([BI)B" } : Jvm.MethodName) jdk_52_method_15_code (2 : Nat) (Option.some Jvm.ClassFile.FieldType.byte), Jvm.Cond.code ({ cls := "com/example/recaller/recaller/Lexer", name := "<init>", desc := "(Ljava/lang/String;Ljava/lang/String;)V" } : Jvm.MethodName) prog_21_method_1_code (3 : Nat) (Option.none : Option Jvm.ClassFile.FieldType), Jvm.Cond.code ({ cls := "com/example/recaller/recaller/LexerUntilPinLaw", name := "firstFrom", desc := "([CIIC)I" } : Jvm.MethodName) method_3_code (4 : Nat) (Option.some Jvm.ClassFile.FieldType.int), Jvm.Cond.code ({ cls := "com/example/recaller/recaller/Lexer", name := "until", desc := "(C)Ljava/lang/String;" } : Jvm.MethodName) prog_21_method_12_code (4 : Nat) (Option.some (Jvm.ClassFile.FieldType.object "java/lang/String")), Jvm.Cond.code ({ cls := "java/lang/String", name := "indexOf", desc := "(II)I" } : Jvm.MethodName) jdk_42_method_80_code (3 : Nat) (Option.some Jvm.ClassFile.FieldType.int), Jvm.Cond.code ({ cls := "java/lang/String", name := "isLatin1", desc := "()Z" } : Jvm.MethodName) jdk_42_method_154_code (1 : Nat) (Option.some Jvm.ClassFile.FieldType.boolean), Jvm.Cond.code ({ cls := "java/lang/String", name := "length", desc := "()I" } : Jvm.MethodName) jdk_42_method_54_code (1 : Nat) (Option.some Jvm.ClassFile.FieldType.int), Jvm.Cond.code ({ cls := "java/lang/String", name := "coder", desc := "()B" } : Jvm.MethodName) jdk_42_method_152_code (1 : Nat) (Option.some Jvm.ClassFile.FieldType.byte), Jvm.Cond.code ({ cls := "java/lang/StringLatin1", name := "indexOf", desc := "([BIII)I" } : Jvm.MethodName) jdk_43_method_22_code (4 : Nat) (Option.some Jvm.ClassFile.FieldType.int), Jvm.Cond.code ({ cls := "java/lang/StringLatin1", name := "canEncode", desc := "(I)Z" } : Jvm.MethodName) jdk_43_method_4_code (1 : Nat) (Option.some Jvm.ClassFile.FieldType.boolean), Jvm.Cond.code ({ cls := "java/lang/Math", name := "max", desc := "(II)I" } : Jvm.MethodName) jdk_29_method_65_code (2 : Nat) (Option.some Jvm.ClassFile.FieldType.int), Jvm.Cond.code ({ cls := "java/lang/Math", name := "min", desc := "(II)I" } : Jvm.MethodName) jdk_29_method_69_code (2 : Nat) (Option.some Jvm.ClassFile.FieldType.int), Jvm.Cond.code ({ cls := "java/lang/StringLatin1", name := "indexOfChar", desc := "([BIII)I" } : Jvm.MethodName) jdk_43_method_23_code (6 : Nat) (Option.some Jvm.ClassFile.FieldType.int), Jvm.Cond.code ({ cls := "java/lang/String", name := "substring", desc := "(II)Ljava/lang/String;" } : Jvm.MethodName) jdk_42_method_92_code (5 : Nat) (Option.some (Jvm.ClassFile.FieldType.object "java/lang/String")), Jvm.Cond.code ({ cls := "java/lang/String", name := "checkBoundsBeginEnd", desc := "(III)V" } : Jvm.MethodName) jdk_42_method_158_code (3 : Nat) (Option.none : Option Jvm.ClassFile.FieldType), Jvm.Cond.code ({ cls := "jdk/internal/util/Preconditions", name := "checkFromToIndex", desc := "(IIILjava/util/function/BiFunction;)I" } : Jvm.MethodName) jdk_41_method_12_code (4 : Nat) (Option.some Jvm.ClassFile.FieldType.int), Jvm.Cond.code ({ cls := "com/example/recaller/recaller/LexerUntilPinLaw", name := "sameSlice", desc := "(Ljava/lang/String;[CII)Z" } : Jvm.MethodName) method_4_code (5 : Nat) (Option.some Jvm.ClassFile.FieldType.boolean), Jvm.Cond.code ({ cls := "java/lang/String", name := "charAt", desc := "(I)C" } : Jvm.MethodName) jdk_42_method_56_code (2 : Nat) (Option.some Jvm.ClassFile.FieldType.char), Jvm.Cond.code ({ cls := "java/lang/StringLatin1", name := "charAt", desc := "([BI)C" } : Jvm.MethodName) jdk_43_method_2_code (2 : Nat) (Option.some Jvm.ClassFile.FieldType.char), Jvm.Cond.code ({ cls := "java/lang/String", name := "checkIndex", desc := "(II)V" } : Jvm.MethodName) jdk_42_method_155_code (2 : Nat) (Option.none : Option Jvm.ClassFile.FieldType), Jvm.Cond.code ({ cls := "jdk/internal/util/Preconditions", name := "checkIndex", desc := "(IILjava/util/function/BiFunction;)I" } : Jvm.MethodName) jdk_41_method_11_code (3 : Nat) (Option.some Jvm.ClassFile.FieldType.int), Jvm.Cond.code ({ cls := "com/example/recaller/recaller/Lexer", name := "getPosition", desc := "()I" } : Jvm.MethodName) prog_21_method_3_code (1 : Nat) (Option.some Jvm.ClassFile.FieldType.int), Jvm.Cond.code ({ cls := "java/lang/StringLatin1", name := "newString", desc := "([BII)Ljava/lang/String;" } : Jvm.MethodName) jdk_43_method_47_code (3 : Nat) (Option.some (Jvm.ClassFile.FieldType.object "java/lang/String")), Jvm.Cond.code ({ cls := "java/util/Arrays", name := "copyOfRange", desc := "([BII)[B" } : Jvm.MethodName) jdk_65_method_132_code (3 : Nat) (Option.some (Jvm.ClassFile.FieldType.array Jvm.ClassFile.FieldType.byte)), Jvm.Cond.code ({ cls := "java/util/Arrays", name := "copyOfRangeByte", desc := "([BII)[B" } : Jvm.MethodName) jdk_65_method_133_code (5 : Nat) (Option.some (Jvm.ClassFile.FieldType.array Jvm.ClassFile.FieldType.byte)), Jvm.Cond.code ({ cls := "java/util/Arrays", name := "checkLength", desc := "(II)V" } : Jvm.MethodName) jdk_65_method_131_code (2 : Nat) (Option.none : Option Jvm.ClassFile.FieldType), Jvm.Cond.code ({ cls := "java/lang/String", name := "<init>", desc := "([BB)V" } : Jvm.MethodName) jdk_42_method_151_code (3 : Nat) (Option.none : Option Jvm.ClassFile.FieldType)]
set_option maxRecDepth 65536 in
theorem codes_eq : words1.filter isCode = codes1 := rfl
theorem w_codes : ∀ c ∈ words1.filter isCode, c.before args0 about1 = true := by
  rw [codes_eq]
  intro c hc
  simp only [codes1, List.mem_cons, List.not_mem_nil, or_false] at hc
  rcases hc with rfl | rfl | rfl | rfl | rfl | rfl | rfl | rfl | rfl | rfl | rfl | rfl | rfl | rfl | rfl | rfl | rfl | rfl | rfl | rfl | rfl | rfl | rfl | rfl | rfl | rfl | rfl | rfl | rfl | rfl | rfl | rfl | rfl | rfl
  · exact w_c0
  · exact w_c1
  · exact w_c2
  · exact w_c3
  · exact w_c4
  · exact w_c5
  · exact w_c6
  · exact w_c7
  · exact w_c8
  · exact w_c9
  · exact w_c10
  · exact w_c11
  · exact w_c12
  · exact w_c13
  · exact w_c14
  · exact w_c15
  · exact w_c16
  · exact w_c17
  · exact w_c18
  · exact w_c19
  · exact w_c20
  · exact w_c21
  · exact w_c22
  · exact w_c23
  · exact w_c24
  · exact w_c25
  · exact w_c26
  · exact w_c27
  · exact w_c28
  · exact w_c29
  · exact w_c30
  · exact w_c31
  · exact w_c32
  · exact w_c33
set_option maxRecDepth 65536 in
theorem w_t1 : (words1.take 24).all (fun c => isCode c || c.before args0 about1) = true := by decide +kernel
set_option maxRecDepth 65536 in
theorem w_t2 : ((words1.drop 24).take 24).all (fun c => isCode c || c.before args0 about1) = true := by decide +kernel
set_option maxRecDepth 65536 in
theorem w_t3 : (((words1.drop 24).drop 24).take 24).all (fun c => isCode c || c.before args0 about1) = true := by decide +kernel
set_option maxRecDepth 65536 in
theorem w_t4 : ((((words1.drop 24).drop 24).drop 24).take 24).all (fun c => isCode c || c.before args0 about1) = true := by decide +kernel
set_option maxRecDepth 65536 in
theorem w_t5 : (((((words1.drop 24).drop 24).drop 24).drop 24).take 24).all (fun c => isCode c || c.before args0 about1) = true := by decide +kernel
set_option maxRecDepth 65536 in
theorem w_t6 : ((((((words1.drop 24).drop 24).drop 24).drop 24).drop 24).take 24).all (fun c => isCode c || c.before args0 about1) = true := by decide +kernel
set_option maxRecDepth 65536 in
theorem w_t7 : ((((((words1.drop 24).drop 24).drop 24).drop 24).drop 24).drop 24).all (fun c => isCode c || c.before args0 about1) = true := by decide +kernel
theorem w_tables : (allAtoms (Jvm.Cond.code x code maxLocals ret :: tables_1)).before args0 about1 = true := by
  rw [allAtoms_all]
  show words1.all (fun c => c.before args0 about1) = true
  refine all_split ?_ w_codes
  rw [← List.take_append_drop 24 words1, List.all_append, w_t1, ← List.take_append_drop 24 (words1.drop 24), List.all_append, w_t2, ← List.take_append_drop 24 ((words1.drop 24).drop 24), List.all_append, w_t3, ← List.take_append_drop 24 (((words1.drop 24).drop 24).drop 24), List.all_append, w_t4, ← List.take_append_drop 24 ((((words1.drop 24).drop 24).drop 24).drop 24), List.all_append, w_t5, ← List.take_append_drop 24 (((((words1.drop 24).drop 24).drop 24).drop 24).drop 24), List.all_append, w_t6, w_t7]
  rfl
set_option maxRecDepth 65536 in
theorem w_rest : rest_1_c.before args0 about1 = true := by decide +kernel
set_option maxRecDepth 65536 in
theorem w_case : (Jvm.Cond.and given_1 narrow_1).before args0 about1 = true := by decide +kernel
set_option maxRecDepth 65536 in
theorem w_consts : constsHeld consts_1 about1 := Jvm.Lit.constsHeldB_iff.mp (by decide +kernel)
theorem w_applies : (headSpec (Jvm.Cond.code x code maxLocals ret :: tables_1) room_1).applies x e0.platform about1 = true :=
  (Spec.applies_iff w_frames).mpr ⟨w_running, w_runnable, w_alone, w_named, w_hears, w_ripe, w_room, w_tables⟩
theorem atStart : AtStart classFile x code maxLocals ret World_1 tables_1 room_1 Calls_1 rest_1 Pre_1 launch0 p0 e0 about1 theMethod args0 below0 :=
  ⟨lists_1, trivial, launch0.admits_env _ _ _, launch0.least_env, fairChoices_fair.cas, fairChoices_fair.clock, w_frames, w_args, w_heap, w_applies, ⟨w_consts, trivial⟩, w_rest, w_case⟩
end start1
theorem witness_1 : WitnessClaimed_1 := ⟨start1.p0, start1.e0, start1.about1, start1.theMethod, start1.args0, start1.below0, start1.atStart⟩
end Jvm.Pilot.@@N@@
