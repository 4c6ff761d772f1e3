import JvmDerived
import JvmDerived.Pilot.@@N@@Statement
import JvmDerived.Pilot.@@N@@Code
set_option linter.unusedVariables false
set_option linter.unusedSimpArgs false
set_option maxRecDepth 65536
@@BLOCK:NumsL.lean.txt@@
namespace Jvm.Pilot.@@N@@
open Jvm Jvm.ClassFile Sem Op Lib Jvm.Free Jvm.Stand Jvm.LawKit Jvm.RoadKit Bundle Jvm.Pilot.@@N@@.Jvm.D Jvm.Free.Fl
/-! ## 1. what is known of a cell -/
abbrev oEnt := Addr × (Cell → Prop)
abbrev oFs := List (String × String × String × Value)
section OwnCells
variable {Z : State} {a0 : Array Value} {h h' : Heap} {L L' : List oEnt} {a : Addr} {P P' : Cell → Prop} {C O n d : String} {v w old : Value} {cell : Cell} {ty : FieldType} {vs : List Value} {sl i j k : Nat}
def oExa (Z : State) (C : String) (cell : Cell) : Prop := ∃ k : Class, Z.vm.findClass C = some cell.cls ∧ Z.vm.classes[cell.cls]? = some k ∧ cell.vm.isStatics = false ∧ (k.kind = .ordinary → cell.slots.size = k.instanceTypes.size)
def oFld (Z : State) (O n d : String) (v : Value) (cell : Cell) : Prop := ∃ (cf : ClassId) (k : Class) (i : Nat) (f : Field), Z.fieldFound? O n d = some (cf, k, i, f) ∧ f.isStatic = false ∧ cell.vm ≠ .unknown ∧ cell.vm.isStatics = false ∧ Z.vm.assignable cell.cls cf = true ∧ cell.slots[f.slot]? = some v
/-- an object of class C, with the values of the fields named (owner, name, descriptor, value) -/
def oObj (Z : State) (a0 : Array Value) (C : String) (fs : oFs) (cell : Cell) : Prop := oExa Z C cell ∧ ∀ t ∈ fs, Laid Z a0 C t.1 t.2.1 t.2.2.1 ∧ (∃ ty, parseFieldDescriptor t.2.2.1 = some ty) ∧ oFld Z t.1 t.2.1 t.2.2.1 t.2.2.2 cell
/-- an array of that kind with just these components -/
def oArr (Z : State) (ty : FieldType) (vs : List Value) (cell : Cell) : Prop := Z.isArrayOf cell ty ∧ cell.vm ≠ .unknown ∧ cell.slots.toList = vs ∧ vs.length < 2 ^ 31 ∧ ∀ v ∈ vs, fits ty v = true
theorem oExa.exa (E : oExa Z C cell) (hc : h[a]? = some cell) : Exa Z h a C := by obtain ⟨k, e1, e2, e3, e4⟩ := E; exact ⟨cell, k, hc, e1, e2, e3, e4⟩
theorem oExa.of (E : Exa Z h a C) (hc : h[a]? = some cell) : oExa Z C cell := by obtain ⟨c', k, h1, r⟩ := E; cases h1.symm.trans hc; exact ⟨k, r⟩
theorem oFld.fld (F : oFld Z O n d v cell) (hc : h[a]? = some cell) : Fld Z h a O n d v := by obtain ⟨cf, k, i, f, r1, r2, r3, r4, r5, r6⟩ := F; exact ⟨cell, cf, k, i, f, hc, r1, r2, r3, r4, r5, r6⟩
theorem oFld.of (F : Fld Z h a O n d v) (hc : h[a]? = some cell) : oFld Z O n d v cell := by obtain ⟨c', cf, k, i, f, h1, r1, r2, r3, r4, r5, r6⟩ := F; cases h1.symm.trans hc; exact ⟨cf, k, i, f, r1, r2, r3, r4, r5, r6⟩
theorem oExa.set (E : oExa Z C cell) : oExa Z C (cell.setSlot sl v) := by
  obtain ⟨k, e1, e2, e3, e4⟩ := E
  exact ⟨k, e1, e2, e3, fun q => by rw [sz_set]; exact e4 q⟩
theorem oFld.hit (F : oFld Z O n d old cell) : oFld Z O n d v (cell.setSlot (Jvm.RoadKit.slotOf Z O n d) v) := by
  obtain ⟨cf, k, i, f, r1, r2, r3, r4, r5, r6⟩ := F
  refine ⟨cf, k, i, f, r1, r2, r3, r4, r5, ?_⟩
  have e : Jvm.RoadKit.slotOf Z O n d = f.slot := by
    show ((Z.fieldFound? O n d).map (fun z => z.2.2.2.slot)).getD 0 = f.slot
    rw [r1]; rfl
  rw [e]
  show (cell.slots.setIfInBounds f.slot v)[f.slot]? = some v
  exact Array.getElem?_setIfInBounds_self_of_lt (Array.getElem?_eq_some_iff.mp r6).1
theorem oFld.miss (F : oFld Z O n d v cell) (q : Jvm.RoadKit.slotOf Z O n d ≠ sl) : oFld Z O n d v (cell.setSlot sl w) := by
  obtain ⟨cf, k, i, f, r1, r2, r3, r4, r5, r6⟩ := F
  have e : Jvm.RoadKit.slotOf Z O n d = f.slot := by
    show ((Z.fieldFound? O n d).map (fun z => z.2.2.2.slot)).getD 0 = f.slot
    rw [r1]; rfl
  rw [e] at q
  refine ⟨cf, k, i, f, r1, r2, r3, r4, r5, ?_⟩
  show (cell.slots.setIfInBounds sl w)[f.slot]? = some v
  rw [Array.getElem?_setIfInBounds_ne (Ne.symm q)]; exact r6
theorem oObj.put {fs : oFs} (B : oObj Z a0 C fs cell) (hj : fs[j]? = some (O, n, d, old)) (hnd : (fs.map fun t => t.2.1).Nodup) : oObj Z a0 C (fs.set j (O, n, d, v)) (cell.setSlot (Jvm.RoadKit.slotOf Z O n d) v) := by
  refine ⟨B.1.set, fun t ht => ?_⟩
  obtain ⟨i, hi⟩ := List.mem_iff_getElem?.mp ht
  obtain ⟨l0, ⟨t0, p0⟩, f0⟩ := B.2 _ (List.mem_of_getElem? hj)
  have hlt : j < fs.length := (List.getElem?_eq_some_iff.mp hj).1
  by_cases e : j = i
  · subst e
    rw [List.getElem?_set_self hlt] at hi
    cases hi
    exact ⟨l0, ⟨t0, p0⟩, f0.hit⟩
  · rw [List.getElem?_set_ne e] at hi
    obtain ⟨l1, ⟨t1, p1⟩, f1⟩ := B.2 t (List.mem_of_getElem? hi)
    refine ⟨l1, ⟨t1, p1⟩, f1.miss (slot_ne l1 l0 (fun q => ?_) p1 p0)⟩
    have hA : (fs.map fun t => t.2.1)[j]? = (fs.map fun t => t.2.1)[i]? := by simp only [List.getElem?_map, hi, hj, Option.map_some]; rw [q]
    exact e ((List.getElem?_inj (by simpa using hlt) hnd).mp hA)
theorem oArr.put (B : oArr Z ty vs cell) (hf : fits ty v = true) : oArr Z ty (vs.set k v) (cell.setSlot k v) := by
  obtain ⟨b1, b2, b3, b4, b5⟩ := B
  refine ⟨b1, b2, by show (cell.slots.setIfInBounds k v).toList = vs.set k v; rw [Array.toList_setIfInBounds, b3], by simpa using b4, fun u hu => ?_⟩
  rcases List.mem_or_eq_of_mem_set hu with q | q
  · exact b5 u q
  · rw [q]; exact hf
theorem oArr.size (B : oArr Z ty vs cell) : cell.slots.size = vs.length := by rw [← B.2.2.1]; simp
theorem oArr.get (B : oArr Z ty vs cell) (hk : vs[k]? = some v) : cell.slots[k]? = some v := by rw [← Array.getElem?_toList, B.2.2.1]; exact hk
theorem oArr.arr (B : oArr Z ty vs cell) (hc : h[a]? = some cell) : Arr Z h a cell ty := ⟨hc, B.1, B.2.1⟩
theorem o_clamp {k : Nat} (q : k < 2 ^ 31) : (Int32.ofNat k).toNatClampNeg = k ∧ ¬ (Int32.ofNat k) < 0 := by
  have e : (Int32.ofNat k).toInt = k := len_toInt q
  refine ⟨by simp only [Int32.toNatClampNeg, e]; rfl, ?_⟩
  rw [Int32.lt_iff_toInt_lt, e]; show ¬ (k : Int) < 0; omega
theorem oArr.inb (B : oArr Z ty vs cell) {x : Int32} (e : x = Int32.ofNat k) (hk : k < vs.length) : x.toNatClampNeg = k ∧ ¬ (x < 0 ∨ cell.slots.size ≤ x.toNatClampNeg) := by
  subst e
  have q := o_clamp (Nat.lt_trans hk B.2.2.2.1)
  refine ⟨q.1, fun z => z.elim q.2 fun y => ?_⟩
  rw [q.1, B.size] at y; omega
/-! ## 2. the heap: the cells that stood stand as they stood; the listed ones are new, no two alike -/
def oHp (Z : State) (h : Heap) (L : List oEnt) : Prop := (Z.heap.size ≤ h.size ∧ ∀ (a : Addr) (c : Cell), Z.heap[a]? = some c → h[a]? = some c) ∧ (L.map fun x => x.1).Nodup ∧ ∀ x ∈ L, Z.heap.size ≤ x.1 ∧ ∃ c : Cell, h[x.1]? = some c ∧ x.2 c
theorem oHp.at_ (H : oHp Z h L) (hi : L[i]? = some (a, P)) : Z.heap.size ≤ a ∧ ∃ c : Cell, h[a]? = some c ∧ P c := H.2.2 _ (List.mem_of_getElem? hi)
theorem oHp.ne {b : Addr} {P2 : Cell → Prop} (H : oHp Z h L) (hi : L[i]? = some (a, P)) (hj : L[j]? = some (b, P2)) (q : i ≠ j) : a ≠ b := fun e => by
  have hA : (L.map fun x => x.1)[i]? = (L.map fun x => x.1)[j]? := by simp only [List.getElem?_map, hi, hj, Option.map_some]; rw [e]
  exact q ((List.getElem?_inj (by have := (List.getElem?_eq_some_iff.mp hi).1; simpa using this) H.2.1).mp hA)
theorem oHp.new (H : oHp Z h L) (E : Ext h h') (hc : h'[h.size]? = some cell) (hP : P cell) : oHp Z h' ((h.size, P) :: L) := by
  refine ⟨⟨Nat.le_trans H.1.1 E.1, fun a c q => E.2 a c (H.1.2 a c q)⟩, ?_, ?_⟩
  · simp only [List.map_cons, List.nodup_cons]
    refine ⟨fun q => ?_, H.2.1⟩
    obtain ⟨x, hx, e⟩ := List.mem_map.mp q
    obtain ⟨-, c, hc', -⟩ := H.2.2 x hx
    have := (Array.getElem?_eq_some_iff.mp hc').1
    have e' : x.1 = h.size := e
    rw [e'] at this
    exact Nat.lt_irrefl _ this
  · intro x hx
    rcases List.mem_cons.mp hx with rfl | hx
    · exact ⟨H.1.1, cell, hc, hP⟩
    · obtain ⟨q, c, hc', hp⟩ := H.2.2 x hx
      exact ⟨q, c, E.2 _ _ hc', hp⟩
theorem oHp.wr (H : oHp Z h L) (hi : L[i]? = some (a, P)) (W : Wr h h' a sl v) (hP : ∀ c : Cell, P c → P' (c.setSlot sl v)) : oHp Z h' (L.set i (a, P')) := by
  obtain ⟨q, c, hc, hp⟩ := H.at_ hi
  have hlt : i < L.length := (List.getElem?_eq_some_iff.mp hi).1
  refine ⟨⟨by rw [W.size]; exact H.1.1, fun b c' hb => ?_⟩, ?_, ?_⟩
  · obtain ⟨cb', e1, -, -, -, e5, -⟩ := wr_at W (H.1.2 b c' hb)
    have ne : b ≠ a := Nat.ne_of_lt (Nat.lt_of_lt_of_le (Array.getElem?_eq_some_iff.mp hb).1 q)
    rw [← e5 ne]; exact e1
  · have : (L.set i (a, P')).map (fun x => x.1) = L.map (fun x => x.1) := by
      apply List.ext_getElem?
      intro k
      by_cases e : i = k
      · subst e; rw [List.getElem?_map, List.getElem?_set_self hlt, List.getElem?_map, hi]; rfl
      · rw [List.getElem?_map, List.getElem?_set_ne e, List.getElem?_map]
    rw [this]; exact H.2.1
  · intro x hx
    obtain ⟨k, hk⟩ := List.mem_iff_getElem?.mp hx
    by_cases e : i = k
    · subst e
      rw [List.getElem?_set_self hlt] at hk
      cases hk
      obtain ⟨c', e1, -, -, -, -, -, e7⟩ := wr_at W hc
      exact ⟨q, _, e1, (e7 rfl).1 ▸ hP c hp⟩
    · rw [List.getElem?_set_ne e] at hk
      obtain ⟨q', c', hc', hp'⟩ := H.2.2 x (List.mem_of_getElem? hk)
      obtain ⟨cb', e1, -, -, -, e5, -⟩ := wr_at W hc'
      have ne : x.1 ≠ a := H.ne (i := k) (j := i) (a := x.1) (P := x.2) hk hi (Ne.symm e)
      exact ⟨q', c', by rw [← e5 ne]; exact e1, hp'⟩
theorem oHp.perm (H : oHp Z h L) (q : L'.Perm L) : oHp Z h L' := ⟨H.1, (q.map _).nodup_iff.mpr H.2.1, fun x hx => H.2.2 x (q.mem_iff.mp hx)⟩
theorem oHp.weak (H : oHp Z h L) (hi : L[i]? = some (a, P)) (hP : ∀ c : Cell, P c → P' c) : oHp Z h (L.set i (a, P')) := by
  have hlt : i < L.length := (List.getElem?_eq_some_iff.mp hi).1
  refine ⟨H.1, ?_, fun x hx => ?_⟩
  · have : (L.set i (a, P')).map (fun x => x.1) = L.map (fun x => x.1) := by
      apply List.ext_getElem?
      intro k
      by_cases e : i = k
      · subst e; rw [List.getElem?_map, List.getElem?_set_self hlt, List.getElem?_map, hi]; rfl
      · rw [List.getElem?_map, List.getElem?_set_ne e, List.getElem?_map]
    rw [this]; exact H.2.1
  · obtain ⟨k, hk⟩ := List.mem_iff_getElem?.mp hx
    by_cases e : i = k
    · subst e
      rw [List.getElem?_set_self hlt] at hk
      cases hk
      obtain ⟨q, c, hc, hp⟩ := H.at_ hi
      exact ⟨q, c, hc, hP c hp⟩
    · rw [List.getElem?_set_ne e] at hk
      exact H.2.2 x (List.mem_of_getElem? hk)
end OwnCells
/-! ## 3. where the run stands; what is left to show -/
def oOn (p : Program) (l : Launch) (e : Env) (R : Room) (s : State) (m : MethodId) (args : Array Value) (below : List Frame) (meth : Method) (c : Code) (Z : State) (cells slots : Nat) (T : State) (L : List oEnt) : Prop := ∃ locs, Stand p l e R s m args below meth c T locs cells slots ∧ Fr Z.heap.size locs ∧ oHp Z T.heap L
def oCx (p : Program) (s : State) (m : MethodId) (meth : Method) (c : Code) (Z : State) (own nm : String) (code : ByteArray) (maxL : Nat) (ret : Option FieldType) : Prop := p.tables.exec = Jvm.exec ∧ Z.Warmed39 s.vm ∧ c.code = code ∧ c.maxLocals = maxL ∧ s.vm.findClass own = some m.cls ∧ meth.name = nm ∧ meth.sig.returnType = ret ∧ meth.locks = false
def oGo (p : Program) (e : Env) (below : List Frame) (K : State → Outcome → Prop) (u : State) : Prop := ∃ s₂ o, Steps p.tables e below u s₂ ∧ s₂.status = .running ∧ Ended s₂ below o ∧ K s₂ o
def oEnd (s Z : State) (Q : Option Value → List oEnt → Prop) (C S : Nat) (t : State) (o : Outcome) : Prop := ∃ v Lc, o = .returned v ∧ (Fr Z.heap.size Lc ∧ ∃ L', oHp Z t.heap L' ∧ Q v L') ∧ FrameEnd s o t Lc C S
/-- the contract of a body: from a heap of which L is known, with these arguments, it returns v and leaves a heap of which L' is known, Q v L' -/
def oMeets (l : Launch) (Z : State) (y : MethodName) (code : ByteArray) (maxL : Nat) (ret : Option FieldType) (rm : Room) (as : List Value) (L : List oEnt) (Q : Option Value → List oEnt → Prop) : Prop :=
  ∀ (ws : List Jvm.Cond) (h0 : Heap), oHp Z h0 L → MetFree l y (head1 (Jvm.Cond.code y code maxL ret :: ws) rm) (fun a U => a = as.toArray ∧ Z.Warmed39 U.vm ∧ U.heap = h0) (fun _ _ _ _ _ => True)
    (fun _ U o U' => ∃ v Lc, o = .returned v ∧ (Fr Z.heap.size Lc ∧ ∃ L', oHp Z U'.heap L' ∧ Q v L') ∧ FrameEnd U o U' Lc rm.cells rm.slots)
section OwnRules
variable {p : Program} {l : Launch} {e : Env} {R : Room} {s : State} {m : MethodId} {args : Array Value} {below : List Frame} {meth : Method} {c : Code} {Z : State} {a0 : Array Value} {cells slots : Nat} {T : State} {L L' : List oEnt}
variable {own nm : String} {code : ByteArray} {maxL : Nat} {ret : Option FieldType} {K : State → Outcome → Prop} {Ls : Array Slot} {st : List Value} {pc pc' pc2 : Nat} {i j k : Nat} {a : Addr} {vs : List Value} {v : Value}
theorem oGo.via {u u' : State} (h : ∀ t, Steps p.tables e below u' t → Steps p.tables e below u t) (g : oGo p e below K u') : oGo p e below K u := by
  obtain ⟨s₂, o, h1, h2⟩ := g; exact ⟨s₂, o, h _ h1, h2⟩
theorem oOn.here (o : oOn p l e R s m args below meth c Z cells slots T L) : At T m c below := by obtain ⟨_, X, -⟩ := o; exact X.here
theorem oOn.perm (o : oOn p l e R s m args below meth c Z cells slots T L) (q : L'.Perm L) : oOn p l e R s m args below meth c Z cells slots T L' := by obtain ⟨lc, X, N, H⟩ := o; exact ⟨lc, X, N, H.perm q⟩
theorem oOn.more (o : oOn p l e R s m args below meth c Z cells slots T L) {c' s' : Nat} (h1 : cells ≤ c') (h2 : slots ≤ s') : oOn p l e R s m args below meth c Z c' s' T L := by obtain ⟨lc, X, N, H⟩ := o; exact ⟨lc, X.more h1 h2, N, H⟩
theorem o_frontp {α : Type} : ∀ (L : List α) (i : Nat) {x : α}, L[i]? = some x → (x :: L.eraseIdx i).Perm L
  | [], i, x, h => by simp at h
  | a :: L, 0, x, h => by cases h; exact List.Perm.refl _
  | a :: L, i + 1, x, h => (List.Perm.swap a x (L.eraseIdx i)).trans ((o_frontp L i h).cons a)
/-- the i-th known cell comes to the front -/
theorem oOn.front (o : oOn p l e R s m args below meth c Z cells slots T L) (i : Nat) {x : oEnt} (hi : L[i]? = some x) : oOn p l e R s m args below meth c Z cells slots T (x :: L.eraseIdx i) := o.perm (o_frontp L i hi)
theorem oOn.weak (o : oOn p l e R s m args below meth c Z cells slots T L) (i : Nat) {P P' : Cell → Prop} (hi : L[i]? = some (a, P)) (hP : ∀ c : Cell, P c → P' c) : oOn p l e R s m args below meth c Z cells slots T (L.set i (a, P')) := by obtain ⟨lc, X, N, H⟩ := o; exact ⟨lc, X, N, H.weak hi hP⟩
theorem oOn.drop (o : oOn p l e R s m args below meth c Z cells slots T L) (q : List.Sublist L' L) : oOn p l e R s m args below meth c Z cells slots T L' := by
  obtain ⟨lc, X, N, H⟩ := o
  exact ⟨lc, X, N, H.1, (q.map _).nodup H.2.1, fun x hx => H.2.2 x (q.subset hx)⟩
theorem oOn.len {ty : FieldType} (o : oOn p l e R s m args below meth c Z cells slots T L) (hi : L[i]? = some (a, oArr Z ty vs)) : vs.length < 2 ^ 31 := by
  obtain ⟨lc, X, N, H⟩ := o
  obtain ⟨-, cl, -, A⟩ := H.at_ hi
  exact A.2.2.2.1
theorem oMeets.of {y : MethodName} {rm : Room} {as : List Value} {Q : Option Value → List oEnt → Prop} (pn : plainFor y = true)
    (body : ∀ p e s m below meth c T, oCx p s m meth c Z y.cls y.name code maxL ret → oOn p l e rm s m as.toArray below meth c Z 0 0 T L → oGo p e below (oEnd s Z Q rm.cells rm.slots) (T.setTop (entryFrame m as.toArray maxL))) : oMeets l Z y code maxL ret rm as L Q := by
  intro ws h0 H
  refine MetFree.of_bodySF pn hisR ?_
  intro p e s m args below meth c s₁ Bd hml0 hP hK
  obtain ⟨rfl, hZ, hh⟩ := hP
  have X0 : Stand p l e rm s m as.toArray below meth c s₁ [] 0 0 := Stand.of_body Bd
  have e0 : s₁.heap = h0 := by rw [← hh, Bd.state]; rfl
  exact body p e s m below meth c s₁ ⟨Bd.exec, hZ, Bd.bytes, hml0, findClass_of_methodNamed Bd.named, (name_of_methodNamed Bd.named Bd.method).1, Bd.returns, Bd.notSynchronized⟩ ⟨[], X0, Fr.nil _, by rw [e0]; exact H⟩
theorem oGo.top {g g' : JFrame} (q : g = g') (k : oGo p e below K (T.setTop g')) : oGo p e below K (T.setTop g) := q ▸ k
theorem g_iload (cx : oCx p s m meth c Z own nm code maxL ret) (o : oOn p l e R s m args below meth c Z cells slots T L) {v : Int32} (hd : decode code pc = .ok (.iload k, 2)) (hp : pc + 2 = pc') (hl : Ls[k]? = some (.val (.int v)))
    (kk : oGo p e below K (T.setTop (mkF m pc' Ls (.int v :: st)))) : oGo p e below K (T.setTop (mkF m pc Ls (st))) := by
  subst hp; exact kk.via fun t q => XS.iload o.here cx.1 rfl (hb cx.2.2.1 hd) hl q
theorem g_iloadN (cx : oCx p s m meth c Z own nm code maxL ret) (o : oOn p l e R s m args below meth c Z cells slots T L) {f : Fin 4} {v : Int32} (hd : decode code pc = .ok (.iload_n f, 1)) (hp : pc + 1 = pc') (hl : Ls[f.val]? = some (.val (.int v)))
    (kk : oGo p e below K (T.setTop (mkF m pc' Ls (.int v :: st)))) : oGo p e below K (T.setTop (mkF m pc Ls (st))) := by
  subst hp; exact kk.via fun t q => XS.iloadN o.here cx.1 rfl (hb cx.2.2.1 hd) hl q
theorem g_istore (cx : oCx p s m meth c Z own nm code maxL ret) (o : oOn p l e R s m args below meth c Z cells slots T L) {v : Int32} {l' : Array Slot} (hd : decode code pc = .ok (.istore k, 2)) (hp : pc + 2 = pc') (hl : storeLocals Ls k (.int v) = some l')
    (kk : oGo p e below K (T.setTop (mkF m pc' l' (st)))) : oGo p e below K (T.setTop (mkF m pc Ls (.int v :: st))) := by
  subst hp; exact kk.via fun t q => XS.istore o.here cx.1 rfl (hb cx.2.2.1 hd) rfl hl q
theorem g_istoreN (cx : oCx p s m meth c Z own nm code maxL ret) (o : oOn p l e R s m args below meth c Z cells slots T L) {f : Fin 4} {v : Int32} {l' : Array Slot} (hd : decode code pc = .ok (.istore_n f, 1)) (hp : pc + 1 = pc') (hl : storeLocals Ls f.val (.int v) = some l')
    (kk : oGo p e below K (T.setTop (mkF m pc' l' (st)))) : oGo p e below K (T.setTop (mkF m pc Ls (.int v :: st))) := by
  subst hp; exact kk.via fun t q => XS.istoreN o.here cx.1 rfl (hb cx.2.2.1 hd) rfl hl q
theorem g_istoreV (cx : oCx p s m meth c Z own nm code maxL ret) (o : oOn p l e R s m args below meth c Z cells slots T L) {v : Int32} (l' : Int32 → Array Slot) (hd : decode code pc = .ok (.istore k, 2)) (hp : pc + 2 = pc') (hl : ∀ w, storeLocals Ls k (.int w) = some (l' w))
    (kk : ∀ w, w = v → oGo p e below K (T.setTop (mkF m pc' (l' w) st))) : oGo p e below K (T.setTop (mkF m pc Ls (.int v :: st))) := by
  exact g_istore cx o hd hp (hl v) (kk v rfl)
theorem g_istoreNV (cx : oCx p s m meth c Z own nm code maxL ret) (o : oOn p l e R s m args below meth c Z cells slots T L) {f : Fin 4} {v : Int32} (l' : Int32 → Array Slot) (hd : decode code pc = .ok (.istore_n f, 1)) (hp : pc + 1 = pc') (hl : ∀ w, storeLocals Ls f.val (.int w) = some (l' w))
    (kk : ∀ w, w = v → oGo p e below K (T.setTop (mkF m pc' (l' w) st))) : oGo p e below K (T.setTop (mkF m pc Ls (.int v :: st))) := by
  exact g_istoreN cx o hd hp (hl v) (kk v rfl)
theorem g_lload (cx : oCx p s m meth c Z own nm code maxL ret) (o : oOn p l e R s m args below meth c Z cells slots T L) {v : Int64} (hd : decode code pc = .ok (.lload k, 2)) (hp : pc + 2 = pc') (hl : Ls[k]? = some (.val (.long v)))
    (kk : oGo p e below K (T.setTop (mkF m pc' Ls (.long v :: st)))) : oGo p e below K (T.setTop (mkF m pc Ls (st))) := by
  subst hp; exact kk.via fun t q => XT.lload o.here cx.1 rfl (hb cx.2.2.1 hd) hl q
theorem g_lloadN (cx : oCx p s m meth c Z own nm code maxL ret) (o : oOn p l e R s m args below meth c Z cells slots T L) {f : Fin 4} {v : Int64} (hd : decode code pc = .ok (.lload_n f, 1)) (hp : pc + 1 = pc') (hl : Ls[f.val]? = some (.val (.long v)))
    (kk : oGo p e below K (T.setTop (mkF m pc' Ls (.long v :: st)))) : oGo p e below K (T.setTop (mkF m pc Ls (st))) := by
  subst hp; exact kk.via fun t q => XT.lloadN o.here cx.1 rfl (hb cx.2.2.1 hd) hl q
theorem g_lstore (cx : oCx p s m meth c Z own nm code maxL ret) (o : oOn p l e R s m args below meth c Z cells slots T L) {v : Int64} {l' : Array Slot} (hd : decode code pc = .ok (.lstore k, 2)) (hp : pc + 2 = pc') (hl : storeLocals Ls k (.long v) = some l')
    (kk : oGo p e below K (T.setTop (mkF m pc' l' (st)))) : oGo p e below K (T.setTop (mkF m pc Ls (.long v :: st))) := by
  subst hp; exact kk.via fun t q => XT.lstore o.here cx.1 rfl (hb cx.2.2.1 hd) rfl hl q
theorem g_lstoreN (cx : oCx p s m meth c Z own nm code maxL ret) (o : oOn p l e R s m args below meth c Z cells slots T L) {f : Fin 4} {v : Int64} {l' : Array Slot} (hd : decode code pc = .ok (.lstore_n f, 1)) (hp : pc + 1 = pc') (hl : storeLocals Ls f.val (.long v) = some l')
    (kk : oGo p e below K (T.setTop (mkF m pc' l' (st)))) : oGo p e below K (T.setTop (mkF m pc Ls (.long v :: st))) := by
  subst hp; exact kk.via fun t q => XT.lstoreN o.here cx.1 rfl (hb cx.2.2.1 hd) rfl hl q
theorem g_lstoreV (cx : oCx p s m meth c Z own nm code maxL ret) (o : oOn p l e R s m args below meth c Z cells slots T L) {v : Int64} (l' : Int64 → Array Slot) (hd : decode code pc = .ok (.lstore k, 2)) (hp : pc + 2 = pc') (hl : ∀ w, storeLocals Ls k (.long w) = some (l' w))
    (kk : ∀ w, w = v → oGo p e below K (T.setTop (mkF m pc' (l' w) st))) : oGo p e below K (T.setTop (mkF m pc Ls (.long v :: st))) := by
  exact g_lstore cx o hd hp (hl v) (kk v rfl)
theorem g_lstoreNV (cx : oCx p s m meth c Z own nm code maxL ret) (o : oOn p l e R s m args below meth c Z cells slots T L) {f : Fin 4} {v : Int64} (l' : Int64 → Array Slot) (hd : decode code pc = .ok (.lstore_n f, 1)) (hp : pc + 1 = pc') (hl : ∀ w, storeLocals Ls f.val (.long w) = some (l' w))
    (kk : ∀ w, w = v → oGo p e below K (T.setTop (mkF m pc' (l' w) st))) : oGo p e below K (T.setTop (mkF m pc Ls (.long v :: st))) := by
  exact g_lstoreN cx o hd hp (hl v) (kk v rfl)
theorem g_dload (cx : oCx p s m meth c Z own nm code maxL ret) (o : oOn p l e R s m args below meth c Z cells slots T L) {v : UInt64} (hd : decode code pc = .ok (.dload k, 2)) (hp : pc + 2 = pc') (hl : Ls[k]? = some (.val (.double v)))
    (kk : oGo p e below K (T.setTop (mkF m pc' Ls (.double v :: st)))) : oGo p e below K (T.setTop (mkF m pc Ls (st))) := by
  subst hp; exact kk.via fun t q => XS.dload o.here cx.1 rfl (hb cx.2.2.1 hd) hl q
theorem g_dloadN (cx : oCx p s m meth c Z own nm code maxL ret) (o : oOn p l e R s m args below meth c Z cells slots T L) {f : Fin 4} {v : UInt64} (hd : decode code pc = .ok (.dload_n f, 1)) (hp : pc + 1 = pc') (hl : Ls[f.val]? = some (.val (.double v)))
    (kk : oGo p e below K (T.setTop (mkF m pc' Ls (.double v :: st)))) : oGo p e below K (T.setTop (mkF m pc Ls (st))) := by
  subst hp; exact kk.via fun t q => XS.dloadN o.here cx.1 rfl (hb cx.2.2.1 hd) hl q
theorem g_dstore (cx : oCx p s m meth c Z own nm code maxL ret) (o : oOn p l e R s m args below meth c Z cells slots T L) {v : UInt64} {l' : Array Slot} (hd : decode code pc = .ok (.dstore k, 2)) (hp : pc + 2 = pc') (hl : storeLocals Ls k (.double v) = some l')
    (kk : oGo p e below K (T.setTop (mkF m pc' l' (st)))) : oGo p e below K (T.setTop (mkF m pc Ls (.double v :: st))) := by
  subst hp; exact kk.via fun t q => XS.dstore o.here cx.1 rfl (hb cx.2.2.1 hd) rfl hl q
theorem g_dstoreN (cx : oCx p s m meth c Z own nm code maxL ret) (o : oOn p l e R s m args below meth c Z cells slots T L) {f : Fin 4} {v : UInt64} {l' : Array Slot} (hd : decode code pc = .ok (.dstore_n f, 1)) (hp : pc + 1 = pc') (hl : storeLocals Ls f.val (.double v) = some l')
    (kk : oGo p e below K (T.setTop (mkF m pc' l' (st)))) : oGo p e below K (T.setTop (mkF m pc Ls (.double v :: st))) := by
  subst hp; exact kk.via fun t q => XS.dstoreN o.here cx.1 rfl (hb cx.2.2.1 hd) rfl hl q
theorem g_dstoreV (cx : oCx p s m meth c Z own nm code maxL ret) (o : oOn p l e R s m args below meth c Z cells slots T L) {v : UInt64} (l' : UInt64 → Array Slot) (hd : decode code pc = .ok (.dstore k, 2)) (hp : pc + 2 = pc') (hl : ∀ w, storeLocals Ls k (.double w) = some (l' w))
    (kk : ∀ w, w = v → oGo p e below K (T.setTop (mkF m pc' (l' w) st))) : oGo p e below K (T.setTop (mkF m pc Ls (.double v :: st))) := by
  exact g_dstore cx o hd hp (hl v) (kk v rfl)
theorem g_dstoreNV (cx : oCx p s m meth c Z own nm code maxL ret) (o : oOn p l e R s m args below meth c Z cells slots T L) {f : Fin 4} {v : UInt64} (l' : UInt64 → Array Slot) (hd : decode code pc = .ok (.dstore_n f, 1)) (hp : pc + 1 = pc') (hl : ∀ w, storeLocals Ls f.val (.double w) = some (l' w))
    (kk : ∀ w, w = v → oGo p e below K (T.setTop (mkF m pc' (l' w) st))) : oGo p e below K (T.setTop (mkF m pc Ls (.double v :: st))) := by
  exact g_dstoreN cx o hd hp (hl v) (kk v rfl)
theorem g_aload (cx : oCx p s m meth c Z own nm code maxL ret) (o : oOn p l e R s m args below meth c Z cells slots T L) {v : Value} (hd : decode code pc = .ok (.aload k, 2)) (hp : pc + 2 = pc') (hl : Ls[k]? = some (.val v)) (hv : v.isRef = true)
    (kk : oGo p e below K (T.setTop (mkF m pc' Ls (v :: st)))) : oGo p e below K (T.setTop (mkF m pc Ls (st))) := by
  subst hp; exact kk.via fun t q => XS.aload o.here cx.1 rfl (hb cx.2.2.1 hd) hl hv q
theorem g_aloadN (cx : oCx p s m meth c Z own nm code maxL ret) (o : oOn p l e R s m args below meth c Z cells slots T L) {f : Fin 4} {v : Value} (hd : decode code pc = .ok (.aload_n f, 1)) (hp : pc + 1 = pc') (hl : Ls[f.val]? = some (.val v)) (hv : v.isRef = true)
    (kk : oGo p e below K (T.setTop (mkF m pc' Ls (v :: st)))) : oGo p e below K (T.setTop (mkF m pc Ls (st))) := by
  subst hp; exact kk.via fun t q => XS.aloadN o.here cx.1 rfl (hb cx.2.2.1 hd) hl hv q
theorem g_astore (cx : oCx p s m meth c Z own nm code maxL ret) (o : oOn p l e R s m args below meth c Z cells slots T L) {v : Value} {l' : Array Slot} (hd : decode code pc = .ok (.astore k, 2)) (hp : pc + 2 = pc') (hv : v.isRef = true) (hl : storeLocals Ls k v = some l')
    (kk : oGo p e below K (T.setTop (mkF m pc' l' (st)))) : oGo p e below K (T.setTop (mkF m pc Ls (v :: st))) := by
  subst hp; exact kk.via fun t q => XS.astore o.here cx.1 rfl (hb cx.2.2.1 hd) rfl hv hl q
theorem g_astoreN (cx : oCx p s m meth c Z own nm code maxL ret) (o : oOn p l e R s m args below meth c Z cells slots T L) {f : Fin 4} {v : Value} {l' : Array Slot} (hd : decode code pc = .ok (.astore_n f, 1)) (hp : pc + 1 = pc') (hv : v.isRef = true) (hl : storeLocals Ls f.val v = some l')
    (kk : oGo p e below K (T.setTop (mkF m pc' l' (st)))) : oGo p e below K (T.setTop (mkF m pc Ls (v :: st))) := by
  subst hp; exact kk.via fun t q => XS.astoreN o.here cx.1 rfl (hb cx.2.2.1 hd) rfl hv hl q
theorem g_iadd (cx : oCx p s m meth c Z own nm code maxL ret) (o : oOn p l e R s m args below meth c Z cells slots T L) {x y : Int32} (hd : decode code pc = .ok (.iadd, 1)) (hp : pc + 1 = pc') 
    (kk : oGo p e below K (T.setTop (mkF m pc' Ls (.int (x + y) :: st)))) : oGo p e below K (T.setTop (mkF m pc Ls (.int y :: .int x :: st))) := by
  subst hp; exact kk.via fun t q => XS.iadd o.here cx.1 rfl (hb cx.2.2.1 hd) rfl q
theorem g_isub (cx : oCx p s m meth c Z own nm code maxL ret) (o : oOn p l e R s m args below meth c Z cells slots T L) {x y : Int32} (hd : decode code pc = .ok (.isub, 1)) (hp : pc + 1 = pc') 
    (kk : oGo p e below K (T.setTop (mkF m pc' Ls (.int (x - y) :: st)))) : oGo p e below K (T.setTop (mkF m pc Ls (.int y :: .int x :: st))) := by
  subst hp; exact kk.via fun t q => XS.isub o.here cx.1 rfl (hb cx.2.2.1 hd) rfl q
theorem g_imul (cx : oCx p s m meth c Z own nm code maxL ret) (o : oOn p l e R s m args below meth c Z cells slots T L) {x y : Int32} (hd : decode code pc = .ok (.imul, 1)) (hp : pc + 1 = pc') 
    (kk : oGo p e below K (T.setTop (mkF m pc' Ls (.int (x * y) :: st)))) : oGo p e below K (T.setTop (mkF m pc Ls (.int y :: .int x :: st))) := by
  subst hp; exact kk.via fun t q => XS.imul o.here cx.1 rfl (hb cx.2.2.1 hd) rfl q
theorem g_iand (cx : oCx p s m meth c Z own nm code maxL ret) (o : oOn p l e R s m args below meth c Z cells slots T L) {x y : Int32} (hd : decode code pc = .ok (.iand, 1)) (hp : pc + 1 = pc') 
    (kk : oGo p e below K (T.setTop (mkF m pc' Ls (.int (x &&& y) :: st)))) : oGo p e below K (T.setTop (mkF m pc Ls (.int y :: .int x :: st))) := by
  subst hp; exact kk.via fun t q => XS.iand o.here cx.1 rfl (hb cx.2.2.1 hd) rfl q
theorem g_ior (cx : oCx p s m meth c Z own nm code maxL ret) (o : oOn p l e R s m args below meth c Z cells slots T L) {x y : Int32} (hd : decode code pc = .ok (.ior, 1)) (hp : pc + 1 = pc') 
    (kk : oGo p e below K (T.setTop (mkF m pc' Ls (.int (x ||| y) :: st)))) : oGo p e below K (T.setTop (mkF m pc Ls (.int y :: .int x :: st))) := by
  subst hp; exact kk.via fun t q => XT.ior o.here cx.1 rfl (hb cx.2.2.1 hd) rfl q
theorem g_ixor (cx : oCx p s m meth c Z own nm code maxL ret) (o : oOn p l e R s m args below meth c Z cells slots T L) {x y : Int32} (hd : decode code pc = .ok (.ixor, 1)) (hp : pc + 1 = pc') 
    (kk : oGo p e below K (T.setTop (mkF m pc' Ls (.int (x ^^^ y) :: st)))) : oGo p e below K (T.setTop (mkF m pc Ls (.int y :: .int x :: st))) := by
  subst hp; exact kk.via fun t q => XT.ixor o.here cx.1 rfl (hb cx.2.2.1 hd) rfl q
theorem g_ishl (cx : oCx p s m meth c Z own nm code maxL ret) (o : oOn p l e R s m args below meth c Z cells slots T L) {x y : Int32} (hd : decode code pc = .ok (.ishl, 1)) (hp : pc + 1 = pc') 
    (kk : oGo p e below K (T.setTop (mkF m pc' Ls (.int (x <<< (y &&& 31)) :: st)))) : oGo p e below K (T.setTop (mkF m pc Ls (.int y :: .int x :: st))) := by
  subst hp; exact kk.via fun t q => XT.ishl o.here cx.1 rfl (hb cx.2.2.1 hd) rfl q
theorem g_ishr (cx : oCx p s m meth c Z own nm code maxL ret) (o : oOn p l e R s m args below meth c Z cells slots T L) {x y : Int32} (hd : decode code pc = .ok (.ishr, 1)) (hp : pc + 1 = pc') 
    (kk : oGo p e below K (T.setTop (mkF m pc' Ls (.int (x >>> (y &&& 31)) :: st)))) : oGo p e below K (T.setTop (mkF m pc Ls (.int y :: .int x :: st))) := by
  subst hp; exact kk.via fun t q => XT.ishr o.here cx.1 rfl (hb cx.2.2.1 hd) rfl q
theorem g_iushr (cx : oCx p s m meth c Z own nm code maxL ret) (o : oOn p l e R s m args below meth c Z cells slots T L) {x y : Int32} (hd : decode code pc = .ok (.iushr, 1)) (hp : pc + 1 = pc') 
    (kk : oGo p e below K (T.setTop (mkF m pc' Ls (.int (XT.ushr x y) :: st)))) : oGo p e below K (T.setTop (mkF m pc Ls (.int y :: .int x :: st))) := by
  subst hp; exact kk.via fun t q => XT.iushr o.here cx.1 rfl (hb cx.2.2.1 hd) rfl q
theorem g_ladd (cx : oCx p s m meth c Z own nm code maxL ret) (o : oOn p l e R s m args below meth c Z cells slots T L) {x y : Int64} (hd : decode code pc = .ok (.ladd, 1)) (hp : pc + 1 = pc') 
    (kk : oGo p e below K (T.setTop (mkF m pc' Ls (.long (x + y) :: st)))) : oGo p e below K (T.setTop (mkF m pc Ls (.long y :: .long x :: st))) := by
  subst hp; exact kk.via fun t q => XT.ladd o.here cx.1 rfl (hb cx.2.2.1 hd) rfl q
theorem g_lsub (cx : oCx p s m meth c Z own nm code maxL ret) (o : oOn p l e R s m args below meth c Z cells slots T L) {x y : Int64} (hd : decode code pc = .ok (.lsub, 1)) (hp : pc + 1 = pc') 
    (kk : oGo p e below K (T.setTop (mkF m pc' Ls (.long (x - y) :: st)))) : oGo p e below K (T.setTop (mkF m pc Ls (.long y :: .long x :: st))) := by
  subst hp; exact kk.via fun t q => XT.lsub o.here cx.1 rfl (hb cx.2.2.1 hd) rfl q
theorem g_lmul (cx : oCx p s m meth c Z own nm code maxL ret) (o : oOn p l e R s m args below meth c Z cells slots T L) {x y : Int64} (hd : decode code pc = .ok (.lmul, 1)) (hp : pc + 1 = pc') 
    (kk : oGo p e below K (T.setTop (mkF m pc' Ls (.long (x * y) :: st)))) : oGo p e below K (T.setTop (mkF m pc Ls (.long y :: .long x :: st))) := by
  subst hp; exact kk.via fun t q => XT.lmul o.here cx.1 rfl (hb cx.2.2.1 hd) rfl q
theorem g_land (cx : oCx p s m meth c Z own nm code maxL ret) (o : oOn p l e R s m args below meth c Z cells slots T L) {x y : Int64} (hd : decode code pc = .ok (.land, 1)) (hp : pc + 1 = pc') 
    (kk : oGo p e below K (T.setTop (mkF m pc' Ls (.long (x &&& y) :: st)))) : oGo p e below K (T.setTop (mkF m pc Ls (.long y :: .long x :: st))) := by
  subst hp; exact kk.via fun t q => XT.land o.here cx.1 rfl (hb cx.2.2.1 hd) rfl q
theorem g_lor (cx : oCx p s m meth c Z own nm code maxL ret) (o : oOn p l e R s m args below meth c Z cells slots T L) {x y : Int64} (hd : decode code pc = .ok (.lor, 1)) (hp : pc + 1 = pc') 
    (kk : oGo p e below K (T.setTop (mkF m pc' Ls (.long (x ||| y) :: st)))) : oGo p e below K (T.setTop (mkF m pc Ls (.long y :: .long x :: st))) := by
  subst hp; exact kk.via fun t q => XT.lor o.here cx.1 rfl (hb cx.2.2.1 hd) rfl q
theorem g_lxor (cx : oCx p s m meth c Z own nm code maxL ret) (o : oOn p l e R s m args below meth c Z cells slots T L) {x y : Int64} (hd : decode code pc = .ok (.lxor, 1)) (hp : pc + 1 = pc') 
    (kk : oGo p e below K (T.setTop (mkF m pc' Ls (.long (x ^^^ y) :: st)))) : oGo p e below K (T.setTop (mkF m pc Ls (.long y :: .long x :: st))) := by
  subst hp; exact kk.via fun t q => XT.lxor o.here cx.1 rfl (hb cx.2.2.1 hd) rfl q
theorem g_idiv (cx : oCx p s m meth c Z own nm code maxL ret) (o : oOn p l e R s m args below meth c Z cells slots T L) {x y : Int32} (hd : decode code pc = .ok (.idiv, 1)) (hp : pc + 1 = pc') (hy : y ≠ 0)
    (kk : oGo p e below K (T.setTop (mkF m pc' Ls (.int (x / y) :: st)))) : oGo p e below K (T.setTop (mkF m pc Ls (.int y :: .int x :: st))) := by
  subst hp; exact kk.via fun t q => XS.idiv o.here cx.1 rfl (hb cx.2.2.1 hd) rfl hy q
theorem g_irem (cx : oCx p s m meth c Z own nm code maxL ret) (o : oOn p l e R s m args below meth c Z cells slots T L) {x y : Int32} (hd : decode code pc = .ok (.irem, 1)) (hp : pc + 1 = pc') (hy : y ≠ 0)
    (kk : oGo p e below K (T.setTop (mkF m pc' Ls (.int (x % y) :: st)))) : oGo p e below K (T.setTop (mkF m pc Ls (.int y :: .int x :: st))) := by
  subst hp; obtain ⟨_, X, -⟩ := o; exact kk.via fun t q => iremM X cx.1 rfl (hb cx.2.2.1 hd) rfl hy q
theorem g_ldiv (cx : oCx p s m meth c Z own nm code maxL ret) (o : oOn p l e R s m args below meth c Z cells slots T L) {x y : Int64} (hd : decode code pc = .ok (.ldiv, 1)) (hp : pc + 1 = pc') (hy : y ≠ 0)
    (kk : oGo p e below K (T.setTop (mkF m pc' Ls (.long (x / y) :: st)))) : oGo p e below K (T.setTop (mkF m pc Ls (.long y :: .long x :: st))) := by
  subst hp; exact kk.via fun t q => XT.ldiv o.here cx.1 rfl (hb cx.2.2.1 hd) rfl hy q
theorem g_lrem (cx : oCx p s m meth c Z own nm code maxL ret) (o : oOn p l e R s m args below meth c Z cells slots T L) {x y : Int64} (hd : decode code pc = .ok (.lrem, 1)) (hp : pc + 1 = pc') (hy : y ≠ 0)
    (kk : oGo p e below K (T.setTop (mkF m pc' Ls (.long (x - (x / y) * y) :: st)))) : oGo p e below K (T.setTop (mkF m pc Ls (.long y :: .long x :: st))) := by
  subst hp; exact kk.via fun t q => XT.lrem o.here cx.1 rfl (hb cx.2.2.1 hd) rfl hy q
theorem g_ineg (cx : oCx p s m meth c Z own nm code maxL ret) (o : oOn p l e R s m args below meth c Z cells slots T L) {x : Int32} (hd : decode code pc = .ok (.ineg, 1)) (hp : pc + 1 = pc') 
    (kk : oGo p e below K (T.setTop (mkF m pc' Ls (.int (-x) :: st)))) : oGo p e below K (T.setTop (mkF m pc Ls (.int x :: st))) := by
  subst hp; exact kk.via fun t q => XS.ineg o.here cx.1 rfl (hb cx.2.2.1 hd) rfl q
theorem g_lneg (cx : oCx p s m meth c Z own nm code maxL ret) (o : oOn p l e R s m args below meth c Z cells slots T L) {x : Int64} (hd : decode code pc = .ok (.lneg, 1)) (hp : pc + 1 = pc') 
    (kk : oGo p e below K (T.setTop (mkF m pc' Ls (.long (-x) :: st)))) : oGo p e below K (T.setTop (mkF m pc Ls (.long x :: st))) := by
  subst hp; exact kk.via fun t q => XT.lneg o.here cx.1 rfl (hb cx.2.2.1 hd) rfl q
theorem g_i2l (cx : oCx p s m meth c Z own nm code maxL ret) (o : oOn p l e R s m args below meth c Z cells slots T L) {x : Int32} (hd : decode code pc = .ok (.i2l, 1)) (hp : pc + 1 = pc') 
    (kk : oGo p e below K (T.setTop (mkF m pc' Ls (.long x.toInt64 :: st)))) : oGo p e below K (T.setTop (mkF m pc Ls (.int x :: st))) := by
  subst hp; exact kk.via fun t q => XT.i2l o.here cx.1 rfl (hb cx.2.2.1 hd) rfl q
theorem g_l2i (cx : oCx p s m meth c Z own nm code maxL ret) (o : oOn p l e R s m args below meth c Z cells slots T L) {x : Int64} (hd : decode code pc = .ok (.l2i, 1)) (hp : pc + 1 = pc') 
    (kk : oGo p e below K (T.setTop (mkF m pc' Ls (.int x.toInt32 :: st)))) : oGo p e below K (T.setTop (mkF m pc Ls (.long x :: st))) := by
  subst hp; exact kk.via fun t q => XT.l2i o.here cx.1 rfl (hb cx.2.2.1 hd) rfl q
theorem g_lcmp (cx : oCx p s m meth c Z own nm code maxL ret) (o : oOn p l e R s m args below meth c Z cells slots T L) {x y : Int64} (hd : decode code pc = .ok (.lcmp, 1)) (hp : pc + 1 = pc') 
    (kk : oGo p e below K (T.setTop (mkF m pc' Ls (.int (XT.cmpL x y) :: st)))) : oGo p e below K (T.setTop (mkF m pc Ls (.long y :: .long x :: st))) := by
  subst hp; exact kk.via fun t q => XT.lcmp o.here cx.1 rfl (hb cx.2.2.1 hd) rfl q
theorem g_iconst (cx : oCx p s m meth c Z own nm code maxL ret) (o : oOn p l e R s m args below meth c Z cells slots T L) {q : Int} (z : Int32) (hd : decode code pc = .ok (.iconst q, 1)) (hp : pc + 1 = pc') (hz : Int32.ofInt q = z)
    (kk : oGo p e below K (T.setTop (mkF m pc' Ls (.int z :: st)))) : oGo p e below K (T.setTop (mkF m pc Ls st)) := by
  subst hp hz; exact kk.via fun t r => XS.iconst o.here cx.1 rfl (hb cx.2.2.1 hd) r
theorem g_bipush (cx : oCx p s m meth c Z own nm code maxL ret) (o : oOn p l e R s m args below meth c Z cells slots T L) {q : Int} (z : Int32) (hd : decode code pc = .ok (.bipush q, 2)) (hp : pc + 2 = pc') (hz : (Int8.ofInt q).toInt32 = z)
    (kk : oGo p e below K (T.setTop (mkF m pc' Ls (.int z :: st)))) : oGo p e below K (T.setTop (mkF m pc Ls st)) := by
  subst hp hz; exact kk.via fun t r => XS.bipush o.here cx.1 rfl (hb cx.2.2.1 hd) r
theorem g_sipush (cx : oCx p s m meth c Z own nm code maxL ret) (o : oOn p l e R s m args below meth c Z cells slots T L) {q : Int} (z : Int32) (hd : decode code pc = .ok (.sipush q, 3)) (hp : pc + 3 = pc') (hz : (Int16.ofInt q).toInt32 = z)
    (kk : oGo p e below K (T.setTop (mkF m pc' Ls (.int z :: st)))) : oGo p e below K (T.setTop (mkF m pc Ls st)) := by
  subst hp hz; exact kk.via fun t r => XS.sipush o.here cx.1 rfl (hb cx.2.2.1 hd) r
theorem g_lconst (cx : oCx p s m meth c Z own nm code maxL ret) (o : oOn p l e R s m args below meth c Z cells slots T L) {f : Fin 2} (z : Int64) (hd : decode code pc = .ok (.lconst f, 1)) (hp : pc + 1 = pc') (hz : Int64.ofNat f = z)
    (kk : oGo p e below K (T.setTop (mkF m pc' Ls (.long z :: st)))) : oGo p e below K (T.setTop (mkF m pc Ls st)) := by
  subst hp hz; exact kk.via fun t r => XT.lconst o.here cx.1 rfl (hb cx.2.2.1 hd) r
theorem g_dconst0 (cx : oCx p s m meth c Z own nm code maxL ret) (o : oOn p l e R s m args below meth c Z cells slots T L) (hd : decode code pc = .ok (.dconst 0, 1)) (hp : pc + 1 = pc')
    (kk : oGo p e below K (T.setTop (mkF m pc' Ls (.double FP.dconst0 :: st)))) : oGo p e below K (T.setTop (mkF m pc Ls st)) := by
  subst hp; exact kk.via fun t r => XS.dconst0 o.here cx.1 rfl (hb cx.2.2.1 hd) rfl r
theorem g_dconst1 (cx : oCx p s m meth c Z own nm code maxL ret) (o : oOn p l e R s m args below meth c Z cells slots T L) (hd : decode code pc = .ok (.dconst 1, 1)) (hp : pc + 1 = pc')
    (kk : oGo p e below K (T.setTop (mkF m pc' Ls (.double FP.dconst1 :: st)))) : oGo p e below K (T.setTop (mkF m pc Ls st)) := by
  subst hp; exact kk.via fun t r => XS.dconst1 o.here cx.1 rfl (hb cx.2.2.1 hd) rfl r
theorem g_aconst_null (cx : oCx p s m meth c Z own nm code maxL ret) (o : oOn p l e R s m args below meth c Z cells slots T L)  (hd : decode code pc = .ok (.aconst_null, 1)) (hp : pc + 1 = pc') 
    (kk : oGo p e below K (T.setTop (mkF m pc' Ls (.null :: st)))) : oGo p e below K (T.setTop (mkF m pc Ls (st))) := by
  subst hp; exact kk.via fun t q => XS.aconstNull o.here cx.1 rfl (hb cx.2.2.1 hd)  q
theorem g_dup (cx : oCx p s m meth c Z own nm code maxL ret) (o : oOn p l e R s m args below meth c Z cells slots T L) {v : Value} (hd : decode code pc = .ok (.dup, 1)) (hp : pc + 1 = pc') (hc : v.category = 1)
    (kk : oGo p e below K (T.setTop (mkF m pc' Ls (v :: v :: st)))) : oGo p e below K (T.setTop (mkF m pc Ls (v :: st))) := by
  subst hp; exact kk.via fun t q => XS.dup o.here cx.1 rfl (hb cx.2.2.1 hd) rfl hc q
theorem g_pop (cx : oCx p s m meth c Z own nm code maxL ret) (o : oOn p l e R s m args below meth c Z cells slots T L) {v : Value} (hd : decode code pc = .ok (.pop, 1)) (hp : pc + 1 = pc') (hc : v.category = 1)
    (kk : oGo p e below K (T.setTop (mkF m pc' Ls (st)))) : oGo p e below K (T.setTop (mkF m pc Ls (v :: st))) := by
  subst hp; exact kk.via fun t q => XT.pop o.here cx.1 rfl (hb cx.2.2.1 hd) rfl hc q
theorem g_dup_x1 (cx : oCx p s m meth c Z own nm code maxL ret) (o : oOn p l e R s m args below meth c Z cells slots T L) {v w : Value} (hd : decode code pc = .ok (.dup_x1, 1)) (hp : pc + 1 = pc') (hc : v.category = 1) (hc' : w.category = 1)
    (kk : oGo p e below K (T.setTop (mkF m pc' Ls (v :: w :: v :: st)))) : oGo p e below K (T.setTop (mkF m pc Ls (v :: w :: st))) := by
  subst hp; exact kk.via fun t q => XT.dupX1 o.here cx.1 rfl (hb cx.2.2.1 hd) rfl hc hc' q
theorem g_dup2 (cx : oCx p s m meth c Z own nm code maxL ret) (o : oOn p l e R s m args below meth c Z cells slots T L) {v w : Value} (hd : decode code pc = .ok (.dup2, 1)) (hp : pc + 1 = pc') (hc : v.category = 1) (hc' : w.category = 1)
    (kk : oGo p e below K (T.setTop (mkF m pc' Ls (v :: w :: v :: w :: st)))) : oGo p e below K (T.setTop (mkF m pc Ls (v :: w :: st))) := by
  subst hp; exact kk.via fun t q => XT.dup2 o.here cx.1 rfl (hb cx.2.2.1 hd) rfl hc hc' q
theorem g_dup2L (cx : oCx p s m meth c Z own nm code maxL ret) (o : oOn p l e R s m args below meth c Z cells slots T L) {x : Int64} (hd : decode code pc = .ok (.dup2, 1)) (hp : pc + 1 = pc') 
    (kk : oGo p e below K (T.setTop (mkF m pc' Ls (.long x :: .long x :: st)))) : oGo p e below K (T.setTop (mkF m pc Ls (.long x :: st))) := by
  subst hp; exact kk.via fun t q => XT.dup2L o.here cx.1 rfl (hb cx.2.2.1 hd) rfl q
theorem g_i2d (cx : oCx p s m meth c Z own nm code maxL ret) (o : oOn p l e R s m args below meth c Z cells slots T L) {x : Int32} (hd : decode code pc = .ok (.i2d, 1)) (hp : pc + 1 = pc') 
    (kk : oGo p e below K (T.setTop (mkF m pc' Ls (.double (FP.i2d x) :: st)))) : oGo p e below K (T.setTop (mkF m pc Ls (.int x :: st))) := by
  subst hp; exact kk.via fun t q => XS.i2dS o.here cx.1 rfl (hb cx.2.2.1 hd) rfl rfl q
theorem g_l2d (cx : oCx p s m meth c Z own nm code maxL ret) (o : oOn p l e R s m args below meth c Z cells slots T L) {x : Int64} (hd : decode code pc = .ok (.l2d, 1)) (hp : pc + 1 = pc') 
    (kk : oGo p e below K (T.setTop (mkF m pc' Ls (.double (FP.l2d x) :: st)))) : oGo p e below K (T.setTop (mkF m pc Ls (.long x :: st))) := by
  subst hp; exact kk.via fun t q => XS.l2dS o.here cx.1 rfl (hb cx.2.2.1 hd) rfl rfl q
theorem g_d2l (cx : oCx p s m meth c Z own nm code maxL ret) (o : oOn p l e R s m args below meth c Z cells slots T L) {x : UInt64} (hd : decode code pc = .ok (.d2l, 1)) (hp : pc + 1 = pc') 
    (kk : oGo p e below K (T.setTop (mkF m pc' Ls (.long (FP.d2l x) :: st)))) : oGo p e below K (T.setTop (mkF m pc Ls (.double x :: st))) := by
  subst hp; exact kk.via fun t q => XS.d2lS o.here cx.1 rfl (hb cx.2.2.1 hd) rfl rfl q
theorem g_d2i (cx : oCx p s m meth c Z own nm code maxL ret) (o : oOn p l e R s m args below meth c Z cells slots T L) {x : UInt64} (hd : decode code pc = .ok (.d2i, 1)) (hp : pc + 1 = pc') 
    (kk : oGo p e below K (T.setTop (mkF m pc' Ls (.int (FP.d2i x) :: st)))) : oGo p e below K (T.setTop (mkF m pc Ls (.double x :: st))) := by
  subst hp; exact kk.via fun t q => XS.d2iS o.here cx.1 rfl (hb cx.2.2.1 hd) rfl rfl q
theorem g_dneg (cx : oCx p s m meth c Z own nm code maxL ret) (o : oOn p l e R s m args below meth c Z cells slots T L) {x : UInt64} (hd : decode code pc = .ok (.dneg, 1)) (hp : pc + 1 = pc') 
    (kk : oGo p e below K (T.setTop (mkF m pc' Ls (.double (FP.dneg x) :: st)))) : oGo p e below K (T.setTop (mkF m pc Ls (.double x :: st))) := by
  subst hp; exact kk.via fun t q => XS.dnegS o.here cx.1 rfl (hb cx.2.2.1 hd) rfl rfl q
theorem g_dcmp (cx : oCx p s m meth c Z own nm code maxL ret) (o : oOn p l e R s m args below meth c Z cells slots T L) {f : CmpOp} {x y : UInt64} (hd : decode code pc = .ok (.dcmp f, 1)) (hp : pc + 1 = pc') 
    (kk : oGo p e below K (T.setTop (mkF m pc' Ls (.int (cmpValue (FP.dcmp x y) f) :: st)))) : oGo p e below K (T.setTop (mkF m pc Ls (.double y :: .double x :: st))) := by
  subst hp; exact kk.via fun t q => XS.dcmpS o.here cx.1 rfl (hb cx.2.2.1 hd) rfl rfl q
theorem g_dadd (cx : oCx p s m meth c Z own nm code maxL ret) (o : oOn p l e R s m args below meth c Z cells slots T L) {x y : UInt64} (hd : decode code pc = .ok (.dadd, 1)) (hp : pc + 1 = pc') (hn : NoNaN64 (FP.dadd x y))
    (kk : oGo p e below K (T.setTop (mkF m pc' Ls (.double (FP.dadd x y) :: st)))) : oGo p e below K (T.setTop (mkF m pc Ls (.double y :: .double x :: st))) := by
  subst hp; exact kk.via fun t q => XS.daddS o.here cx.1 rfl (hb cx.2.2.1 hd) rfl hn rfl q
theorem g_dsub (cx : oCx p s m meth c Z own nm code maxL ret) (o : oOn p l e R s m args below meth c Z cells slots T L) {x y : UInt64} (hd : decode code pc = .ok (.dsub, 1)) (hp : pc + 1 = pc') (hn : NoNaN64 (FP.dsub x y))
    (kk : oGo p e below K (T.setTop (mkF m pc' Ls (.double (FP.dsub x y) :: st)))) : oGo p e below K (T.setTop (mkF m pc Ls (.double y :: .double x :: st))) := by
  subst hp; exact kk.via fun t q => XS.dsubS o.here cx.1 rfl (hb cx.2.2.1 hd) rfl hn rfl q
theorem g_dmul (cx : oCx p s m meth c Z own nm code maxL ret) (o : oOn p l e R s m args below meth c Z cells slots T L) {x y : UInt64} (hd : decode code pc = .ok (.dmul, 1)) (hp : pc + 1 = pc') (hn : NoNaN64 (FP.dmul x y))
    (kk : oGo p e below K (T.setTop (mkF m pc' Ls (.double (FP.dmul x y) :: st)))) : oGo p e below K (T.setTop (mkF m pc Ls (.double y :: .double x :: st))) := by
  subst hp; exact kk.via fun t q => XS.dmulS o.here cx.1 rfl (hb cx.2.2.1 hd) rfl hn rfl q
theorem g_ddiv (cx : oCx p s m meth c Z own nm code maxL ret) (o : oOn p l e R s m args below meth c Z cells slots T L) {x y : UInt64} (hd : decode code pc = .ok (.ddiv, 1)) (hp : pc + 1 = pc') (hn : NoNaN64 (FP.ddiv x y))
    (kk : oGo p e below K (T.setTop (mkF m pc' Ls (.double (FP.ddiv x y) :: st)))) : oGo p e below K (T.setTop (mkF m pc Ls (.double y :: .double x :: st))) := by
  subst hp; exact kk.via fun t q => XS.ddivS o.here cx.1 rfl (hb cx.2.2.1 hd) rfl hn rfl q
theorem g_iinc (cx : oCx p s m meth c Z own nm code maxL ret) (o : oOn p l e R s m args below meth c Z cells slots T L) {cst : Int} {x : Int32} (z : Int32) {l' : Array Slot} (hd : decode code pc = .ok (.iinc k cst, 3)) (hp : pc + 3 = pc') (hl : Ls[k]? = some (.val (.int x))) (hz : x + Int32.ofInt cst = z) (hl' : storeLocals Ls k (.int z) = some l')
    (kk : oGo p e below K (T.setTop (mkF m pc' l' st))) : oGo p e below K (T.setTop (mkF m pc Ls st)) := by
  subst hp hz; exact kk.via fun t r => XS.iinc o.here cx.1 rfl (hb cx.2.2.1 hd) hl hl' r
theorem g_lshl (cx : oCx p s m meth c Z own nm code maxL ret) (o : oOn p l e R s m args below meth c Z cells slots T L) {x : Int64} {y : Int32} (hd : decode code pc = .ok (.lshl, 1)) (hp : pc + 1 = pc') 
    (kk : oGo p e below K (T.setTop (mkF m pc' Ls (.long (x <<< (y.toInt64 &&& 63)) :: st)))) : oGo p e below K (T.setTop (mkF m pc Ls (.int y :: .long x :: st))) := by
  subst hp; exact kk.via fun t q => XT.lshl o.here cx.1 rfl (hb cx.2.2.1 hd) rfl q
theorem g_lshr (cx : oCx p s m meth c Z own nm code maxL ret) (o : oOn p l e R s m args below meth c Z cells slots T L) {x : Int64} {y : Int32} (hd : decode code pc = .ok (.lshr, 1)) (hp : pc + 1 = pc') 
    (kk : oGo p e below K (T.setTop (mkF m pc' Ls (.long (x >>> (y.toInt64 &&& 63)) :: st)))) : oGo p e below K (T.setTop (mkF m pc Ls (.int y :: .long x :: st))) := by
  subst hp; exact kk.via fun t q => XT.lshr o.here cx.1 rfl (hb cx.2.2.1 hd) rfl q
theorem g_lushr (cx : oCx p s m meth c Z own nm code maxL ret) (o : oOn p l e R s m args below meth c Z cells slots T L) {x : Int64} {y : Int32} (hd : decode code pc = .ok (.lushr, 1)) (hp : pc + 1 = pc') 
    (kk : oGo p e below K (T.setTop (mkF m pc' Ls (.long (XT.ushrL x y) :: st)))) : oGo p e below K (T.setTop (mkF m pc Ls (.int y :: .long x :: st))) := by
  subst hp; exact kk.via fun t q => XT.lushr o.here cx.1 rfl (hb cx.2.2.1 hd) rfl q
theorem g_i2b (cx : oCx p s m meth c Z own nm code maxL ret) (o : oOn p l e R s m args below meth c Z cells slots T L) {x : Int32} (hd : decode code pc = .ok (.i2b, 1)) (hp : pc + 1 = pc') 
    (kk : oGo p e below K (T.setTop (mkF m pc' Ls (.int (x.toInt8.toInt32) :: st)))) : oGo p e below K (T.setTop (mkF m pc Ls (.int x :: st))) := by
  subst hp; exact kk.via fun t q => XT.i2b o.here cx.1 rfl (hb cx.2.2.1 hd) rfl q
theorem g_i2s (cx : oCx p s m meth c Z own nm code maxL ret) (o : oOn p l e R s m args below meth c Z cells slots T L) {x : Int32} (hd : decode code pc = .ok (.i2s, 1)) (hp : pc + 1 = pc') 
    (kk : oGo p e below K (T.setTop (mkF m pc' Ls (.int (x.toInt16.toInt32) :: st)))) : oGo p e below K (T.setTop (mkF m pc Ls (.int x :: st))) := by
  subst hp; exact kk.via fun t q => XT.i2s o.here cx.1 rfl (hb cx.2.2.1 hd) rfl q
theorem g_goto (cx : oCx p s m meth c Z own nm code maxL ret) (o : oOn p l e R s m args below meth c Z cells slots T L) {off : Int} (hd : decode code pc = .ok (.goto off, 3)) (ho : 0 ≤ (pc : Int) + off) (hp : ((pc : Int) + off).toNat = pc')
    (kk : oGo p e below K (T.setTop (mkF m pc' Ls st))) : oGo p e below K (T.setTop (mkF m pc Ls st)) := by
  exact kk.via fun t q => XS.goto o.here cx.1 rfl rfl (hb cx.2.2.1 hd) ho hp q
theorem g_if_eq (cx : oCx p s m meth c Z own nm code maxL ret) (o : oOn p l e R s m args below meth c Z cells slots T L) {x : Int32} {off : Int} (hd : decode code pc = .ok (.ifCond .eq off, 3)) (ho : 0 ≤ (pc : Int) + off) (hp' : ((pc : Int) + off).toNat = pc') (hp : pc + 3 = pc2)
    (ky : x = 0 → oGo p e below K (T.setTop (mkF m pc' Ls st))) (kn : ¬ (x = 0) → oGo p e below K (T.setTop (mkF m pc2 Ls st))) : oGo p e below K (T.setTop (mkF m pc Ls (.int x :: st))) := by
  by_cases q : x = 0
  · exact (ky q).via fun t r => XS.ifYes o.here cx.1 rfl rfl (hb cx.2.2.1 hd) rfl ((if0 _ _).trans (teq q).1) ho hp' r
  · subst hp; exact (kn q).via fun t r => XS.ifNo o.here cx.1 rfl (hb cx.2.2.1 hd) rfl ((if0 _ _).trans (feq q).1) r
theorem g_icmp_eq (cx : oCx p s m meth c Z own nm code maxL ret) (o : oOn p l e R s m args below meth c Z cells slots T L) {x y : Int32} {off : Int} (hd : decode code pc = .ok (.if_icmp .eq off, 3)) (ho : 0 ≤ (pc : Int) + off) (hp' : ((pc : Int) + off).toNat = pc') (hp : pc + 3 = pc2)
    (ky : x = y → oGo p e below K (T.setTop (mkF m pc' Ls st))) (kn : ¬ (x = y) → oGo p e below K (T.setTop (mkF m pc2 Ls st))) : oGo p e below K (T.setTop (mkF m pc Ls (.int y :: .int x :: st))) := by
  by_cases q : x = y
  · exact (ky q).via fun t r => XS.icmpYes o.here cx.1 rfl rfl (hb cx.2.2.1 hd) rfl (teq q).1 ho hp' r
  · subst hp; exact (kn q).via fun t r => XS.icmpNo o.here cx.1 rfl (hb cx.2.2.1 hd) rfl (feq q).1 r
theorem g_if_ne (cx : oCx p s m meth c Z own nm code maxL ret) (o : oOn p l e R s m args below meth c Z cells slots T L) {x : Int32} {off : Int} (hd : decode code pc = .ok (.ifCond .ne off, 3)) (ho : 0 ≤ (pc : Int) + off) (hp' : ((pc : Int) + off).toNat = pc') (hp : pc + 3 = pc2)
    (ky : ¬ (x = 0) → oGo p e below K (T.setTop (mkF m pc' Ls st))) (kn : x = 0 → oGo p e below K (T.setTop (mkF m pc2 Ls st))) : oGo p e below K (T.setTop (mkF m pc Ls (.int x :: st))) := by
  by_cases q : ¬ (x = 0)
  · exact (ky q).via fun t r => XS.ifYes o.here cx.1 rfl rfl (hb cx.2.2.1 hd) rfl ((if0 _ _).trans (feq q).2) ho hp' r
  · subst hp; exact (kn (Decidable.not_not.mp q)).via fun t r => XS.ifNo o.here cx.1 rfl (hb cx.2.2.1 hd) rfl ((if0 _ _).trans (teq (Decidable.not_not.mp q)).2) r
theorem g_icmp_ne (cx : oCx p s m meth c Z own nm code maxL ret) (o : oOn p l e R s m args below meth c Z cells slots T L) {x y : Int32} {off : Int} (hd : decode code pc = .ok (.if_icmp .ne off, 3)) (ho : 0 ≤ (pc : Int) + off) (hp' : ((pc : Int) + off).toNat = pc') (hp : pc + 3 = pc2)
    (ky : ¬ (x = y) → oGo p e below K (T.setTop (mkF m pc' Ls st))) (kn : x = y → oGo p e below K (T.setTop (mkF m pc2 Ls st))) : oGo p e below K (T.setTop (mkF m pc Ls (.int y :: .int x :: st))) := by
  by_cases q : ¬ (x = y)
  · exact (ky q).via fun t r => XS.icmpYes o.here cx.1 rfl rfl (hb cx.2.2.1 hd) rfl (feq q).2 ho hp' r
  · subst hp; exact (kn (Decidable.not_not.mp q)).via fun t r => XS.icmpNo o.here cx.1 rfl (hb cx.2.2.1 hd) rfl (teq (Decidable.not_not.mp q)).2 r
theorem g_if_lt (cx : oCx p s m meth c Z own nm code maxL ret) (o : oOn p l e R s m args below meth c Z cells slots T L) {x : Int32} {off : Int} (hd : decode code pc = .ok (.ifCond .lt off, 3)) (ho : 0 ≤ (pc : Int) + off) (hp' : ((pc : Int) + off).toNat = pc') (hp : pc + 3 = pc2)
    (ky : x < 0 → oGo p e below K (T.setTop (mkF m pc' Ls st))) (kn : ¬ (x < 0) → oGo p e below K (T.setTop (mkF m pc2 Ls st))) : oGo p e below K (T.setTop (mkF m pc Ls (.int x :: st))) := by
  by_cases q : x < 0
  · exact (ky q).via fun t r => XS.ifYes o.here cx.1 rfl rfl (hb cx.2.2.1 hd) rfl ((if0 _ _).trans (tlt q).1) ho hp' r
  · subst hp; exact (kn q).via fun t r => XS.ifNo o.here cx.1 rfl (hb cx.2.2.1 hd) rfl ((if0 _ _).trans (flt q).1) r
theorem g_icmp_lt (cx : oCx p s m meth c Z own nm code maxL ret) (o : oOn p l e R s m args below meth c Z cells slots T L) {x y : Int32} {off : Int} (hd : decode code pc = .ok (.if_icmp .lt off, 3)) (ho : 0 ≤ (pc : Int) + off) (hp' : ((pc : Int) + off).toNat = pc') (hp : pc + 3 = pc2)
    (ky : x < y → oGo p e below K (T.setTop (mkF m pc' Ls st))) (kn : ¬ (x < y) → oGo p e below K (T.setTop (mkF m pc2 Ls st))) : oGo p e below K (T.setTop (mkF m pc Ls (.int y :: .int x :: st))) := by
  by_cases q : x < y
  · exact (ky q).via fun t r => XS.icmpYes o.here cx.1 rfl rfl (hb cx.2.2.1 hd) rfl (tlt q).1 ho hp' r
  · subst hp; exact (kn q).via fun t r => XS.icmpNo o.here cx.1 rfl (hb cx.2.2.1 hd) rfl (flt q).1 r
theorem g_if_ge (cx : oCx p s m meth c Z own nm code maxL ret) (o : oOn p l e R s m args below meth c Z cells slots T L) {x : Int32} {off : Int} (hd : decode code pc = .ok (.ifCond .ge off, 3)) (ho : 0 ≤ (pc : Int) + off) (hp' : ((pc : Int) + off).toNat = pc') (hp : pc + 3 = pc2)
    (ky : ¬ (x < 0) → oGo p e below K (T.setTop (mkF m pc' Ls st))) (kn : x < 0 → oGo p e below K (T.setTop (mkF m pc2 Ls st))) : oGo p e below K (T.setTop (mkF m pc Ls (.int x :: st))) := by
  by_cases q : ¬ (x < 0)
  · exact (ky q).via fun t r => XS.ifYes o.here cx.1 rfl rfl (hb cx.2.2.1 hd) rfl ((if0 _ _).trans (flt q).2.1) ho hp' r
  · subst hp; exact (kn (Decidable.not_not.mp q)).via fun t r => XS.ifNo o.here cx.1 rfl (hb cx.2.2.1 hd) rfl ((if0 _ _).trans (tlt (Decidable.not_not.mp q)).2.1) r
theorem g_icmp_ge (cx : oCx p s m meth c Z own nm code maxL ret) (o : oOn p l e R s m args below meth c Z cells slots T L) {x y : Int32} {off : Int} (hd : decode code pc = .ok (.if_icmp .ge off, 3)) (ho : 0 ≤ (pc : Int) + off) (hp' : ((pc : Int) + off).toNat = pc') (hp : pc + 3 = pc2)
    (ky : ¬ (x < y) → oGo p e below K (T.setTop (mkF m pc' Ls st))) (kn : x < y → oGo p e below K (T.setTop (mkF m pc2 Ls st))) : oGo p e below K (T.setTop (mkF m pc Ls (.int y :: .int x :: st))) := by
  by_cases q : ¬ (x < y)
  · exact (ky q).via fun t r => XS.icmpYes o.here cx.1 rfl rfl (hb cx.2.2.1 hd) rfl (flt q).2.1 ho hp' r
  · subst hp; exact (kn (Decidable.not_not.mp q)).via fun t r => XS.icmpNo o.here cx.1 rfl (hb cx.2.2.1 hd) rfl (tlt (Decidable.not_not.mp q)).2.1 r
theorem g_if_gt (cx : oCx p s m meth c Z own nm code maxL ret) (o : oOn p l e R s m args below meth c Z cells slots T L) {x : Int32} {off : Int} (hd : decode code pc = .ok (.ifCond .gt off, 3)) (ho : 0 ≤ (pc : Int) + off) (hp' : ((pc : Int) + off).toNat = pc') (hp : pc + 3 = pc2)
    (ky : 0 < x → oGo p e below K (T.setTop (mkF m pc' Ls st))) (kn : ¬ (0 < x) → oGo p e below K (T.setTop (mkF m pc2 Ls st))) : oGo p e below K (T.setTop (mkF m pc Ls (.int x :: st))) := by
  by_cases q : 0 < x
  · exact (ky q).via fun t r => XS.ifYes o.here cx.1 rfl rfl (hb cx.2.2.1 hd) rfl ((if0 _ _).trans (tlt q).2.2.1) ho hp' r
  · subst hp; exact (kn q).via fun t r => XS.ifNo o.here cx.1 rfl (hb cx.2.2.1 hd) rfl ((if0 _ _).trans (flt q).2.2.1) r
theorem g_icmp_gt (cx : oCx p s m meth c Z own nm code maxL ret) (o : oOn p l e R s m args below meth c Z cells slots T L) {x y : Int32} {off : Int} (hd : decode code pc = .ok (.if_icmp .gt off, 3)) (ho : 0 ≤ (pc : Int) + off) (hp' : ((pc : Int) + off).toNat = pc') (hp : pc + 3 = pc2)
    (ky : y < x → oGo p e below K (T.setTop (mkF m pc' Ls st))) (kn : ¬ (y < x) → oGo p e below K (T.setTop (mkF m pc2 Ls st))) : oGo p e below K (T.setTop (mkF m pc Ls (.int y :: .int x :: st))) := by
  by_cases q : y < x
  · exact (ky q).via fun t r => XS.icmpYes o.here cx.1 rfl rfl (hb cx.2.2.1 hd) rfl (tlt q).2.2.1 ho hp' r
  · subst hp; exact (kn q).via fun t r => XS.icmpNo o.here cx.1 rfl (hb cx.2.2.1 hd) rfl (flt q).2.2.1 r
theorem g_if_le (cx : oCx p s m meth c Z own nm code maxL ret) (o : oOn p l e R s m args below meth c Z cells slots T L) {x : Int32} {off : Int} (hd : decode code pc = .ok (.ifCond .le off, 3)) (ho : 0 ≤ (pc : Int) + off) (hp' : ((pc : Int) + off).toNat = pc') (hp : pc + 3 = pc2)
    (ky : ¬ (0 < x) → oGo p e below K (T.setTop (mkF m pc' Ls st))) (kn : 0 < x → oGo p e below K (T.setTop (mkF m pc2 Ls st))) : oGo p e below K (T.setTop (mkF m pc Ls (.int x :: st))) := by
  by_cases q : ¬ (0 < x)
  · exact (ky q).via fun t r => XS.ifYes o.here cx.1 rfl rfl (hb cx.2.2.1 hd) rfl ((if0 _ _).trans (flt q).2.2.2) ho hp' r
  · subst hp; exact (kn (Decidable.not_not.mp q)).via fun t r => XS.ifNo o.here cx.1 rfl (hb cx.2.2.1 hd) rfl ((if0 _ _).trans (tlt (Decidable.not_not.mp q)).2.2.2) r
theorem g_icmp_le (cx : oCx p s m meth c Z own nm code maxL ret) (o : oOn p l e R s m args below meth c Z cells slots T L) {x y : Int32} {off : Int} (hd : decode code pc = .ok (.if_icmp .le off, 3)) (ho : 0 ≤ (pc : Int) + off) (hp' : ((pc : Int) + off).toNat = pc') (hp : pc + 3 = pc2)
    (ky : ¬ (y < x) → oGo p e below K (T.setTop (mkF m pc' Ls st))) (kn : y < x → oGo p e below K (T.setTop (mkF m pc2 Ls st))) : oGo p e below K (T.setTop (mkF m pc Ls (.int y :: .int x :: st))) := by
  by_cases q : ¬ (y < x)
  · exact (ky q).via fun t r => XS.icmpYes o.here cx.1 rfl rfl (hb cx.2.2.1 hd) rfl (flt q).2.2.2 ho hp' r
  · subst hp; exact (kn (Decidable.not_not.mp q)).via fun t r => XS.icmpNo o.here cx.1 rfl (hb cx.2.2.1 hd) rfl (tlt (Decidable.not_not.mp q)).2.2.2 r
theorem g_ldc (cx : oCx p s m meth c Z own nm code maxL ret) (o : oOn p l e R s m args below meth c Z cells slots T L) {index : Nat} {z : Int32} (w : (Jvm.Cond.constant own index z).before a0 Z = true) (hd : decode code pc = .ok (.ldc index, 2)) (hp : pc + 2 = pc')
    (kk : oGo p e below K (T.setTop (mkF m pc' Ls (.int z :: st)))) : oGo p e below K (T.setTop (mkF m pc Ls st)) := by
  subst hp; obtain ⟨_, X, -⟩ := o
  exact kk.via fun t q => X.ldcInt cx.1 cx.2.2.2.2.1 (mvT cx.2.1 w) (g := mkF m pc Ls st) rfl (hb cx.2.2.1 hd) t q
theorem g_ldc2L (cx : oCx p s m meth c Z own nm code maxL ret) (o : oOn p l e R s m args below meth c Z cells slots T L) {index : Nat} {z : Int64} (w : (Jvm.Cond.constantLong own index z).before a0 Z = true) (hd : decode code pc = .ok (.ldc2_w index, 3)) (hp : pc + 3 = pc')
    (kk : oGo p e below K (T.setTop (mkF m pc' Ls (.long z :: st)))) : oGo p e below K (T.setTop (mkF m pc Ls st)) := by
  subst hp; obtain ⟨_, X, -⟩ := o
  exact kk.via fun t q => X.ldc2Long cx.1 cx.2.2.2.2.1 (mvT cx.2.1 w) (g := mkF m pc Ls st) rfl (hb cx.2.2.1 hd) t q
theorem g_ldc2D (cx : oCx p s m meth c Z own nm code maxL ret) (o : oOn p l e R s m args below meth c Z cells slots T L) {index : Nat} {z : UInt64} (w : (Jvm.Cond.constantDouble own index z).before a0 Z = true) (hd : decode code pc = .ok (.ldc2_w index, 3)) (hp : pc + 3 = pc')
    (kk : oGo p e below K (T.setTop (mkF m pc' Ls (.double z :: st)))) : oGo p e below K (T.setTop (mkF m pc Ls st)) := by
  subst hp; obtain ⟨_, X, -⟩ := o
  exact kk.via fun t q => X.ldc2DoubleC cx.1 cx.2.2.2.2.1 (mvT cx.2.1 w) (g := mkF m pc Ls st) rfl (hb cx.2.2.1 hd) t q
theorem g_getfield (cx : oCx p s m meth c Z own nm code maxL ret) (o : oOn p l e R s m args below meth c Z cells slots T L) {index : Nat} {C O n d : String} {fs : oFs} (w : (Jvm.Cond.fieldLink own index O n d).before a0 Z = true) (i j : Nat) (hi : L[i]? = some (a, oObj Z a0 C fs)) (hj : fs[j]? = some (O, n, d, v)) (hd : decode code pc = .ok (.getfield index, 3)) (hp : pc + 3 = pc')
    (kk : ∀ T', oOn p l e R s m args below meth c Z cells slots T' L → oGo p e below K (T'.setTop (mkF m pc' Ls (v :: st)))) : oGo p e below K (T.setTop (mkF m pc Ls (.ref a :: st))) := by
  subst hp; obtain ⟨lc, X, N, H⟩ := o
  obtain ⟨-, cl, hc, B⟩ := H.at_ hi
  obtain ⟨T', X', e', stp⟩ := getF X cx.1 cx.2.1 cx.2.2.2.2.1 (host := "") (Or.inl w) Via.refl rfl ((B.2 _ (List.mem_of_getElem? hj)).2.2.fld hc) (g := mkF m pc Ls (.ref a :: st)) rfl rfl (hb cx.2.2.1 hd)
  exact (kk T' ⟨lc, X', N, e' ▸ H⟩).via stp
theorem g_getfieldN (cx : oCx p s m meth c Z own nm code maxL ret) (o : oOn p l e R s m args below meth c Z cells slots T L) {index : Nat} {C O n d host : String} {fs : oFs} (w : (Jvm.Cond.fieldLinkNest own index O n d host).before a0 Z = true) (i j : Nat) (hi : L[i]? = some (a, oObj Z a0 C fs)) (hj : fs[j]? = some (O, n, d, v)) (hd : decode code pc = .ok (.getfield index, 3)) (hp : pc + 3 = pc')
    (kk : ∀ T', oOn p l e R s m args below meth c Z cells slots T' L → oGo p e below K (T'.setTop (mkF m pc' Ls (v :: st)))) : oGo p e below K (T.setTop (mkF m pc Ls (.ref a :: st))) := by
  subst hp; obtain ⟨lc, X, N, H⟩ := o
  obtain ⟨-, cl, hc, B⟩ := H.at_ hi
  obtain ⟨T', X', e', stp⟩ := getF X cx.1 cx.2.1 cx.2.2.2.2.1 (host := host) (Or.inr w) Via.refl rfl ((B.2 _ (List.mem_of_getElem? hj)).2.2.fld hc) (g := mkF m pc Ls (.ref a :: st)) rfl rfl (hb cx.2.2.1 hd)
  exact (kk T' ⟨lc, X', N, e' ▸ H⟩).via stp
theorem g_putfield (cx : oCx p s m meth c Z own nm code maxL ret) (o : oOn p l e R s m args below meth c Z cells slots T L) {index kk0 : Nat} {C O n d : String} {fs : oFs} {old : Value} {ty : FieldType} (w : (Jvm.Cond.fieldLink own index O n d).before a0 Z = true) (wl : (Jvm.Cond.lays C O n d).before a0 Z = true ∨ ((Jvm.Cond.laysFinal C O n d).before a0 Z = true ∧ own = O ∧ nm = "<init>")) (wi : (Jvm.Cond.instantiable C kk0).before a0 Z = true)
    (i j : Nat) (hi : L[i]? = some (a, oObj Z a0 C fs)) (hj : fs[j]? = some (O, n, d, old)) (ns : List String) (hns : fs.map (fun t => t.2.1) = ns) (hnd : ns.Nodup) (hty : parseFieldDescriptor d = some ty) (hn : narrow ty v = v) (hf : fits ty v = true) (hd : decode code pc = .ok (.putfield index, 3)) (hp : pc + 3 = pc')
    (kk : ∀ T', oOn p l e R s m args below meth c Z cells slots T' (L.set i (a, oObj Z a0 C (fs.set j (O, n, d, v)))) → oGo p e below K (T'.setTop (mkF m pc' Ls st))) : oGo p e below K (T.setTop (mkF m pc Ls (v :: .ref a :: st))) := by
  subst hp; obtain ⟨lc, X, N, H⟩ := o
  obtain ⟨q, cl, hc, B⟩ := H.at_ hi
  obtain ⟨T', h', X', e', Wd, stp⟩ := putF X cx.1 cx.2.1 cx.2.2.2.2.1 (host := "") (Or.inl w) Via.refl rfl ((B.2 _ (List.mem_of_getElem? hj)).2.2.fld hc) (B.1.exa hc) (wl.imp id fun z => ⟨z.1, z.2.1, cx.2.2.2.2.2.1.trans z.2.2⟩) wi hty hn hf (g := mkF m pc Ls (v :: .ref a :: st)) rfl rfl (hb cx.2.2.1 hd)
  subst e'
  exact (kk T' ⟨_, X', Fr.snoc X' N q, H.wr hi Wd fun c' hc' => hc'.put hj (hns ▸ hnd)⟩).via stp
theorem g_putfieldN (cx : oCx p s m meth c Z own nm code maxL ret) (o : oOn p l e R s m args below meth c Z cells slots T L) {index kk0 : Nat} {C O n d : String} {fs : oFs} {old v' : Value} {ty : FieldType} (w : (Jvm.Cond.fieldLink own index O n d).before a0 Z = true) (wl : (Jvm.Cond.lays C O n d).before a0 Z = true ∨ ((Jvm.Cond.laysFinal C O n d).before a0 Z = true ∧ own = O ∧ nm = "<init>")) (wi : (Jvm.Cond.instantiable C kk0).before a0 Z = true)
    (i j : Nat) (hi : L[i]? = some (a, oObj Z a0 C fs)) (hj : fs[j]? = some (O, n, d, old)) (ns : List String) (hns : fs.map (fun t => t.2.1) = ns) (hnd : ns.Nodup) (hty : parseFieldDescriptor d = some ty) (hn : narrow ty v = v') (hf : fits ty v' = true) (hd : decode code pc = .ok (.putfield index, 3)) (hp : pc + 3 = pc')
    (kk : ∀ T', oOn p l e R s m args below meth c Z cells slots T' (L.set i (a, oObj Z a0 C (fs.set j (O, n, d, v')))) → oGo p e below K (T'.setTop (mkF m pc' Ls st))) : oGo p e below K (T.setTop (mkF m pc Ls (v :: .ref a :: st))) := by
  subst hp; obtain ⟨lc, X, N, H⟩ := o
  obtain ⟨q, cl, hc, B⟩ := H.at_ hi
  obtain ⟨T', h', X', e', Wd, stp⟩ := putFN X cx.1 cx.2.1 cx.2.2.2.2.1 w Via.refl rfl ((B.2 _ (List.mem_of_getElem? hj)).2.2.fld hc) (B.1.exa hc) (wl.imp id fun z => ⟨z.1, z.2.1, cx.2.2.2.2.2.1.trans z.2.2⟩) wi hty hn hf (g := mkF m pc Ls (v :: .ref a :: st)) rfl rfl (hb cx.2.2.1 hd)
  subst e'
  exact (kk T' ⟨_, X', Fr.snoc X' N q, H.wr hi Wd fun c' hc' => hc'.put hj (hns ▸ hnd)⟩).via stp
theorem g_new (cx : oCx p s m meth c Z own nm code maxL ret) (o : oOn p l e R s m args below meth c Z cells slots T L) {index n : Nat} {C : String} {fs : oFs} (w : (Jvm.Cond.classLink own index C).before a0 Z = true) (wi : (Jvm.Cond.instantiable C n).before a0 Z = true) (wz : (Jvm.Cond.initialized C).before a0 Z = true) (hfs : ∀ t ∈ fs, Laid Z a0 C t.1 t.2.1 t.2.2.1 ∧ ∃ ty, parseFieldDescriptor t.2.2.1 = some ty ∧ defaultValue ty = t.2.2.2)
    (hc : cells + 1 ≤ R.cells) (hl : slots + n ≤ R.slots) (hd : decode code pc = .ok (.new index, 3)) (hp : pc + 3 = pc')
    (kk : ∀ T' b, oOn p l e R s m args below meth c Z (cells + 1) (slots + n) T' ((b, oObj Z a0 C fs) :: L) → oGo p e below K (T'.setTop (mkF m pc' Ls (.ref b :: st)))) : oGo p e below K (T.setTop (mkF m pc Ls st)) := by
  subst hp; obtain ⟨lc, X, N, H⟩ := o
  obtain ⟨T', h', X', e', E, A, D, ⟨cl, hcl, -, -⟩, stp⟩ := newO X cx.1 cx.2.1 cx.2.2.2.2.1 w wi wz rfl (g := mkF m pc Ls st) rfl (hb cx.2.2.1 hd) hc hl
  subst e'
  refine (kk T' _ ⟨_, X', N, H.new E hcl ⟨oExa.of A hcl, fun t ht => ?_⟩⟩).via stp
  obtain ⟨h1, ty, h2, h3⟩ := hfs t ht
  exact ⟨h1, ⟨ty, h2⟩, h3 ▸ oFld.of (D h1 h2) hcl⟩
theorem g_newarray (cx : oCx p s m meth c Z own nm code maxL ret) (o : oOn p l e R s m args below meth c Z cells slots T L) {aty : ArrayType} {x : Int32} {ty : FieldType} {vs : List Value} (w : (Jvm.Cond.arrayClass ty).before a0 Z = true) (hty : newarray.typeOf aty = ty) (k cap : Nat) (hk : x = Int32.ofNat k) (hvs : List.replicate k (defaultValue ty) = vs) (hcap : k ≤ cap) (hcb : cap * 8 ≤ 536870912) (hc : cells + 1 ≤ R.cells) (hl : slots + cap ≤ R.slots) (hd : decode code pc = .ok (.newarray aty, 2)) (hp : pc + 2 = pc')
    (kk : ∀ T' b, oOn p l e R s m args below meth c Z (cells + 1) (slots + cap) T' ((b, oArr Z ty vs) :: L) → oGo p e below K (T'.setTop (mkF m pc' Ls (.ref b :: st)))) : oGo p e below K (T.setTop (mkF m pc Ls (.int x :: st))) := by
  subst hp hk hty hvs; obtain ⟨lc, X, N, H⟩ := o
  have hk2 : k < 2 ^ 31 := by omega
  obtain ⟨q1, q2⟩ := o_clamp hk2
  obtain ⟨T', h', cA, X', e', E, A, stp⟩ := newP X cx.1 cx.2.1 w rfl (g := mkF m pc Ls (.int (Int32.ofNat k) :: st)) rfl (hb cx.2.2.1 hd) rfl q2 (cap := cap) (by rw [q1]; exact hcap) hcb hc hl
  subst e'
  refine (kk T' _ ⟨_, X', N, H.new E A.1 ⟨A.2.1, A.2.2, ?_, by simpa using hk2, fun u hu => ?_⟩⟩).via stp
  · show (Array.replicate (Int32.ofNat k).toNatClampNeg (defaultValue (newarray.typeOf aty))).toList = _; rw [q1, Array.toList_replicate]
  · rw [(List.mem_replicate.mp hu).2]; cases aty <;> rfl
theorem g_arraylength (cx : oCx p s m meth c Z own nm code maxL ret) (o : oOn p l e R s m args below meth c Z cells slots T L) {ty : FieldType} (i : Nat) (z : Int32) (hi : L[i]? = some (a, oArr Z ty vs)) (hz : Int32.ofNat vs.length = z) (hd : decode code pc = .ok (.arraylength, 1)) (hp : pc + 1 = pc')
    (kk : oGo p e below K (T.setTop (mkF m pc' Ls (.int z :: st)))) : oGo p e below K (T.setTop (mkF m pc Ls (.ref a :: st))) := by
  subst hp hz; obtain ⟨lc, X, N, H⟩ := o
  obtain ⟨-, cl, hc, B⟩ := H.at_ hi
  refine kk.via fun t q => X.arraylength cx.1 hc (State.isArrayOf_alike cx.2.1.alike B.1) (g := mkF m pc Ls (.ref a :: st)) rfl rfl (hb cx.2.2.1 hd) t ?_
  rw [B.size]; exact q
theorem g_getfieldO (cx : oCx p s m meth c Z own nm code maxL ret) (o : oOn p l e R s m args below meth c Z cells slots T L) {index : Nat} {O n d : String} (w : (Jvm.Cond.fieldLink own index O n d).before a0 Z = true) (F : Fld Z Z.heap a O n d v) (hd : decode code pc = .ok (.getfield index, 3)) (hp : pc + 3 = pc')
    (kk : ∀ T', oOn p l e R s m args below meth c Z cells slots T' L → oGo p e below K (T'.setTop (mkF m pc' Ls (v :: st)))) : oGo p e below K (T.setTop (mkF m pc Ls (.ref a :: st))) := by
  subst hp; obtain ⟨lc, X, N, H⟩ := o
  obtain ⟨T', X', e', stp⟩ := getF X cx.1 cx.2.1 cx.2.2.2.2.1 (host := "") (Or.inl w) Via.refl rfl (F.ext H.1) (g := mkF m pc Ls (.ref a :: st)) rfl rfl (hb cx.2.2.1 hd)
  exact (kk T' ⟨lc, X', N, e' ▸ H⟩).via stp
/-- an array of references to C's objects, with just these components -/
def oArrR (Z : State) (C : String) (vs : List Value) (cell : Cell) : Prop := oArr Z (.object C) vs cell ∧ Ovr Z cell.cls C
theorem oOn.lenR {C : String} (o : oOn p l e R s m args below meth c Z cells slots T L) (hi : L[i]? = some (a, oArrR Z C vs)) : vs.length < 2 ^ 31 := by
  obtain ⟨lc, X, N, H⟩ := o
  obtain ⟨-, cl, -, A⟩ := H.at_ hi
  exact A.1.2.2.2.1
theorem g_anewarray (cx : oCx p s m meth c Z own nm code maxL ret) (o : oOn p l e R s m args below meth c Z cells slots T L) {x : Int32} {index : Nat} {C : String} {vs : List Value} (w1 : (Jvm.Cond.classLink own index C).before a0 Z = true) (w2 : (Jvm.Cond.arrayOver (.object C)).before a0 Z = true) (k cap : Nat) (hk : x = Int32.ofNat k) (hvs : List.replicate k .null = vs) (hcap : k ≤ cap) (hcb : cap * 8 ≤ 536870912) (hc : cells + 1 ≤ R.cells) (hl : slots + cap ≤ R.slots) (hd : decode code pc = .ok (.anewarray index, 3)) (hp : pc + 3 = pc')
    (kk : ∀ T' b, oOn p l e R s m args below meth c Z (cells + 1) (slots + cap) T' ((b, oArrR Z C vs) :: L) → oGo p e below K (T'.setTop (mkF m pc' Ls (.ref b :: st)))) : oGo p e below K (T.setTop (mkF m pc Ls (.int x :: st))) := by
  subst hp hk hvs; obtain ⟨lc, X, N, H⟩ := o
  have hk2 : k < 2 ^ 31 := by omega
  obtain ⟨q1, q2⟩ := o_clamp hk2
  obtain ⟨T', h', cA, X', e', E, A, O, stp⟩ := newR X cx.1 cx.2.1 cx.2.2.2.2.1 w1 w2 rfl (g := mkF m pc Ls (.int (Int32.ofNat k) :: st)) rfl (hb cx.2.2.1 hd) rfl q2 (cap := cap) (by rw [q1]; exact hcap) hcb hc hl
  subst e'
  refine (kk T' _ ⟨_, X', N, H.new E A.1 ⟨⟨A.2.1, A.2.2, ?_, by simpa using hk2, fun u hu => ?_⟩, O⟩⟩).via stp
  · show (Array.replicate (Int32.ofNat k).toNatClampNeg Value.null).toList = _; rw [q1, Array.toList_replicate]
  · rw [(List.mem_replicate.mp hu).2]; rfl
theorem g_aastoreO (cx : oCx p s m meth c Z own nm code maxL ret) (o : oOn p l e R s m args below meth c Z cells slots T L) {x : Int32} {C : String} {y : Addr} (i k : Nat) (hi : L[i]? = some (a, oArrR Z C vs)) (hk : x = Int32.ofNat k) (hlt : k < vs.length) (I : Ins Z Z.heap y C true) (hd : decode code pc = .ok (.aastore, 1)) (hp : pc + 1 = pc')
    (kk : ∀ T', oOn p l e R s m args below meth c Z cells slots T' (L.set i (a, oArrR Z C (vs.set k (.ref y)))) → oGo p e below K (T'.setTop (mkF m pc' Ls st))) : oGo p e below K (T.setTop (mkF m pc Ls (.ref y :: .int x :: .ref a :: st))) := by
  subst hp; obtain ⟨lc, X, N, H⟩ := o
  obtain ⟨q0, cl, hc, B⟩ := H.at_ hi
  obtain ⟨q1, q2⟩ := B.1.inb hk hlt
  obtain ⟨T', h', X', e', Wd, stp⟩ := stR X cx.1 cx.2.1 rfl (B.1.arr hc) q2 rfl (Sto.of (B.1.arr hc) B.2 (I.ext H.1)) (g := mkF m pc Ls (.ref y :: .int x :: .ref a :: st)) rfl rfl (hb cx.2.2.1 hd)
  subst e'
  rw [q1] at Wd X'
  exact (kk T' ⟨_, X', Fr.snoc X' N q0, H.wr hi Wd fun c' hc' => ⟨hc'.1.put rfl, hc'.2⟩⟩).via stp
theorem g_aaloadR (cx : oCx p s m meth c Z own nm code maxL ret) (o : oOn p l e R s m args below meth c Z cells slots T L) {x : Int32} {C : String} (i k : Nat) (hi : L[i]? = some (a, oArrR Z C vs)) (hk : x = Int32.ofNat k) (hv : vs[k]? = some v) (hd : decode code pc = .ok (.aaload, 1)) (hp : pc + 1 = pc')
    (kk : oGo p e below K (T.setTop (mkF m pc' Ls (v :: st)))) : oGo p e below K (T.setTop (mkF m pc Ls (.int x :: .ref a :: st))) := by
  subst hp; obtain ⟨lc, X, N, H⟩ := o
  obtain ⟨-, cl, hc, B⟩ := H.at_ hi
  obtain ⟨q1, q2⟩ := B.1.inb hk (List.getElem?_eq_some_iff.mp hv).1
  exact kk.via fun t q => X.aaload cx.1 hc (State.isArrayOf_alike cx.2.1.alike B.1.1) rfl B.1.2.1 q2 (by rw [q1]; exact B.1.get hv) (g := mkF m pc Ls (.int x :: .ref a :: st)) rfl rfl (hb cx.2.2.1 hd) t q
theorem g_acmp_ne (cx : oCx p s m meth c Z own nm code maxL ret) (o : oOn p l e R s m args below meth c Z cells slots T L) {x y : Value} {off : Int} (hx : x.isRef = true) (hy : y.isRef = true) (hd : decode code pc = .ok (.if_acmp .ne off, 3)) (ho : 0 ≤ (pc : Int) + off) (hp' : ((pc : Int) + off).toNat = pc') (hp : pc + 3 = pc2)
    (ky : ¬ x = y → oGo p e below K (T.setTop (mkF m pc' Ls st))) (kn : x = y → oGo p e below K (T.setTop (mkF m pc2 Ls st))) : oGo p e below K (T.setTop (mkF m pc Ls (y :: x :: st))) := by
  by_cases q : x = y
  · subst hp; exact (kn q).via fun t r => XT.acmpNo o.here cx.1 rfl (hb cx.2.2.1 hd) rfl hx hy (show decide (x ≠ y) = false from decide_eq_false fun z => z q) r
  · exact (ky q).via fun t r => XT.acmpYes o.here cx.1 rfl rfl (hb cx.2.2.1 hd) rfl hx hy (show decide (x ≠ y) = true from decide_eq_true q) ho hp' r
theorem g_acmp_eq (cx : oCx p s m meth c Z own nm code maxL ret) (o : oOn p l e R s m args below meth c Z cells slots T L) {x y : Value} {off : Int} (hx : x.isRef = true) (hy : y.isRef = true) (hd : decode code pc = .ok (.if_acmp .eq off, 3)) (ho : 0 ≤ (pc : Int) + off) (hp' : ((pc : Int) + off).toNat = pc') (hp : pc + 3 = pc2)
    (ky : x = y → oGo p e below K (T.setTop (mkF m pc' Ls st))) (kn : ¬ x = y → oGo p e below K (T.setTop (mkF m pc2 Ls st))) : oGo p e below K (T.setTop (mkF m pc Ls (y :: x :: st))) := by
  by_cases q : x = y
  · exact (ky q).via fun t r => XT.acmpYes o.here cx.1 rfl rfl (hb cx.2.2.1 hd) rfl hx hy (show decide (x = y) = true from decide_eq_true q) ho hp' r
  · subst hp; exact (kn q).via fun t r => XT.acmpNo o.here cx.1 rfl (hb cx.2.2.1 hd) rfl hx hy (show decide (x = y) = false from decide_eq_false q) r
theorem g_ifnull0 (cx : oCx p s m meth c Z own nm code maxL ret) (o : oOn p l e R s m args below meth c Z cells slots T L) {off : Int} (hd : decode code pc = .ok (.ifnull off, 3)) (ho : 0 ≤ (pc : Int) + off) (hp' : ((pc : Int) + off).toNat = pc')
    (kk : oGo p e below K (T.setTop (mkF m pc' Ls st))) : oGo p e below K (T.setTop (mkF m pc Ls (.null :: st))) := kk.via fun t r => XS.ifnullYes o.here cx.1 rfl rfl (hb cx.2.2.1 hd) rfl ho hp' r
theorem g_ifnull1 (cx : oCx p s m meth c Z own nm code maxL ret) (o : oOn p l e R s m args below meth c Z cells slots T L) {off : Int} {b : Addr} (hd : decode code pc = .ok (.ifnull off, 3)) (hp : pc + 3 = pc')
    (kk : oGo p e below K (T.setTop (mkF m pc' Ls st))) : oGo p e below K (T.setTop (mkF m pc Ls (.ref b :: st))) := by subst hp; exact kk.via fun t r => XS.ifnullNo o.here cx.1 rfl (hb cx.2.2.1 hd) rfl r
theorem g_ifnonnull1 (cx : oCx p s m meth c Z own nm code maxL ret) (o : oOn p l e R s m args below meth c Z cells slots T L) {off : Int} {b : Addr} (hd : decode code pc = .ok (.ifnonnull off, 3)) (ho : 0 ≤ (pc : Int) + off) (hp' : ((pc : Int) + off).toNat = pc')
    (kk : oGo p e below K (T.setTop (mkF m pc' Ls st))) : oGo p e below K (T.setTop (mkF m pc Ls (.ref b :: st))) := kk.via fun t r => XT.ifnonnullYes o.here cx.1 rfl rfl (hb cx.2.2.1 hd) rfl ho hp' r
theorem g_ifnonnull0 (cx : oCx p s m meth c Z own nm code maxL ret) (o : oOn p l e R s m args below meth c Z cells slots T L) {off : Int} (hd : decode code pc = .ok (.ifnonnull off, 3)) (hp : pc + 3 = pc')
    (kk : oGo p e below K (T.setTop (mkF m pc' Ls st))) : oGo p e below K (T.setTop (mkF m pc Ls (.null :: st))) := by subst hp; exact kk.via fun t r => XT.ifnonnullNo o.here cx.1 rfl (hb cx.2.2.1 hd) rfl r
theorem g_getstatic (cx : oCx p s m meth c Z own nm code maxL ret) (o : oOn p l e R s m args below meth c Z cells slots T L) {index : Nat} {O n d : String} (w : (Jvm.Cond.fieldLink own index O n d).before a0 Z = true) (hS : Sta Z Z.heap O n d v) (hd : decode code pc = .ok (.getstatic index, 3)) (hp : pc + 3 = pc')
    (kk : ∀ T', oOn p l e R s m args below meth c Z cells slots T' L → oGo p e below K (T'.setTop (mkF m pc' Ls (v :: st)))) : oGo p e below K (T.setTop (mkF m pc Ls st)) := by
  subst hp; obtain ⟨lc, X, N, H⟩ := o
  obtain ⟨T', X', e', stp⟩ := getS (host := "") X cx.1 cx.2.1 cx.2.2.2.2.1 w Via.refl rfl (hS.ext H.1) (g := mkF m pc Ls st) rfl (hb cx.2.2.1 hd)
  exact (kk T' ⟨lc, X', N, e' ▸ H⟩).via stp
theorem g_iaload (cx : oCx p s m meth c Z own nm code maxL ret) (o : oOn p l e R s m args below meth c Z cells slots T L) {x : Int32} (i k : Nat) (hi : L[i]? = some (a, oArr Z .int vs)) (hk : x = Int32.ofNat k) (hv : vs[k]? = some v) (hd : decode code pc = .ok (.iaload, 1)) (hp : pc + 1 = pc')
    (kk : oGo p e below K (T.setTop (mkF m pc' Ls (v :: st)))) : oGo p e below K (T.setTop (mkF m pc Ls (.int x :: .ref a :: st))) := by
  subst hp; obtain ⟨lc, X, N, H⟩ := o
  obtain ⟨-, cl, hc, B⟩ := H.at_ hi
  obtain ⟨q1, q2⟩ := B.inb hk (List.getElem?_eq_some_iff.mp hv).1
  exact kk.via fun t q => X.iaload cx.1 hc (State.isArrayOf_alike cx.2.1.alike B.1) B.2.1 q2 (by rw [q1]; exact B.get hv) (g := mkF m pc Ls (.int x :: .ref a :: st)) rfl rfl (hb cx.2.2.1 hd) t q
theorem g_laload (cx : oCx p s m meth c Z own nm code maxL ret) (o : oOn p l e R s m args below meth c Z cells slots T L) {x : Int32} (i k : Nat) (hi : L[i]? = some (a, oArr Z .long vs)) (hk : x = Int32.ofNat k) (hv : vs[k]? = some v) (hd : decode code pc = .ok (.laload, 1)) (hp : pc + 1 = pc')
    (kk : oGo p e below K (T.setTop (mkF m pc' Ls (v :: st)))) : oGo p e below K (T.setTop (mkF m pc Ls (.int x :: .ref a :: st))) := by
  subst hp; obtain ⟨lc, X, N, H⟩ := o
  obtain ⟨-, cl, hc, B⟩ := H.at_ hi
  obtain ⟨q1, q2⟩ := B.inb hk (List.getElem?_eq_some_iff.mp hv).1
  exact kk.via fun t q => X.laload cx.1 hc (State.isArrayOf_alike cx.2.1.alike B.1) B.2.1 q2 (by rw [q1]; exact B.get hv) (g := mkF m pc Ls (.int x :: .ref a :: st)) rfl rfl (hb cx.2.2.1 hd) t q
theorem g_daload (cx : oCx p s m meth c Z own nm code maxL ret) (o : oOn p l e R s m args below meth c Z cells slots T L) {x : Int32} (i k : Nat) (hi : L[i]? = some (a, oArr Z .double vs)) (hk : x = Int32.ofNat k) (hv : vs[k]? = some v) (hd : decode code pc = .ok (.daload, 1)) (hp : pc + 1 = pc')
    (kk : oGo p e below K (T.setTop (mkF m pc' Ls (v :: st)))) : oGo p e below K (T.setTop (mkF m pc Ls (.int x :: .ref a :: st))) := by
  subst hp; obtain ⟨lc, X, N, H⟩ := o
  obtain ⟨-, cl, hc, B⟩ := H.at_ hi
  obtain ⟨q1, q2⟩ := B.inb hk (List.getElem?_eq_some_iff.mp hv).1
  exact kk.via fun t q => X.daload cx.1 hc (State.isArrayOf_alike cx.2.1.alike B.1) B.2.1 q2 (by rw [q1]; exact B.get hv) (g := mkF m pc Ls (.int x :: .ref a :: st)) rfl rfl (hb cx.2.2.1 hd) t q
theorem g_zaload (cx : oCx p s m meth c Z own nm code maxL ret) (o : oOn p l e R s m args below meth c Z cells slots T L) {x : Int32} (i k : Nat) (hi : L[i]? = some (a, oArr Z .boolean vs)) (hk : x = Int32.ofNat k) (hv : vs[k]? = some v) (hd : decode code pc = .ok (.baload, 1)) (hp : pc + 1 = pc')
    (kk : oGo p e below K (T.setTop (mkF m pc' Ls (v :: st)))) : oGo p e below K (T.setTop (mkF m pc Ls (.int x :: .ref a :: st))) := by
  subst hp; obtain ⟨lc, X, N, H⟩ := o
  obtain ⟨-, cl, hc, B⟩ := H.at_ hi
  obtain ⟨q1, q2⟩ := B.inb hk (List.getElem?_eq_some_iff.mp hv).1
  exact kk.via fun t q => X.baloadBooleans cx.1 hc (State.isArrayOf_alike cx.2.1.alike B.1) B.2.1 q2 (by rw [q1]; exact B.get hv) (g := mkF m pc Ls (.int x :: .ref a :: st)) rfl rfl (hb cx.2.2.1 hd) t q
theorem g_aaload (cx : oCx p s m meth c Z own nm code maxL ret) (o : oOn p l e R s m args below meth c Z cells slots T L) {x : Int32} {ty : FieldType} (hty : ty.isReference = true) (i k : Nat) (hi : L[i]? = some (a, oArr Z ty vs)) (hk : x = Int32.ofNat k) (hv : vs[k]? = some v) (hd : decode code pc = .ok (.aaload, 1)) (hp : pc + 1 = pc')
    (kk : oGo p e below K (T.setTop (mkF m pc' Ls (v :: st)))) : oGo p e below K (T.setTop (mkF m pc Ls (.int x :: .ref a :: st))) := by
  subst hp; obtain ⟨lc, X, N, H⟩ := o
  obtain ⟨-, cl, hc, B⟩ := H.at_ hi
  obtain ⟨q1, q2⟩ := B.inb hk (List.getElem?_eq_some_iff.mp hv).1
  exact kk.via fun t q => X.aaload cx.1 hc (State.isArrayOf_alike cx.2.1.alike B.1) hty B.2.1 q2 (by rw [q1]; exact B.get hv) (g := mkF m pc Ls (.int x :: .ref a :: st)) rfl rfl (hb cx.2.2.1 hd) t q
theorem g_iastore (cx : oCx p s m meth c Z own nm code maxL ret) (o : oOn p l e R s m args below meth c Z cells slots T L) {x : Int32} {y : Int32} (i k : Nat) (hi : L[i]? = some (a, oArr Z .int vs)) (hk : x = Int32.ofNat k) (hlt : k < vs.length) (hd : decode code pc = .ok (.iastore, 1)) (hp : pc + 1 = pc')
    (kk : ∀ T', oOn p l e R s m args below meth c Z cells slots T' (L.set i (a, oArr Z .int (vs.set k (.int y)))) → oGo p e below K (T'.setTop (mkF m pc' Ls st))) : oGo p e below K (T.setTop (mkF m pc Ls (.int y :: .int x :: .ref a :: st))) := by
  subst hp; obtain ⟨lc, X, N, H⟩ := o
  obtain ⟨q0, cl, hc, B⟩ := H.at_ hi
  obtain ⟨q1, q2⟩ := B.inb hk hlt
  obtain ⟨T', h', X', e', Wd, stp⟩ := stI X cx.1 cx.2.1 rfl (B.arr hc) q2 (g := mkF m pc Ls (.int y :: .int x :: .ref a :: st)) rfl rfl (hb cx.2.2.1 hd)
  subst e'
  rw [q1] at Wd X'
  exact (kk T' ⟨_, X', Fr.snoc X' N q0, H.wr hi Wd fun c' hc' => hc'.put rfl⟩).via stp
theorem g_lastore (cx : oCx p s m meth c Z own nm code maxL ret) (o : oOn p l e R s m args below meth c Z cells slots T L) {x : Int32} {y : Int64} (i k : Nat) (hi : L[i]? = some (a, oArr Z .long vs)) (hk : x = Int32.ofNat k) (hlt : k < vs.length) (hd : decode code pc = .ok (.lastore, 1)) (hp : pc + 1 = pc')
    (kk : ∀ T', oOn p l e R s m args below meth c Z cells slots T' (L.set i (a, oArr Z .long (vs.set k (.long y)))) → oGo p e below K (T'.setTop (mkF m pc' Ls st))) : oGo p e below K (T.setTop (mkF m pc Ls (.long y :: .int x :: .ref a :: st))) := by
  subst hp; obtain ⟨lc, X, N, H⟩ := o
  obtain ⟨q0, cl, hc, B⟩ := H.at_ hi
  obtain ⟨q1, q2⟩ := B.inb hk hlt
  obtain ⟨T', h', X', e', Wd, stp⟩ := stJ X cx.1 cx.2.1 rfl (B.arr hc) q2 (g := mkF m pc Ls (.long y :: .int x :: .ref a :: st)) rfl rfl (hb cx.2.2.1 hd)
  subst e'
  rw [q1] at Wd X'
  exact (kk T' ⟨_, X', Fr.snoc X' N q0, H.wr hi Wd fun c' hc' => hc'.put rfl⟩).via stp
theorem g_dastore (cx : oCx p s m meth c Z own nm code maxL ret) (o : oOn p l e R s m args below meth c Z cells slots T L) {x : Int32} {y : UInt64} (i k : Nat) (hi : L[i]? = some (a, oArr Z .double vs)) (hk : x = Int32.ofNat k) (hlt : k < vs.length) (hd : decode code pc = .ok (.dastore, 1)) (hp : pc + 1 = pc')
    (kk : ∀ T', oOn p l e R s m args below meth c Z cells slots T' (L.set i (a, oArr Z .double (vs.set k (.double y)))) → oGo p e below K (T'.setTop (mkF m pc' Ls st))) : oGo p e below K (T.setTop (mkF m pc Ls (.double y :: .int x :: .ref a :: st))) := by
  subst hp; obtain ⟨lc, X, N, H⟩ := o
  obtain ⟨q0, cl, hc, B⟩ := H.at_ hi
  obtain ⟨q1, q2⟩ := B.inb hk hlt
  obtain ⟨T', h', X', e', Wd, stp⟩ := stD X cx.1 cx.2.1 rfl (B.arr hc) q2 (g := mkF m pc Ls (.double y :: .int x :: .ref a :: st)) rfl rfl (hb cx.2.2.1 hd)
  subst e'
  rw [q1] at Wd X'
  exact (kk T' ⟨_, X', Fr.snoc X' N q0, H.wr hi Wd fun c' hc' => hc'.put rfl⟩).via stp
theorem g_zastore (cx : oCx p s m meth c Z own nm code maxL ret) (o : oOn p l e R s m args below meth c Z cells slots T L) {x : Int32} {y : Int32} (i k : Nat) (hi : L[i]? = some (a, oArr Z .boolean vs)) (hk : x = Int32.ofNat k) (hlt : k < vs.length) (hd : decode code pc = .ok (.bastore, 1)) (hp : pc + 1 = pc')
    (kk : ∀ T', oOn p l e R s m args below meth c Z cells slots T' (L.set i (a, oArr Z .boolean (vs.set k (.int (nar .boolean y))))) → oGo p e below K (T'.setTop (mkF m pc' Ls st))) : oGo p e below K (T.setTop (mkF m pc Ls (.int y :: .int x :: .ref a :: st))) := by
  subst hp; obtain ⟨lc, X, N, H⟩ := o
  obtain ⟨q0, cl, hc, B⟩ := H.at_ hi
  obtain ⟨q1, q2⟩ := B.inb hk hlt
  obtain ⟨T', h', X', e', Wd, stp⟩ := stZ X cx.1 cx.2.1 rfl (B.arr hc) q2 (g := mkF m pc Ls (.int y :: .int x :: .ref a :: st)) rfl rfl (hb cx.2.2.1 hd)
  subst e'
  rw [q1] at Wd X'
  exact (kk T' ⟨_, X', Fr.snoc X' N q0, H.wr hi Wd fun c' hc' => hc'.put (fits_nar_bool y)⟩).via stp
theorem g_static (cx : oCx p s m meth c Z own nm code maxL ret) (o : oOn p l e R s m args below meth c Z cells slots T L) {index : Nat} {y : MethodName} {code' : ByteArray} {maxL' : Nat} {ret' : Option FieldType} {rm : Room} {Q : Option Value → List oEnt → Prop} {as : List Value} (w1 : (Jvm.Cond.methodLink own index y).before a0 Z = true) (w2 : (Jvm.Cond.static y).before a0 Z = true) (w3 : (Jvm.Cond.initialized y.cls).before a0 Z = true) (w4 : (Jvm.Cond.code y code' maxL' ret').before a0 Z = true)
    (hM : oMeets l Z y code' maxL' ret' rm as L Q) {st0 rest : List Value} (hst : st0 = as.reverse ++ rest) {ps : List FieldType} {rr : Option FieldType} (pd : parseMethodDescriptor y.desc = some ⟨ps, rr⟩) (hln : as.length = ps.length) (hy : y.cls ≠ "java/lang/invoke/MethodHandle" ∧ y.cls ≠ "java/lang/invoke/VarHandle")
    (hsz : Ls.size = maxL) (W : Nat) (hW : (rest.map fun v => v.category).sum ≤ W) (hf : rm.frames + 1 ≤ R.frames) (hl : W + (maxL' + 11) + rm.locals ≤ R.locals) (hc : cells + rm.cells ≤ R.cells) (hs : slots + rm.slots ≤ R.slots) (hd : decode code pc = .ok (.invokestatic index, 3)) (hp : pc + 3 = pc')
    (kk : ∀ T' v L', Q v L' → oOn p l e R s m args below meth c Z (cells + rm.cells) (slots + rm.slots) T' L' → oGo p e below K (T'.setTop (mkF m pc' Ls (v.toList ++ rest)))) : oGo p e below K (T.setTop (mkF m pc Ls st0)) := by
  subst hp hst; obtain ⟨lc, X, N, H⟩ := o
  obtain ⟨v, _, ⟨T', lc', k', n'⟩, -, X', ⟨Lc, hQ, l', y', z'⟩, stp⟩ := Jvm.LawKit.callS X cx.1 (y := y) cx.2.2.2.2.1 (mvT cx.2.1 w1) (mvT cx.2.1 w2) (mvT cx.2.1 w3) (mvT cx.2.1 w4) hy (backOf (W := W) (Q := fun v hp Lc => Fr Z.heap.size Lc ∧ ∃ L', oHp Z hp L' ∧ Q v L') (hM [] T.heap H) cx.2.1 w4 w3 hf hl) (g := mkF m pc Ls (as.reverse ++ rest)) rfl (hsz.trans cx.2.2.2.1.symm) (argsL := as) (rest := rest) (lenOf pd hln) rfl (by show 2 * 0 + _ ≤ _; omega) (hb cx.2.2.1 hd) (fun _ _ => ⟨rfl, rfl, hc, hs⟩)
  dsimp only [Pt.U, Pt.locs, Pt.cells, Pt.slots] at X' l' y' z' stp hQ
  subst l' y' z'
  obtain ⟨N', L', H', q⟩ := hQ
  exact (kk T' v L' q ⟨_, X', Fr.app N N', H'⟩).via stp
theorem g_special (cx : oCx p s m meth c Z own nm code maxL ret) (o : oOn p l e R s m args below meth c Z cells slots T L) {index : Nat} {y : MethodName} {code' : ByteArray} {maxL' : Nat} {rm : Room} {Q : Option Value → List oEnt → Prop} {as : List Value} (hy1 : y.name = "<init>") (w1 : (Jvm.Cond.methodLink own index y).before a0 Z = true) (w2 : (Jvm.Cond.instanceMethod y).before a0 Z = true) (w3 : (Jvm.Cond.initialized y.cls).before a0 Z = true) (w4 : (Jvm.Cond.code y code' maxL' none).before a0 Z = true)
    (hM : oMeets l Z y code' maxL' none rm (.ref a :: as) L Q) {st0 rest : List Value} (hst : st0 = as.reverse ++ .ref a :: rest) {ps : List FieldType} {rr : Option FieldType} (pd : parseMethodDescriptor y.desc = some ⟨ps, rr⟩) (hln : as.length = ps.length) (hy : y.cls ≠ "java/lang/invoke/MethodHandle" ∧ y.cls ≠ "java/lang/invoke/VarHandle")
    (hsz : Ls.size = maxL) (W : Nat) (hW : (rest.map fun v => v.category).sum ≤ W) (hf : rm.frames + 1 ≤ R.frames) (hl : W + (maxL' + 11) + rm.locals ≤ R.locals) (hc : cells + rm.cells ≤ R.cells) (hs : slots + rm.slots ≤ R.slots) (hd : decode code pc = .ok (.invokespecial index, 3)) (hp : pc + 3 = pc')
    (kk : ∀ T' v L', Q v L' → oOn p l e R s m args below meth c Z (cells + rm.cells) (slots + rm.slots) T' L' → oGo p e below K (T'.setTop (mkF m pc' Ls (v.toList ++ rest)))) : oGo p e below K (T.setTop (mkF m pc Ls st0)) := by
  subst hp hst; obtain ⟨lc, X, N, H⟩ := o
  obtain ⟨v, _, ⟨T', lc', k', n'⟩, -, X', ⟨Lc, hQ, l', y', z'⟩, stp⟩ := X.specialBack cx.1 (y := y) hy1 cx.2.2.2.2.1 (mvT cx.2.1 w1) (mvT cx.2.1 w2) (mvT cx.2.1 w4) hy (backOf (W := W) (Q := fun v hp Lc => Fr Z.heap.size Lc ∧ ∃ L', oHp Z hp L' ∧ Q v L') (hM [] T.heap H) cx.2.1 w4 w3 hf hl) (g := mkF m pc Ls (as.reverse ++ .ref a :: rest)) rfl (hsz.trans cx.2.2.2.1.symm) (Steps.refl _) (a := a) (argsL := as) (rest := rest) (lenOf pd hln) rfl (by show 2 * 0 + _ ≤ _; omega) (hb cx.2.2.1 hd) (fun _ _ => ⟨rfl, rfl, hc, hs⟩)
  dsimp only [Pt.U, Pt.locs, Pt.cells, Pt.slots] at X' l' y' z' stp hQ
  subst l' y' z'
  obtain ⟨N', L', H', q⟩ := hQ
  exact (kk T' v L' q ⟨_, X', Fr.app N N', H'⟩).via fun t r => stp.trans r
theorem g_virtual (cx : oCx p s m meth c Z own nm code maxL ret) (o : oOn p l e R s m args below meth c Z cells slots T L) {index : Nat} {C : String} {y z : MethodName} {code' : ByteArray} {maxL' : Nat} {ret' : Option FieldType} {rm : Room} {Q : Option Value → List oEnt → Prop} {as : List Value} {fs : oFs} (w1 : (Jvm.Cond.methodLink own index y).before a0 Z = true) (w2 : (Jvm.Cond.declares y).before a0 Z = true) (hnf : NotFace s y) (w5 : (Jvm.Cond.selects C y z).before a0 Z = true) (w6 : (Jvm.Cond.instanceMethod z).before a0 Z = true) (w3 : (Jvm.Cond.initialized z.cls).before a0 Z = true) (w4 : (Jvm.Cond.code z code' maxL' ret').before a0 Z = true)
    (i : Nat) (hi : L[i]? = some (a, oObj Z a0 C fs)) (hM : oMeets l Z z code' maxL' ret' rm (.ref a :: as) L Q) {st0 rest : List Value} (hst : st0 = as.reverse ++ .ref a :: rest) {ps : List FieldType} {rr : Option FieldType} (pd : parseMethodDescriptor y.desc = some ⟨ps, rr⟩) (hln : as.length = ps.length) (hy : y.cls ≠ "java/lang/invoke/MethodHandle" ∧ y.cls ≠ "java/lang/invoke/VarHandle")
    (hsz : Ls.size = maxL) (W : Nat) (hW : (rest.map fun v => v.category).sum ≤ W) (hf : rm.frames + 1 ≤ R.frames) (hl : W + (maxL' + 11) + rm.locals ≤ R.locals) (hc : cells + rm.cells ≤ R.cells) (hs : slots + rm.slots ≤ R.slots) (hd : decode code pc = .ok (.invokevirtual index, 3)) (hp : pc + 3 = pc')
    (kk : ∀ T' v L', Q v L' → oOn p l e R s m args below meth c Z (cells + rm.cells) (slots + rm.slots) T' L' → oGo p e below K (T'.setTop (mkF m pc' Ls (v.toList ++ rest)))) : oGo p e below K (T.setTop (mkF m pc Ls st0)) := by
  subst hp hst; obtain ⟨lc, X, N, H⟩ := o
  obtain ⟨-, cl, hcl, B⟩ := H.at_ hi
  obtain ⟨cq, kq, qa, qb, qc⟩ := isOf cx.2.1 (T := T) rfl (B.1.exa hcl)
  obtain ⟨v, _, ⟨T', lc', k', n'⟩, -, X', ⟨Lc, hQ, l', y', z'⟩, stp⟩ := X.virtualBack cx.1 (y := y) (z := z) cx.2.2.2.2.1 (mvT cx.2.1 w1) (mvT cx.2.1 w2) hnf (mvT cx.2.1 w5) (mvT cx.2.1 w6) hy (backOf (W := W) (Q := fun v hp Lc => Fr Z.heap.size Lc ∧ ∃ L', oHp Z hp L' ∧ Q v L') (hM [] T.heap H) cx.2.1 w4 w3 hf hl) qa qc (g := mkF m pc Ls (as.reverse ++ .ref a :: rest)) rfl (hsz.trans cx.2.2.2.1.symm) (Steps.refl _) (argsL := as) (rest := rest) (lenOf pd hln) rfl (by show 2 * 0 + _ ≤ _; omega) (hb cx.2.2.1 hd) (fun _ _ => ⟨rfl, rfl, hc, hs⟩)
  dsimp only [Pt.U, Pt.locs, Pt.cells, Pt.slots] at X' l' y' z' stp hQ
  subst l' y' z'
  obtain ⟨N', L', H', q⟩ := hQ
  exact (kk T' v L' q ⟨_, X', Fr.app N N', H'⟩).via fun t r => stp.trans r
theorem g_private (cx : oCx p s m meth c Z own nm code maxL ret) (o : oOn p l e R s m args below meth c Z cells slots T L) {index : Nat} {C : String} {y y0 z0 : MethodName} {code' : ByteArray} {maxL' : Nat} {ret' : Option FieldType} {rm : Room} {Q : Option Value → List oEnt → Prop} {as : List Value} {fs : oFs} (w1 : (Jvm.Cond.methodLink own index y).before a0 Z = true) (w5 : (Jvm.Cond.selects C y0 z0).before a0 Z = true) (hzc : z0.cls = y.cls) (w6 : (Jvm.Cond.instanceMethod y).before a0 Z = true) (w7 : (Jvm.Cond.privateMethod y).before a0 Z = true) (w3 : (Jvm.Cond.initialized y.cls).before a0 Z = true) (w4 : (Jvm.Cond.code y code' maxL' ret').before a0 Z = true)
    (i : Nat) (hi : L[i]? = some (a, oObj Z a0 C fs)) (hM : oMeets l Z y code' maxL' ret' rm (.ref a :: as) L Q) {st0 rest : List Value} (hst : st0 = as.reverse ++ .ref a :: rest) {ps : List FieldType} {rr : Option FieldType} (pd : parseMethodDescriptor y.desc = some ⟨ps, rr⟩) (hln : as.length = ps.length) (hy : y.cls ≠ "java/lang/invoke/MethodHandle" ∧ y.cls ≠ "java/lang/invoke/VarHandle")
    (hsz : Ls.size = maxL) (W : Nat) (hW : (rest.map fun v => v.category).sum ≤ W) (hf : rm.frames + 1 ≤ R.frames) (hl : W + (maxL' + 11) + rm.locals ≤ R.locals) (hc : cells + rm.cells ≤ R.cells) (hs : slots + rm.slots ≤ R.slots) (hd : decode code pc = .ok (.invokevirtual index, 3)) (hp : pc + 3 = pc')
    (kk : ∀ T' v L', Q v L' → oOn p l e R s m args below meth c Z (cells + rm.cells) (slots + rm.slots) T' L' → oGo p e below K (T'.setTop (mkF m pc' Ls (v.toList ++ rest)))) : oGo p e below K (T.setTop (mkF m pc Ls st0)) := by
  subst hp hst; obtain ⟨lc, X, N, H⟩ := o
  obtain ⟨-, cl, hcl, B⟩ := H.at_ hi
  obtain ⟨cc, hcc, hob⟩ := (B.1.exa hcl).cell
  have hsel : (Jvm.Cond.selects y.cls y y).before args s = true := by
    obtain ⟨c2, r2, m2, -, -, q3, -, kP, hkP, hkPi⟩ := Cond.selects_spec (show (Jvm.Cond.selects C y0 z0).before args s = true from mvT cx.2.1 w5)
    exact selects_self_of_private (hzc ▸ findClass_of_methodNamed q3) hkP hkPi (Cond.privateMethod_at (args := args) (mvP cx.2.1 w7)) (mvT cx.2.1 w6) hy
  obtain ⟨v, _, ⟨T', lc', k', n'⟩, -, X', ⟨Lc, hQ, l', y', z'⟩, stp⟩ := X.privateBack cx.1 (y := y) cx.2.2.2.2.1 (mvT cx.2.1 w1) (mvT cx.2.1 w6) hsel (Cond.privateMethod_at (args := args) (mvP cx.2.1 w7)) (mvT cx.2.1 w4) hy (backOf (W := W) (Q := fun v hp Lc => Fr Z.heap.size Lc ∧ ∃ L', oHp Z hp L' ∧ Q v L') (hM [] T.heap H) cx.2.1 w4 w3 hf hl) (g := mkF m pc Ls (as.reverse ++ .ref a :: rest)) rfl (hsz.trans cx.2.2.2.1.symm) (Steps.refl _) hcc hob (argsL := as) (rest := rest) (lenOf pd hln) rfl (by show 2 * 0 + _ ≤ _; omega) (hb cx.2.2.1 hd) (fun _ _ => ⟨rfl, rfl, hc, hs⟩)
  dsimp only [Pt.U, Pt.locs, Pt.cells, Pt.slots] at X' l' y' z' stp hQ
  subst l' y' z'
  obtain ⟨N', L', H', q⟩ := hQ
  exact (kk T' v L' q ⟨_, X', Fr.app N N', H'⟩).via fun t r => stp.trans r
theorem g_virtualO (cx : oCx p s m meth c Z own nm code maxL ret) (o : oOn p l e R s m args below meth c Z cells slots T L) {index : Nat} {C : String} {y z : MethodName} {code' : ByteArray} {maxL' : Nat} {ret' : Option FieldType} {rm : Room} {Q : Option Value → List oEnt → Prop} {as : List Value} (w1 : (Jvm.Cond.methodLink own index y).before a0 Z = true) (w2 : (Jvm.Cond.declares y).before a0 Z = true) (hnf : NotFace s y) (w5 : (Jvm.Cond.selects C y z).before a0 Z = true) (w6 : (Jvm.Cond.instanceMethod z).before a0 Z = true) (w3 : (Jvm.Cond.initialized z.cls).before a0 Z = true) (w4 : (Jvm.Cond.code z code' maxL' ret').before a0 Z = true)
    (E : Exa Z Z.heap a C) (hM : oMeets l Z z code' maxL' ret' rm (.ref a :: as) L Q) {st0 rest : List Value} (hst : st0 = as.reverse ++ .ref a :: rest) {ps : List FieldType} {rr : Option FieldType} (pd : parseMethodDescriptor y.desc = some ⟨ps, rr⟩) (hln : as.length = ps.length) (hy : y.cls ≠ "java/lang/invoke/MethodHandle" ∧ y.cls ≠ "java/lang/invoke/VarHandle")
    (hsz : Ls.size = maxL) (W : Nat) (hW : (rest.map fun v => v.category).sum ≤ W) (hf : rm.frames + 1 ≤ R.frames) (hl : W + (maxL' + 11) + rm.locals ≤ R.locals) (hc : cells + rm.cells ≤ R.cells) (hs : slots + rm.slots ≤ R.slots) (hd : decode code pc = .ok (.invokevirtual index, 3)) (hp : pc + 3 = pc')
    (kk : ∀ T' v L', Q v L' → oOn p l e R s m args below meth c Z (cells + rm.cells) (slots + rm.slots) T' L' → oGo p e below K (T'.setTop (mkF m pc' Ls (v.toList ++ rest)))) : oGo p e below K (T.setTop (mkF m pc Ls st0)) := by
  subst hp hst; obtain ⟨lc, X, N, H⟩ := o
  obtain ⟨cq, kq, qa, qb, qc⟩ := isOf cx.2.1 (T := T) rfl (E.ext H.1)
  obtain ⟨v, _, ⟨T', lc', k', n'⟩, -, X', ⟨Lc, hQ, l', y', z'⟩, stp⟩ := X.virtualBack cx.1 (y := y) (z := z) cx.2.2.2.2.1 (mvT cx.2.1 w1) (mvT cx.2.1 w2) hnf (mvT cx.2.1 w5) (mvT cx.2.1 w6) hy (backOf (W := W) (Q := fun v hp Lc => Fr Z.heap.size Lc ∧ ∃ L', oHp Z hp L' ∧ Q v L') (hM [] T.heap H) cx.2.1 w4 w3 hf hl) qa qc (g := mkF m pc Ls (as.reverse ++ .ref a :: rest)) rfl (hsz.trans cx.2.2.2.1.symm) (Steps.refl _) (argsL := as) (rest := rest) (lenOf pd hln) rfl (by show 2 * 0 + _ ≤ _; omega) (hb cx.2.2.1 hd) (fun _ _ => ⟨rfl, rfl, hc, hs⟩)
  dsimp only [Pt.U, Pt.locs, Pt.cells, Pt.slots] at X' l' y' z' stp hQ
  subst l' y' z'
  obtain ⟨N', L', H', q⟩ := hQ
  exact (kk T' v L' q ⟨_, X', Fr.app N N', H'⟩).via fun t r => stp.trans r
theorem g_ret {ty : FieldType} (cx : oCx p s m meth c Z own nm code maxL (some ty)) (o : oOn p l e R s m args below meth c Z cells slots T L) {w : Value} {ins : Instr} {Q : Option Value → List oEnt → Prop} {C S : Nat} (hn : narrow ty w = w)
    (hi : (ins = .ireturn ∧ (ty = .int ∨ ty = .boolean ∨ ty = .byte ∨ ty = .char ∨ ty = .short) ∧ ∃ z, w = .int z) ∨ (ins = .lreturn ∧ ty = .long ∧ ∃ z, w = .long z) ∨ (ins = .dreturn ∧ ty = .double ∧ ∃ z, w = .double z) ∨ (ins = .freturn ∧ ty = .float ∧ ∃ z, w = .float z) ∨ (ins = .areturn ∧ ty.isReference = true ∧ w.isRef = true))
    (hd : decode code pc = .ok (ins, 1)) (hc : cells ≤ C) (hs : slots ≤ S) (hQ : Q (some w) L) : oGo p e below (oEnd s Z Q C S) (T.setTop (mkF m pc Ls (w :: st))) := by
  obtain ⟨lc, X, N, H⟩ := o
  have hlk := cx.2.2.2.2.2.2.2
  obtain ⟨fs, hr, hrun, hended, hW, hsame⟩ := X.leave (v := some w) (fun h => by rw [cx.2.2.2.2.2.2.1] at h; cases h) hlk
  exact ⟨_, _, retOut X cx.1 cx.2.2.2.2.2.2.1 hn hi (hb cx.2.2.1 hd) hr, hrun, hended, _, _, rfl, ⟨N, L, H, hQ⟩, ⟨_, rfl⟩, hW, hsame.mono hc hs⟩
theorem g_ireturn (cx : oCx p s m meth c Z own nm code maxL (some .int)) (o : oOn p l e R s m args below meth c Z cells slots T L) {z : Int32} {Q : Option Value → List oEnt → Prop} {C S : Nat} (hd : decode code pc = .ok (.ireturn, 1)) (hc : cells ≤ C) (hs : slots ≤ S) (hQ : Q (some (.int z)) L) : oGo p e below (oEnd s Z Q C S) (T.setTop (mkF m pc Ls (.int z :: st))) :=
  g_ret cx o rfl (Or.inl ⟨rfl, Or.inl rfl, z, rfl⟩) hd hc hs hQ
theorem g_ireturnZ (cx : oCx p s m meth c Z own nm code maxL (some .boolean)) (o : oOn p l e R s m args below meth c Z cells slots T L) {z : Int32} {Q : Option Value → List oEnt → Prop} {C S : Nat} (hd : decode code pc = .ok (.ireturn, 1)) (hz : z &&& 1 = z) (hc : cells ≤ C) (hs : slots ≤ S) (hQ : Q (some (.int z)) L) : oGo p e below (oEnd s Z Q C S) (T.setTop (mkF m pc Ls (.int z :: st))) :=
  g_ret cx o (show narrow .boolean (.int z) = .int z from congrArg Value.int hz) (Or.inl ⟨rfl, Or.inr (Or.inl rfl), z, rfl⟩) hd hc hs hQ
theorem g_dreturn (cx : oCx p s m meth c Z own nm code maxL (some .double)) (o : oOn p l e R s m args below meth c Z cells slots T L) {z : UInt64} {Q : Option Value → List oEnt → Prop} {C S : Nat} (hd : decode code pc = .ok (.dreturn, 1)) (hc : cells ≤ C) (hs : slots ≤ S) (hQ : Q (some (.double z)) L) : oGo p e below (oEnd s Z Q C S) (T.setTop (mkF m pc Ls (.double z :: st))) :=
  g_ret cx o rfl (Or.inr (Or.inr (Or.inl ⟨rfl, rfl, z, rfl⟩))) hd hc hs hQ
theorem g_lreturn (cx : oCx p s m meth c Z own nm code maxL (some .long)) (o : oOn p l e R s m args below meth c Z cells slots T L) {z : Int64} {Q : Option Value → List oEnt → Prop} {C S : Nat} (hd : decode code pc = .ok (.lreturn, 1)) (hc : cells ≤ C) (hs : slots ≤ S) (hQ : Q (some (.long z)) L) : oGo p e below (oEnd s Z Q C S) (T.setTop (mkF m pc Ls (.long z :: st))) :=
  g_ret cx o rfl (Or.inr (Or.inl ⟨rfl, rfl, z, rfl⟩)) hd hc hs hQ
theorem g_areturn {cn : String} (cx : oCx p s m meth c Z own nm code maxL (some (.object cn))) (o : oOn p l e R s m args below meth c Z cells slots T L) {w : Value} {Q : Option Value → List oEnt → Prop} {C S : Nat} (hw : w.isRef = true) (hd : decode code pc = .ok (.areturn, 1)) (hc : cells ≤ C) (hs : slots ≤ S) (hQ : Q (some w) L) : oGo p e below (oEnd s Z Q C S) (T.setTop (mkF m pc Ls (w :: st))) :=
  g_ret cx o (by rcases ref_cases hw with rfl | ⟨x, rfl⟩ <;> rfl) (Or.inr (Or.inr (Or.inr (Or.inr ⟨rfl, rfl, hw⟩)))) hd hc hs hQ
theorem g_return (cx : oCx p s m meth c Z own nm code maxL none) (o : oOn p l e R s m args below meth c Z cells slots T L) {Q : Option Value → List oEnt → Prop} {C S : Nat} (hd : decode code pc = .ok (.return_, 1)) (hc : cells ≤ C) (hs : slots ≤ S) (hQ : Q none L) : oGo p e below (oEnd s Z Q C S) (T.setTop (mkF m pc Ls [])) := by
  obtain ⟨lc, X, N, H⟩ := o
  have hlk := cx.2.2.2.2.2.2.2
  obtain ⟨fs, hr, hrun, hended, hW, hsame⟩ := X.leave (v := none) (fun _ => rfl) hlk
  exact ⟨_, _, X.returnOut cx.1 cx.2.2.2.2.2.2.1 (hb cx.2.2.1 hd) hr, hrun, hended, _, _, rfl, ⟨N, L, H, hQ⟩, ⟨_, rfl⟩, hW, hsame.mono hc hs⟩
end OwnRules

section OwnFP
open Jvm.FP
/-- a double's value, in units of 2^-1074 -/
abbrev oz (a : UInt64) : Int := Core.zval Core.b64 (Core.val64 a)
theorem o_sgT (c : Nat) : Core.signed true c = -(c : Int) := rfl
theorem o_sgF (c : Nat) : Core.signed false c = (c : Int) := rfl
theorem o_qmin : Core.b64.qmin = -1074 := Core.qmin_b64
theorem o_qmax : Core.b64.qmax = 971 := by decide
/-- N units are the value of some double -/
def oRep (N : Int) : Prop := ∃ V : Core.Datum, Core.fits Core.b64 V ∧ (∃ s c q, V = .fin s c q) ∧ Core.zval Core.b64 V = N
theorem oRep.ofC {N : Int} {c t : Nat} (h : N.natAbs = c * 2 ^ t) (hc : c < 2 ^ 53) (ht : t ≤ 2045) : oRep N := by
  have q1 := o_qmin
  have q2 := o_qmax
  obtain ⟨c', q', e1, e2⟩ := Core.round_exact Core.good_b64 (decide (N < 0)) (c := c) (q := (t : Int) + Core.b64.qmin) hc (by omega) (by omega)
  refine ⟨_, Core.round_fits Core.good_b64 (.fin (decide (N < 0)) c ((t : Int) + Core.b64.qmin)), ⟨_, c', q', e1⟩, ?_⟩
  rw [e1]
  show Core.signed (decide (N < 0)) (Core.inUnits c' q' Core.b64.qmin) = N
  rw [e2]
  have e3 : Core.inUnits c ((t : Int) + Core.b64.qmin) Core.b64.qmin = c * 2 ^ t := by
    show c * 2 ^ ((t : Int) + Core.b64.qmin - Core.b64.qmin).toNat = c * 2 ^ t
    rw [show ((t : Int) + Core.b64.qmin - Core.b64.qmin).toNat = t by omega]
  rw [e3, ← h]
  by_cases hn : N < 0
  · rw [decide_eq_true hn]; show -(N.natAbs : Int) = N; omega
  · rw [decide_eq_false hn]; show (N.natAbs : Int) = N; omega
theorem oRep.of {N : Int} {c t : Nat} (h : N.natAbs = c * 2 ^ t) (hc : c ≤ 2 ^ 53) (ht : t ≤ 2044) : oRep N := by
  rcases Nat.lt_or_eq_of_le hc with q | q
  · exact oRep.ofC h q (by omega)
  · exact oRep.ofC (c := 2 ^ 52) (t := t + 1) (by rw [h, q, Nat.pow_succ 2 t, ← Nat.mul_assoc, Nat.mul_right_comm]) (by decide) (by omega)
theorem o_val_fin {D V : Core.Datum} (hn : D ≠ .nan) (hV : Core.fits Core.b64 V) (hv : ∃ s c q, V = .fin s c q) (e : Core.zval Core.b64 D = Core.zval Core.b64 V) : ∃ s c q, D = .fin s c q := by
  cases D with
  | nan => exact absurd rfl hn
  | fin s c q => exact ⟨s, c, q, rfl⟩
  | inf s =>
    obtain ⟨s', c, q, rfl⟩ := hv
    have h1 := Core.zmag_lt_top Core.good_b64 hV
    have h2 : (Core.signed s (Core.zmag Core.b64 (.inf s))).natAbs = (Core.signed s' (Core.zmag Core.b64 (.fin s' c q))).natAbs := congrArg Int.natAbs e
    rw [Core.natAbs_signed, Core.natAbs_signed] at h2
    exact absurd h2 (Nat.ne_of_gt h1)
theorem o_fin_nn {a : UInt64} (h : Core.DFin a) : NoNaN64 a := val64_no.mpr fun q => by
  obtain ⟨s, c, q', e⟩ := h; rw [q] at e; cases e
theorem o_fin_ne {a : UInt64} (h : Core.DFin a) : Core.val64 a ≠ .nan := val64_no.mp (o_fin_nn h)
theorem o_ne_of_fin {V : Core.Datum} (h : ∃ s c q, V = Core.Datum.fin s c q) : V ≠ .nan := by obtain ⟨_, _, _, rfl⟩ := h; exact Core.Datum.noConfusion
theorem o_sum_ne {x y : Core.Datum} (hx : ∃ s c q, x = Core.Datum.fin s c q) (hy : ∃ s c q, y = Core.Datum.fin s c q) : Core.round Core.b64 (Core.exactSum x y) ≠ .nan := by
  obtain ⟨s, c, q, rfl⟩ := hx; obtain ⟨t, d, r, rfl⟩ := hy; exact Core.roundRatio_ne_nan _ _ _ _ _
theorem o_dadd {a b : UInt64} (ha : Core.DFin a) (hb : Core.DFin b) (h : oRep (oz a + oz b)) : Core.DFin (FP.dadd a b) ∧ oz (FP.dadd a b) = oz a + oz b := by
  obtain ⟨V, fV, vV, eV⟩ := h
  have e : Core.val64 (FP.dadd a b) = Core.round Core.b64 (Core.exactSum (Core.val64 a) (Core.val64 b)) := Core.val64_dadd a b
  have l := Core.sum_le Core.good_b64 ha hb (Core.val64_fits a) (Core.val64_fits b) fV (o_ne_of_fin vV) (by rw [eV]; exact Int.le_refl _)
  have g := Core.sum_ge Core.good_b64 ha hb (Core.val64_fits a) (Core.val64_fits b) fV (o_ne_of_fin vV) (by rw [eV]; exact Int.le_refl _)
  have ez := Int.le_antisymm l g
  refine ⟨?_, ?_⟩
  · show ∃ s c q, Core.val64 (FP.dadd a b) = .fin s c q
    rw [e]; exact o_val_fin (o_sum_ne ha hb) fV vV ez
  · show Core.zval Core.b64 (Core.val64 (FP.dadd a b)) = _
    rw [e, ez, eV]
theorem o_neg_fin {x : Core.Datum} (h : ∃ s c q, x = Core.Datum.fin s c q) : ∃ s c q, Core.negate x = Core.Datum.fin s c q := by obtain ⟨s, c, q, rfl⟩ := h; exact ⟨_, _, _, rfl⟩
theorem o_dsub {a b : UInt64} (ha : Core.DFin a) (hb : Core.DFin b) (h : oRep (oz a - oz b)) : Core.DFin (FP.dsub a b) ∧ oz (FP.dsub a b) = oz a - oz b := by
  obtain ⟨V, fV, vV, eV⟩ := h
  have e : Core.val64 (FP.dsub a b) = Core.round Core.b64 (Core.exactSum (Core.val64 a) (Core.negate (Core.val64 b))) := Core.val64_dsub a b
  have hb' := o_neg_fin hb
  have zb : Core.zval Core.b64 (Core.val64 a) + Core.zval Core.b64 (Core.negate (Core.val64 b)) = Core.zval Core.b64 V := by rw [Core.zval_negate, eV]; exact (Int.sub_eq_add_neg).symm
  have l := Core.sum_le Core.good_b64 ha hb' (Core.val64_fits a) (Core.negate_fits (Core.val64_fits b)) fV (o_ne_of_fin vV) (Int.le_of_eq zb)
  have g := Core.sum_ge Core.good_b64 ha hb' (Core.val64_fits a) (Core.negate_fits (Core.val64_fits b)) fV (o_ne_of_fin vV) (Int.le_of_eq zb.symm)
  have ez := Int.le_antisymm l g
  refine ⟨?_, ?_⟩
  · show ∃ s c q, Core.val64 (FP.dsub a b) = .fin s c q
    rw [e]; exact o_val_fin (o_sum_ne ha hb') fV vV ez
  · show Core.zval Core.b64 (Core.val64 (FP.dsub a b)) = _
    rw [e, ez, eV]
theorem o_two : ((2 ^ (Core.b64.qmin - 2 * Core.b64.qmin).toNat : Nat) : Int) = (Core.one64 : Int) := by
  rw [show (Core.b64.qmin - 2 * Core.b64.qmin) = -Core.b64.qmin by omega, Core.pow_qmin64]
theorem o_dmul {a b : UInt64} {N : Int} (ha : Core.DFin a) (hb : Core.DFin b) (hN : oz a * oz b = N * (Core.one64 : Int)) (h : oRep N) : Core.DFin (FP.dmul a b) ∧ oz (FP.dmul a b) = N := by
  obtain ⟨V, fV, vV, eV⟩ := h
  have e : Core.val64 (FP.dmul a b) = Core.round Core.b64 (Core.exactProduct (Core.val64 a) (Core.val64 b)) := Core.val64_dmul a b
  have fa := Core.val64_fits a
  have fb := Core.val64_fits b
  obtain ⟨s, c, q, h1⟩ := ha
  obtain ⟨t, d, r, h2⟩ := hb
  have hN' : Core.zval Core.b64 (Core.val64 a) * Core.zval Core.b64 (Core.val64 b) = N * (Core.one64 : Int) := hN
  rw [h1] at fa hN' e
  rw [h2] at fb hN' e
  obtain ⟨p1, p2, p3⟩ := Core.product_units fa fb
  rw [p1] at e
  have key : Core.signed (s != t) (Core.inUnits (c * d) (q + r) (2 * Core.b64.qmin)) = Core.zval Core.b64 V * ((2 ^ (Core.b64.qmin - 2 * Core.b64.qmin).toNat : Nat) : Int) := by
    rw [p3, Core.signed_xor, o_two, eV]; exact hN'
  have q0 := Core.qmin_neg Core.good_b64
  have l := Core.zval_round_le Core.good_b64 fV (o_ne_of_fin vV) (e0 := 2 * Core.b64.qmin) (by omega) p2 (Int.le_of_eq key)
  have g := Core.zval_round_ge Core.good_b64 fV (o_ne_of_fin vV) (e0 := 2 * Core.b64.qmin) (by omega) p2 (Int.le_of_eq key.symm)
  have ez := Int.le_antisymm l g
  refine ⟨?_, ?_⟩
  · show ∃ s c q, Core.val64 (FP.dmul a b) = .fin s c q
    rw [e]; exact o_val_fin (Core.roundRatio_ne_nan _ _ _ _ _) fV vV ez
  · show Core.zval Core.b64 (Core.val64 (FP.dmul a b)) = _
    rw [e, ez, eV]
/-! the quotient, by magnitudes -/
theorem o_quot {a b : UInt64} (ha : Core.DFin a) (hb : Core.DFin b) (hz : oz b ≠ 0) : ∃ s t c q d r, Core.val64 a = .fin s c q ∧ Core.val64 b = .fin t d r ∧ d ≠ 0 ∧ Core.val64 (FP.ddiv a b) = Core.roundRatio Core.b64 (s != t) c d (q - r) := by
  obtain ⟨s, c, q, h1⟩ := ha
  obtain ⟨t, d, r, h2⟩ := hb
  have hd : d ≠ 0 := fun e => hz (by show Core.zval Core.b64 (Core.val64 b) = 0; rw [h2, e]; show Core.signed t (0 * _) = 0; rw [Nat.zero_mul]; cases t <;> rfl)
  refine ⟨s, t, c, q, d, r, h1, h2, hd, ?_⟩
  have e : Core.val64 (FP.ddiv a b) = Core.quotient Core.b64 (Core.val64 a) (Core.val64 b) := Core.val64_ddiv a b
  rw [e, h1, h2]
  show (if d = 0 then _ else _) = _
  rw [if_neg hd]
theorem o_units {c d : Nat} {q r e0 : Int} {N : Nat} (fq : Core.b64.qmin ≤ q) (fr : Core.b64.qmin ≤ r) (h0 : e0 ≤ Core.b64.qmin) (h1 : e0 ≤ q - r) :
    (Core.inUnits c (q - r) e0 ≤ N * 2 ^ (Core.b64.qmin - e0).toNat * d ↔ Core.inUnits c q Core.b64.qmin * Core.one64 ≤ N * Core.inUnits d r Core.b64.qmin) ∧
    (N * 2 ^ (Core.b64.qmin - e0).toNat * d ≤ Core.inUnits c (q - r) e0 ↔ N * Core.inUnits d r Core.b64.qmin ≤ Core.inUnits c q Core.b64.qmin * Core.one64) := by
  have q0 := o_qmin
  have e1 : Core.one64 = 2 ^ 1074 := rfl
  have hp : 0 < 2 ^ (r - e0 - Core.b64.qmin).toNat := Nat.two_pow_pos _
  have hp2 : 0 < 2 ^ (Core.b64.qmin - e0).toNat := Nat.two_pow_pos _
  have A : Core.inUnits c (q - r) e0 * 2 ^ (r - Core.b64.qmin).toNat = Core.inUnits c q Core.b64.qmin * Core.one64 * 2 ^ (Core.b64.qmin - e0).toNat := by
    show c * 2 ^ (q - r - e0).toNat * 2 ^ (r - Core.b64.qmin).toNat = c * 2 ^ (q - Core.b64.qmin).toNat * Core.one64 * 2 ^ (Core.b64.qmin - e0).toNat
    rw [e1, Nat.mul_assoc, ← Nat.pow_add, Nat.mul_assoc, Nat.mul_assoc, ← Nat.pow_add, ← Nat.pow_add]
    congr 2
    omega
  have B : N * 2 ^ (Core.b64.qmin - e0).toNat * d * 2 ^ (r - Core.b64.qmin).toNat = N * Core.inUnits d r Core.b64.qmin * 2 ^ (Core.b64.qmin - e0).toNat := by
    show _ = N * (d * 2 ^ (r - Core.b64.qmin).toNat) * 2 ^ (Core.b64.qmin - e0).toNat
    generalize 2 ^ (Core.b64.qmin - e0).toNat = X
    generalize 2 ^ (r - Core.b64.qmin).toNat = Y
    rw [Nat.mul_assoc, Nat.mul_right_comm]
  have hr : 0 < 2 ^ (r - Core.b64.qmin).toNat := Nat.two_pow_pos _
  constructor
  · rw [← Nat.mul_le_mul_right_iff hr, A, B, Nat.mul_le_mul_right_iff hp2]
  · rw [← Nat.mul_le_mul_right_iff hr, A, B, Nat.mul_le_mul_right_iff hp2]
theorem o_zmag {a : UInt64} {s : Bool} {c : Nat} {q : Int} (h : Core.val64 a = .fin s c q) : (oz a).natAbs = Core.inUnits c q Core.b64.qmin ∧ Core.b64.qmin ≤ q := by
  have f := Core.val64_fits a
  refine ⟨?_, by rw [h] at f; exact f.2.1⟩
  show (Core.zval Core.b64 (Core.val64 a)).natAbs = _
  rw [h]; exact Core.natAbs_signed _ _
theorem o_ddiv_le {a b : UInt64} {V : Core.Datum} (ha : Core.DFin a) (hb : Core.DFin b) (hz : oz b ≠ 0) (fV : Core.fits Core.b64 V) (hn : V ≠ .nan) (h : (oz a).natAbs * Core.one64 ≤ Core.zmag Core.b64 V * (oz b).natAbs) : (oz (FP.ddiv a b)).natAbs ≤ Core.zmag Core.b64 V := by
  obtain ⟨s, t, c, q, d, r, h1, h2, hd, e⟩ := o_quot ha hb hz
  obtain ⟨m1, f1⟩ := o_zmag h1
  obtain ⟨m2, f2⟩ := o_zmag h2
  rw [m1, m2] at h
  have k := Core.zmag_roundRatio_le Core.good_b64 (s := s != t) (A := c) (B := d) (e := q - r) (e0 := min Core.b64.qmin (q - r)) (V := V) (Nat.pos_of_ne_zero hd) fV hn (by omega) (by omega) ((o_units f1 f2 (by omega) (by omega)).1.mpr h)
  show (Core.zval Core.b64 (Core.val64 (FP.ddiv a b))).natAbs ≤ _
  rw [e]; show (Core.signed (Core.sgn _) (Core.zmag Core.b64 _)).natAbs ≤ _; rw [Core.natAbs_signed]; exact k
theorem o_ddiv_ge {a b : UInt64} {V : Core.Datum} (ha : Core.DFin a) (hb : Core.DFin b) (hz : oz b ≠ 0) (fV : Core.fits Core.b64 V) (h : Core.zmag Core.b64 V * (oz b).natAbs ≤ (oz a).natAbs * Core.one64) : Core.zmag Core.b64 V ≤ (oz (FP.ddiv a b)).natAbs := by
  obtain ⟨s, t, c, q, d, r, h1, h2, hd, e⟩ := o_quot ha hb hz
  obtain ⟨m1, f1⟩ := o_zmag h1
  obtain ⟨m2, f2⟩ := o_zmag h2
  rw [m1, m2] at h
  have k := Core.zmag_roundRatio_ge Core.good_b64 (s := s != t) (A := c) (B := d) (e := q - r) (e0 := min Core.b64.qmin (q - r)) (V := V) (Nat.pos_of_ne_zero hd) fV (by omega) (by omega) ((o_units f1 f2 (by omega) (by omega)).2.mpr h)
  show _ ≤ (Core.zval Core.b64 (Core.val64 (FP.ddiv a b))).natAbs
  rw [e]; show _ ≤ (Core.signed (Core.sgn _) (Core.zmag Core.b64 _)).natAbs; rw [Core.natAbs_signed]; exact k
theorem o_ddiv_nn {a b : UInt64} (ha : Core.DFin a) (hb : Core.DFin b) (hz : oz b ≠ 0) : NoNaN64 (FP.ddiv a b) := val64_no.mpr (by
  obtain ⟨s, t, c, q, d, r, h1, h2, hd, e⟩ := o_quot ha hb hz
  rw [e]; exact Core.roundRatio_ne_nan _ _ _ _ _)
/-- the quotient's sign: as the operands' (of a quotient that isn't nought) -/
theorem o_ddiv_sgn {a b : UInt64} (ha : Core.DFin a) (hb : Core.DFin b) (hz : oz b ≠ 0) : (0 ≤ oz a → 0 < oz b → 0 ≤ oz (FP.ddiv a b)) ∧ (oz a < 0 → 0 < oz b → oz (FP.ddiv a b) ≤ 0) ∧ (0 < oz a → oz b < 0 → oz (FP.ddiv a b) ≤ 0) ∧ (oz a < 0 → oz b < 0 → 0 ≤ oz (FP.ddiv a b)) ∧ (oz a = 0 → oz (FP.ddiv a b) = 0) := by
  obtain ⟨s, t, c, q, d, r, h1, h2, hd, e⟩ := o_quot ha hb hz
  have za : oz a = Core.signed s (Core.inUnits c q Core.b64.qmin) := by show Core.zval Core.b64 (Core.val64 a) = _; rw [h1]; rfl
  have zb : oz b = Core.signed t (Core.inUnits d r Core.b64.qmin) := by show Core.zval Core.b64 (Core.val64 b) = _; rw [h2]; rfl
  have zq : oz (FP.ddiv a b) = Core.signed (s != t) (Core.zmag Core.b64 (Core.roundRatio Core.b64 (s != t) c d (q - r))) := by
    show Core.zval Core.b64 (Core.val64 (FP.ddiv a b)) = _
    rw [e]; show Core.signed (Core.sgn _) (Core.zmag Core.b64 _) = _; rw [Core.sgn_roundRatio]
  have p1 : 0 < d * 2 ^ (r - Core.b64.qmin).toNat := Nat.mul_pos (Nat.pos_of_ne_zero hd) (Nat.two_pow_pos _)
  have p0 : oz a = 0 → oz (FP.ddiv a b) = 0 := fun h => by
    have hc : c = 0 := by
      have : Core.inUnits c q Core.b64.qmin = 0 := by rw [za] at h; exact (Core.signed_eq_zero _ _).mp h
      have h3 : c * 2 ^ (q - Core.b64.qmin).toNat = 0 := this
      rcases Nat.mul_eq_zero.mp h3 with h4 | h4
      · exact h4
      · exact absurd h4 (Nat.ne_of_gt (Nat.two_pow_pos _))
    rw [zq, hc]
    have : Core.roundRatio Core.b64 (s != t) 0 d (q - r) = .fin (s != t) 0 Core.b64.qmin := rfl
    rw [this]; show Core.signed (s != t) (0 * _) = 0; rw [Nat.zero_mul]; cases s <;> cases t <;> rfl
  have zb' : oz b = Core.signed t (d * 2 ^ (r - Core.b64.qmin).toNat) := zb
  generalize Core.zmag Core.b64 (Core.roundRatio Core.b64 (s != t) c d (q - r)) = M at zq
  generalize Core.inUnits c q Core.b64.qmin = A at za
  generalize d * 2 ^ (r - Core.b64.qmin).toNat = B at zb' p1
  refine ⟨fun h h' => ?_, fun h h' => ?_, fun h h' => ?_, fun h h' => ?_, p0⟩
  · by_cases h0 : oz a = 0
    · rw [p0 h0]; exact Int.le_refl _
    · rw [zq]; rw [za] at h h0; rw [zb'] at h'; cases s <;> cases t <;> simp [o_sgT, o_sgF] at h h0 h' ⊢ <;> omega
  · rw [zq]; rw [za] at h; rw [zb'] at h'; cases s <;> cases t <;> simp [o_sgT, o_sgF] at h h' ⊢ <;> omega
  · rw [zq]; rw [za] at h; rw [zb'] at h'; cases s <;> cases t <;> simp [o_sgT, o_sgF] at h h' ⊢ <;> omega
  · rw [zq]; rw [za] at h; rw [zb'] at h'; cases s <;> cases t <;> simp [o_sgT, o_sgF] at h h' ⊢ <;> omega
theorem o_ddiv {a b : UInt64} {N : Int} (ha : Core.DFin a) (hb : Core.DFin b) (hz : oz b ≠ 0) (hN : oz a * (Core.one64 : Int) = N * oz b) (h : oRep N) : Core.DFin (FP.ddiv a b) ∧ oz (FP.ddiv a b) = N := by
  obtain ⟨V, fV, vV, eV⟩ := h
  have hm := congrArg Int.natAbs hN
  rw [Int.natAbs_mul, Int.natAbs_mul, Int.natAbs_natCast] at hm
  have eV' : Core.zmag Core.b64 V = N.natAbs := by rw [← eV]; exact (Core.natAbs_signed _ _).symm
  have l := o_ddiv_le ha hb hz fV (o_ne_of_fin vV) (by rw [eV', hm]; exact Nat.le_refl _)
  have g := o_ddiv_ge ha hb hz fV (by rw [eV', hm]; exact Nat.le_refl _)
  have hM : (oz (FP.ddiv a b)).natAbs = N.natAbs := by rw [← eV']; exact Nat.le_antisymm l g
  obtain ⟨s1, s2, s3, s4, s5⟩ := o_ddiv_sgn ha hb hz
  have hp : (0 : Int) < (Core.one64 : Int) := by have := Core.one64_pos; omega
  have hsg : oz (FP.ddiv a b) = N := by
    rcases Int.lt_trichotomy (oz a) 0 with h1 | h1 | h1
    · rcases Int.lt_trichotomy (oz b) 0 with h2 | h2 | h2
      · have := s4 h1 h2
        have h3 : ¬ N < 0 := fun hn => by
          have := Int.mul_pos_of_neg_of_neg hn h2
          have := Int.mul_neg_of_neg_of_pos h1 hp
          omega
        omega
      · exact absurd h2 hz
      · have := s2 h1 h2
        have h3 : ¬ 0 < N := fun hn => by
          have := Int.mul_pos hn h2
          have := Int.mul_neg_of_neg_of_pos h1 hp
          omega
        omega
    · have := s5 h1; omega
    · rcases Int.lt_trichotomy (oz b) 0 with h2 | h2 | h2
      · have := s3 h1 h2
        have h3 : ¬ 0 < N := fun hn => by
          have := Int.mul_neg_of_pos_of_neg hn h2
          have := Int.mul_pos h1 hp
          omega
        omega
      · exact absurd h2 hz
      · have := s1 (Int.le_of_lt h1) h2
        have h3 : ¬ N < 0 := fun hn => by
          have := Int.mul_neg_of_neg_of_pos hn h2
          have := Int.mul_pos h1 hp
          omega
        omega
  refine ⟨?_, hsg⟩
  exact o_val_fin (val64_no.mp (o_ddiv_nn ha hb hz)) fV vV (by rw [eV]; exact hsg)
/-! numbers n / 2^k -/
/-- a's value is n / 2^k -/
def oR (n : Int) (k : Nat) (a : UInt64) : Prop := Core.DFin a ∧ oz a * ((2 ^ k : Nat) : Int) = n * (Core.one64 : Int)
theorem o_pow_pos (k : Nat) : (0 : Int) < ((2 ^ k : Nat) : Int) := by have := Nat.two_pow_pos k; omega
theorem oR.fin {n : Int} {k : Nat} {a : UInt64} (h : oR n k a) : Core.DFin a := h.1
theorem oR.nn {n : Int} {k : Nat} {a : UInt64} (h : oR n k a) : NoNaN64 a := o_fin_nn h.1
theorem o_one (k : Nat) (hk : k ≤ 1074) : (Core.one64 : Int) = ((2 ^ (1074 - k) : Nat) : Int) * ((2 ^ k : Nat) : Int) := by
  rw [← Int.natCast_mul, ← Nat.pow_add, show 1074 - k + k = 1074 by omega]; rfl
theorem oR.z {n : Int} {k : Nat} {a : UInt64} (h : oR n k a) (hk : k ≤ 1074) : oz a = n * ((2 ^ (1074 - k) : Nat) : Int) := by
  have := h.2
  rw [o_one k hk, ← Int.mul_assoc] at this
  exact Int.eq_of_mul_eq_mul_right (Int.ne_of_gt (o_pow_pos k)) this
theorem oR.mk' {n : Int} {k : Nat} {a : UInt64} (f : Core.DFin a) (hk : k ≤ 1074) (h : oz a = n * ((2 ^ (1074 - k) : Nat) : Int)) : oR n k a := ⟨f, by rw [h, o_one k hk, Int.mul_assoc]⟩
theorem oRep.dy {n : Int} {k : Nat} (hn : n.natAbs ≤ 2 ^ 53) (hk : k ≤ 1074) : oRep (n * ((2 ^ (1074 - k) : Nat) : Int)) :=
  oRep.of (c := n.natAbs) (t := 1074 - k) (by rw [Int.natAbs_mul, Int.natAbs_natCast]) hn (by omega)
theorem oR.up {n : Int} {k : Nat} {a : UInt64} (h : oR n k a) (j : Nat) : oR (n * ((2 ^ j : Nat) : Int)) (k + j) a := ⟨h.1, by
  rw [Nat.pow_add, Int.natCast_mul, ← Int.mul_assoc, h.2, Int.mul_right_comm]⟩
theorem oR.cast {n n' : Int} {k : Nat} {a : UInt64} (h : oR n k a) (e : n = n') : oR n' k a := e ▸ h
theorem oR.int {i : Int} {a : UInt64} (h : Core.DInt i a) : oR i 0 a := by
  refine ⟨?_, ?_⟩
  · show ∃ s c q, Core.val64 a = .fin s c q
    have h' : Core.Whole i (Core.val64 a) := h
    cases e : Core.val64 a with
    | nan => rw [e] at h'; exact h'.elim
    | inf s => rw [e] at h'; exact h'.elim
    | fin s c q => exact ⟨s, c, q, rfl⟩
  · rw [show oz a = i * (Core.one64 : Int) from Core.DInt_zval h]; simp
theorem oR.i2d (x : Int32) : oR x.toInt 0 (FP.i2d x) := .int (Core.i2d_int x)
theorem oR.l2d {x : Int64} (h : x.toInt.natAbs ≤ 2 ^ 53) : oR x.toInt 0 (FP.l2d x) := .int (Core.l2d_int h)
theorem oR.add {n n' : Int} {k : Nat} {a b : UInt64} (ha : oR n k a) (hb : oR n' k b) (h : (n + n').natAbs ≤ 2 ^ 53) (hk : k ≤ 1074) : oR (n + n') k (FP.dadd a b) := by
  have e : oz a + oz b = (n + n') * ((2 ^ (1074 - k) : Nat) : Int) := by rw [ha.z hk, hb.z hk, Int.add_mul]
  obtain ⟨f, z⟩ := o_dadd ha.1 hb.1 (by rw [e]; exact oRep.dy h hk)
  exact .mk' f hk (z.trans e)
theorem oR.sub {n n' : Int} {k : Nat} {a b : UInt64} (ha : oR n k a) (hb : oR n' k b) (h : (n - n').natAbs ≤ 2 ^ 53) (hk : k ≤ 1074) : oR (n - n') k (FP.dsub a b) := by
  have e : oz a - oz b = (n - n') * ((2 ^ (1074 - k) : Nat) : Int) := by rw [ha.z hk, hb.z hk, Int.sub_mul]
  obtain ⟨f, z⟩ := o_dsub ha.1 hb.1 (by rw [e]; exact oRep.dy h hk)
  exact .mk' f hk (z.trans e)
theorem oR.mul {n n' : Int} {k k' : Nat} {a b : UInt64} (ha : oR n k a) (hb : oR n' k' b) (h : (n * n').natAbs ≤ 2 ^ 53) (hk : k + k' ≤ 1074) : oR (n * n') (k + k') (FP.dmul a b) := by
  have e : oz a * oz b = n * n' * ((2 ^ (1074 - (k + k')) : Nat) : Int) * (Core.one64 : Int) := by
    rw [ha.z (by omega), hb.z (by omega)]
    have e1 : (Core.one64 : Int) = ((2 ^ 1074 : Nat) : Int) := rfl
    rw [e1, Int.mul_assoc (n * n'), ← Int.natCast_mul, ← Nat.pow_add]
    have e2 : n * ((2 ^ (1074 - k) : Nat) : Int) * (n' * ((2 ^ (1074 - k') : Nat) : Int)) = n * n' * (((2 ^ (1074 - k) : Nat) : Int) * ((2 ^ (1074 - k') : Nat) : Int)) := by
      generalize ((2 ^ (1074 - k) : Nat) : Int) = X; generalize ((2 ^ (1074 - k') : Nat) : Int) = Y
      rw [Int.mul_assoc, ← Int.mul_assoc X, Int.mul_comm X n', Int.mul_assoc n' X Y, ← Int.mul_assoc n n']
    rw [e2, ← Int.natCast_mul, ← Nat.pow_add, show 1074 - k + (1074 - k') = 1074 - (k + k') + 1074 by omega]
  obtain ⟨f, z⟩ := o_dmul ha.1 hb.1 e (oRep.dy h hk)
  exact .mk' f hk z
/-- an exact quotient: n / n' = g / 2^j -/
theorem oR.div {n n' g : Int} {k j : Nat} {a b : UInt64} (ha : oR n k a) (hb : oR n' k b) (hz : n' ≠ 0) (e : n * ((2 ^ j : Nat) : Int) = g * n') (h : g.natAbs ≤ 2 ^ 53) (hk : k ≤ 1074) (hj : j ≤ 1074) : oR g j (FP.ddiv a b) := by
  have zb : oz b ≠ 0 := fun q => by
    rw [hb.z hk] at q
    rcases Int.mul_eq_zero.mp q with q | q
    · exact hz q
    · have := o_pow_pos (1074 - k); omega
  have E : oz a * (Core.one64 : Int) = g * ((2 ^ (1074 - j) : Nat) : Int) * oz b := by
    rw [ha.z hk, hb.z hk, o_one j hj]
    generalize ((2 ^ (1074 - k) : Nat) : Int) = X
    generalize ((2 ^ (1074 - j) : Nat) : Int) = Y at *
    generalize ((2 ^ j : Nat) : Int) = J at *
    have : n * X * (Y * J) = n * J * (X * Y) := by
      rw [Int.mul_assoc, Int.mul_assoc, Int.mul_comm Y J, ← Int.mul_assoc X, Int.mul_comm X J, Int.mul_assoc J]
    rw [this, e]
    rw [Int.mul_assoc, Int.mul_assoc, ← Int.mul_assoc Y, Int.mul_comm Y n', Int.mul_assoc n' Y, Int.mul_comm Y X]
  obtain ⟨f, z⟩ := o_ddiv ha.1 hb.1 zb E (oRep.dy h hj)
  exact .mk' f hj z
theorem oR.ne0 {n : Int} {k : Nat} {a : UInt64} (h : oR n k a) (hn : n ≠ 0) (hk : k ≤ 1074) : oz a ≠ 0 := fun q => by
  rw [h.z hk] at q
  rcases Int.mul_eq_zero.mp q with q | q
  · exact hn q
  · have := o_pow_pos (1074 - k); omega
theorem oR.cmp {n n' : Int} {k : Nat} {a b : UInt64} (ha : oR n k a) (hb : oR n' k b) (hk : k ≤ 1074) : FP.dcmp a b = some (compare n n') := by
  have h1 : FP.dcmp a b = some (compare (oz a) (oz b)) := Core.dcmp_zval (o_fin_ne ha.1) (o_fin_ne hb.1)
  rw [h1, ha.z hk, hb.z hk, Core.compare_mul_pos _ _ _ (o_pow_pos _)]
theorem o_cmpV {f : CmpOp} {a b : UInt64} {n n' : Int} (h : FP.dcmp a b = some (compare n n')) : cmpValue (FP.dcmp a b) f = if n < n' then -1 else if n = n' then 0 else 1 := by
  rw [h]
  by_cases h1 : n < n'
  · rw [if_pos h1, (Core.compare_lt_iff n n').mpr h1]; rfl
  · rw [if_neg h1]
    by_cases h2 : n = n'
    · rw [if_pos h2, (Core.compare_eq_iff n n').mpr h2]; rfl
    · rw [if_neg h2, (Core.compare_gt_iff n n').mpr (by omega)]; rfl
theorem oR.cv {f : CmpOp} {n n' : Int} {k : Nat} {a b : UInt64} (ha : oR n k a) (hb : oR n' k b) (hk : k ≤ 1074 := by decide) : cmpValue (FP.dcmp a b) f = if n < n' then -1 else if n = n' then 0 else 1 := o_cmpV (ha.cmp hb hk)
theorem oR.eq0 {f : CmpOp} {n n' : Int} {k : Nat} {a b : UInt64} (ha : oR n k a) (hb : oR n' k b) (e : n = n') (hk : k ≤ 1074 := by decide) : cmpValue (FP.dcmp a b) f = 0 := by
  rw [ha.cv hb hk, if_neg (by omega), if_pos e]
theorem oR.zero : oR 0 0 FP.dconst0 := by
  have : Core.DInt 0 FP.dconst0 := by
    show Core.Whole 0 (Core.val64 Core.dconst0)
    rw [Core.val64_dconst0]; show Core.signed false (0 * _) = 0 * _; rw [Nat.zero_mul, o_sgF]; simp
  exact .int this
theorem oR.one : oR 1 0 FP.dconst1 := .int Core.dint_one
theorem oR.uniq {n : Int} {k : Nat} {a b : UInt64} (ha : oR n k a) (hb : oR n k b) (hn : n ≠ 0) (hk : k ≤ 1074) : oz a = oz b := by rw [ha.z hk, hb.z hk]
theorem o_cvz {f : CmpOp} {a b : UInt64} (ha : NoNaN64 a) (hb : NoNaN64 b) : cmpValue (FP.dcmp a b) f = if oz a < oz b then -1 else if oz a = oz b then 0 else 1 :=
  o_cmpV (Core.dcmp_zval (val64_no.mp ha) (val64_no.mp hb))
theorem o_zx {n : Nat} {x : UInt64} (hx : oR (n : Int) 0 x) : oz x = ((n * 2 ^ 1074 : Nat) : Int) := by
  have h := hx.z (by decide)
  rw [h, ← Int.natCast_mul]
theorem o_rep {g k : Nat} (hg : g ≤ 2 ^ 53) (hk : k ≤ 1074) : ∃ V : Core.Datum, Core.fits Core.b64 V ∧ (∃ s c q, V = .fin s c q) ∧ Core.zmag Core.b64 V = g * 2 ^ (1074 - k) := by
  obtain ⟨V, fV, vV, eV⟩ := oRep.dy (n := (g : Int)) (k := k) (by rw [Int.natAbs_natCast]; exact hg) hk
  refine ⟨V, fV, vV, ?_⟩
  have h := congrArg Int.natAbs eV
  rw [← Int.natCast_mul, Int.natAbs_natCast] at h
  rw [← h]; exact (Core.natAbs_signed _ _).symm
theorem o_U (k : Nat) (hk : k ≤ 1074) : (2 : Nat) ^ 1074 = 2 ^ k * 2 ^ (1074 - k) := by rw [← Nat.pow_add, show k + (1074 - k) = 1074 by omega]
theorem o_div_le {n m g k : Nat} {x y : UInt64} (hx : oR (n : Int) 0 x) (hy : oR (m : Int) 0 y) (hm : 0 < m) (hg : g ≤ 2 ^ 53) (hk : k ≤ 1074) (h : n * 2 ^ k ≤ g * m) : 0 ≤ oz (FP.ddiv x y) ∧ oz (FP.ddiv x y) ≤ ((g * 2 ^ (1074 - k) : Nat) : Int) := by
  have zx := o_zx hx
  have zy := o_zx hy
  have pm : 0 < m * 2 ^ 1074 := Nat.mul_pos hm (Nat.two_pow_pos _)
  have ny : oz y ≠ 0 := by rw [zy]; exact Int.ne_of_gt (Int.ofNat_lt.mpr pm)
  obtain ⟨V, fV, vV, zV⟩ := o_rep hg hk
  have l := o_ddiv_le hx.1 hy.1 ny fV (o_ne_of_fin vV) (by
    rw [zx, zy, zV, Int.natAbs_natCast, Int.natAbs_natCast]
    show n * 2 ^ 1074 * 2 ^ 1074 ≤ g * 2 ^ (1074 - k) * (m * 2 ^ 1074)
    have hU := o_U k hk
    generalize (2 : Nat) ^ 1074 = U at *
    generalize (2 : Nat) ^ (1074 - k) = B at *
    generalize (2 : Nat) ^ k = A at *
    have e1 : n * U * U = n * A * (B * U) := by rw [hU, ← Nat.mul_assoc n A B, Nat.mul_assoc (n * A) B]
    have e2 : g * B * (m * U) = g * m * (B * U) := by rw [Nat.mul_assoc, ← Nat.mul_assoc B m, Nat.mul_comm B m, Nat.mul_assoc m B, ← Nat.mul_assoc g m]
    rw [e1, e2]; exact Nat.mul_le_mul_right _ h)
  rw [zV] at l
  have s := (o_ddiv_sgn hx.1 hy.1 ny).1 (by rw [zx]; exact Int.natCast_nonneg _) (by rw [zy]; exact Int.ofNat_lt.mpr pm)
  generalize oz (FP.ddiv x y) = D at *
  generalize g * 2 ^ (1074 - k) = G at *
  omega
theorem o_div_ge {n m g k : Nat} {x y : UInt64} (hx : oR (n : Int) 0 x) (hy : oR (m : Int) 0 y) (hm : 0 < m) (hg : g ≤ 2 ^ 53) (hk : k ≤ 1074) (h : g * m ≤ n * 2 ^ k) : ((g * 2 ^ (1074 - k) : Nat) : Int) ≤ oz (FP.ddiv x y) := by
  have zx := o_zx hx
  have zy := o_zx hy
  have pm : 0 < m * 2 ^ 1074 := Nat.mul_pos hm (Nat.two_pow_pos _)
  have ny : oz y ≠ 0 := by rw [zy]; exact Int.ne_of_gt (Int.ofNat_lt.mpr pm)
  obtain ⟨V, fV, vV, zV⟩ := o_rep hg hk
  have l := o_ddiv_ge hx.1 hy.1 ny fV (by
    rw [zx, zy, zV, Int.natAbs_natCast, Int.natAbs_natCast]
    show g * 2 ^ (1074 - k) * (m * 2 ^ 1074) ≤ n * 2 ^ 1074 * 2 ^ 1074
    have hU := o_U k hk
    generalize (2 : Nat) ^ 1074 = U at *
    generalize (2 : Nat) ^ (1074 - k) = B at *
    generalize (2 : Nat) ^ k = A at *
    have e1 : n * U * U = n * A * (B * U) := by rw [hU, ← Nat.mul_assoc n A B, Nat.mul_assoc (n * A) B]
    have e2 : g * B * (m * U) = g * m * (B * U) := by rw [Nat.mul_assoc, ← Nat.mul_assoc B m, Nat.mul_comm B m, Nat.mul_assoc m B, ← Nat.mul_assoc g m]
    rw [e1, e2]; exact Nat.mul_le_mul_right _ h)
  rw [zV] at l
  have s := (o_ddiv_sgn hx.1 hy.1 ny).1 (by rw [zx]; exact Int.natCast_nonneg _) (by rw [zy]; exact Int.ofNat_lt.mpr pm)
  generalize oz (FP.ddiv x y) = D at *
  generalize g * 2 ^ (1074 - k) = G at *
  omega
theorem o_div_nn {n m : Nat} {x y : UInt64} (hx : oR (n : Int) 0 x) (hy : oR (m : Int) 0 y) (hm : 0 < m) : NoNaN64 (FP.ddiv x y) :=
  o_ddiv_nn hx.1 hy.1 (by rw [o_zx hy]; exact Int.ne_of_gt (Int.ofNat_lt.mpr (Nat.mul_pos hm (Nat.two_pow_pos _))))
theorem o_oz1 : oz FP.dconst1 = ((2 ^ 1074 : Nat) : Int) := by have := o_zx (n := 1) oR.one; rw [this, Nat.one_mul]
theorem o_oz0 : oz FP.dconst0 = 0 := by have := o_zx (n := 0) oR.zero; rw [this, Nat.zero_mul]; rfl
/-- n / m for 0 ≤ n < m: below 1, and above 0 where n is -/
theorem o_frac {n m : Nat} {x y : UInt64} (hx : oR (n : Int) 0 x) (hy : oR (m : Int) 0 y) (h : n < m) (hm : m ≤ 2 ^ 53) : 0 ≤ oz (FP.ddiv x y) ∧ oz (FP.ddiv x y) < oz FP.dconst1 ∧ (0 < n → 0 < oz (FP.ddiv x y)) := by
  have l := o_div_le (g := 2 ^ 53 - 1) (k := 53) hx hy (by omega) (by omega) (by decide) (by
    have e : (2 ^ 53 - 1) * m = 2 ^ 53 * m - m := by rw [Nat.sub_mul, Nat.one_mul]
    have e2 : n * 2 ^ 53 + 2 ^ 53 ≤ 2 ^ 53 * m := by rw [Nat.mul_comm (2 ^ 53) m, ← Nat.succ_mul]; exact Nat.mul_le_mul_right _ h
    rw [e]; exact Nat.le_trans (Nat.le_sub_of_add_le e2) (Nat.sub_le_sub_left hm _))
  refine ⟨l.1, ?_, fun hn => ?_⟩
  · rw [o_oz1]
    refine Int.lt_of_le_of_lt l.2 (Int.ofNat_lt.mpr ?_)
    rw [o_U 53 (by decide)]
    exact Nat.mul_lt_mul_of_pos_right (by decide) (Nat.two_pow_pos _)
  · have g := o_div_ge (g := 1) (k := 53) hx hy (by omega) (by decide) (by decide) (by rw [Nat.one_mul]; exact Nat.le_trans hm (Nat.le_mul_of_pos_left _ hn))
    have p : 0 < 1 * 2 ^ (1074 - 53) := by rw [Nat.one_mul]; exact Nat.two_pow_pos _
    exact Int.lt_of_lt_of_le (Int.ofNat_lt.mpr p) g
/-- quotients of one value round alike -/
theorem o_div_same {x y x' y' : UInt64} (hx : Core.DFin x) (hy : Core.DFin y) (hx' : Core.DFin x') (hy' : Core.DFin y') (zy : 0 < oz y) (zy' : 0 < oz y') (px : 0 ≤ oz x) (px' : 0 ≤ oz x') (h : oz x * oz y' = oz x' * oz y) : oz (FP.ddiv x y) = oz (FP.ddiv x' y') := by
  have n1 : oz y ≠ 0 := by omega
  have n2 : oz y' ≠ 0 := by omega
  by_cases h0 : oz x = 0
  · have h1 : oz x' = 0 := by
      rw [h0, Int.zero_mul] at h
      rcases Int.mul_eq_zero.mp h.symm with q | q
      · exact q
      · exact absurd q n1
    rw [(o_ddiv_sgn hx hy n1).2.2.2.2 h0, (o_ddiv_sgn hx' hy' n2).2.2.2.2 h1]
  · have h1 : oz x' ≠ 0 := fun q => by
      rw [q, Int.zero_mul] at h
      rcases Int.mul_eq_zero.mp h with q | q
      · exact h0 q
      · exact n2 q
    obtain ⟨s, t, c, q, d, r, e1, e2, hd, e3⟩ := o_quot hx hy n1
    obtain ⟨s', t', c', q', d', r', e1', e2', hd', e3'⟩ := o_quot hx' hy' n2
    have f1 : Core.b64.qmin ≤ q := (o_zmag e1).2
    have f2 : Core.b64.qmin ≤ r := (o_zmag e2).2
    have f1' : Core.b64.qmin ≤ q' := (o_zmag e1').2
    have f2' : Core.b64.qmin ≤ r' := (o_zmag e2').2
    have sg : ∀ {a : UInt64} {s : Bool} {c : Nat} {q : Int}, Core.val64 a = .fin s c q → 0 < oz a → s = false ∧ oz a = ((c * 2 ^ (q - Core.b64.qmin).toNat : Nat) : Int) := by
      intro a s c q e p
      have z : oz a = Core.signed s (c * 2 ^ (q - Core.b64.qmin).toNat) := by show Core.zval Core.b64 (Core.val64 a) = _; rw [e]; rfl
      rw [z] at p ⊢
      obtain ⟨p1, p2⟩ := Core.signed_pos p
      refine ⟨?_, p1⟩
      cases s
      · rfl
      · rw [p1] at p; rw [o_sgT] at p1; omega
    obtain ⟨rfl, z1⟩ := sg e1 (by omega)
    obtain ⟨rfl, z2⟩ := sg e2 zy
    obtain ⟨rfl, z1'⟩ := sg e1' (by omega)
    obtain ⟨rfl, z2'⟩ := sg e2' zy'
    rw [z1, z2, z1', z2', ← Int.natCast_mul, ← Int.natCast_mul] at h
    have h2 := Int.ofNat.inj h
    have key : c * d' * 2 ^ ((q - r) - (q' - r')).toNat = c' * d * 2 ^ ((q' - r') - (q - r)).toNat := by
      have hp : 0 < 2 ^ (min (q + r') (q' + r) - 2 * Core.b64.qmin).toNat := Nat.two_pow_pos _
      apply Nat.eq_of_mul_eq_mul_right hp
      rw [Nat.mul_assoc (c * d'), ← Nat.pow_add, Nat.mul_assoc (c' * d), ← Nat.pow_add]
      rw [show ((q - r) - (q' - r')).toNat + (min (q + r') (q' + r) - 2 * Core.b64.qmin).toNat = (q - Core.b64.qmin).toNat + (r' - Core.b64.qmin).toNat by omega]
      rw [show ((q' - r') - (q - r)).toNat + (min (q + r') (q' + r) - 2 * Core.b64.qmin).toNat = (q' - Core.b64.qmin).toNat + (r - Core.b64.qmin).toNat by omega]
      rw [Nat.pow_add, Nat.pow_add]
      generalize 2 ^ (q - Core.b64.qmin).toNat = A at *
      generalize 2 ^ (r' - Core.b64.qmin).toNat = B at *
      generalize 2 ^ (q' - Core.b64.qmin).toNat = A' at *
      generalize 2 ^ (r - Core.b64.qmin).toNat = B' at *
      rw [show c * d' * (A * B) = c * A * (d' * B) by rw [Nat.mul_assoc, Nat.mul_assoc, Nat.mul_left_comm d' A B]]
      rw [show c' * d * (A' * B') = c' * A' * (d * B') by rw [Nat.mul_assoc, Nat.mul_assoc, Nat.mul_left_comm d A' B']]
      exact h2
    have e4 := Core.roundRatio_congr (f := Core.b64) (s := (false != false)) (A := c) (B := d) (A' := c') (B' := d') (e := q - r) (e' := q' - r') (Nat.pos_of_ne_zero hd) (Nat.pos_of_ne_zero hd') key
    show Core.zval Core.b64 (Core.val64 (FP.ddiv x y)) = Core.zval Core.b64 (Core.val64 (FP.ddiv x' y'))
    rw [e3, e3', e4]
/-- an exact product, its value said as g / 2^j -/
theorem oR.mulTo {n n' g : Int} {k k' j : Nat} {a b : UInt64} (ha : oR n k a) (hb : oR n' k' b) (e : n * n' * ((2 ^ j : Nat) : Int) = g * ((2 ^ (k + k') : Nat) : Int)) (h : g.natAbs ≤ 2 ^ 53) (hk : k + k' ≤ 1074) (hj : j ≤ 1074) : oR g j (FP.dmul a b) := by
  have E : oz a * oz b = g * ((2 ^ (1074 - j) : Nat) : Int) * (Core.one64 : Int) := by
    have p := o_pow_pos (k + k')
    have p2 := o_pow_pos j
    have h1 := ha.2
    have h2 := hb.2
    have h3 : oz a * oz b * ((2 ^ (k + k') : Nat) : Int) = n * n' * ((Core.one64 : Int) * (Core.one64 : Int)) := by
      rw [Nat.pow_add, Int.natCast_mul]
      generalize ((2 ^ k : Nat) : Int) = X at *
      generalize ((2 ^ k' : Nat) : Int) = Y at *
      generalize (Core.one64 : Int) = U at *
      calc oz a * oz b * (X * Y) = oz a * X * (oz b * Y) := by rw [Int.mul_assoc, Int.mul_assoc, Int.mul_left_comm (oz b) X Y]
        _ = n * U * (n' * U) := by rw [h1, h2]
        _ = n * n' * (U * U) := by rw [Int.mul_assoc, Int.mul_assoc, Int.mul_left_comm U n' U]
    apply Int.eq_of_mul_eq_mul_right (Int.ne_of_gt p)
    rw [h3]
    apply Int.eq_of_mul_eq_mul_right (Int.ne_of_gt p2)
    have hU := o_one j hj
    generalize ((2 ^ (k + k') : Nat) : Int) = K at *
    generalize ((2 ^ j : Nat) : Int) = J at *
    generalize ((2 ^ (1074 - j) : Nat) : Int) = B at *
    generalize (Core.one64 : Int) = U at *
    calc n * n' * (U * U) * J = n * n' * J * (U * U) := by rw [Int.mul_right_comm]
      _ = g * K * (U * U) := by rw [e]
      _ = g * K * (U * (B * J)) := by rw [← hU]
      _ = g * B * U * K * J := by
        rw [Int.mul_assoc g K, Int.mul_assoc g B, Int.mul_assoc g (B * U), Int.mul_assoc g]
        congr 1
        rw [Int.mul_comm K, Int.mul_comm B U, Int.mul_assoc U B J |>.symm, Int.mul_right_comm (U * B) J K]
  obtain ⟨f, z⟩ := o_dmul ha.1 hb.1 E (oRep.dy h hj)
  exact .mk' f hj z
end OwnFP

theorem o_mul_abs {a b : Int} {A B : Nat} (ha : a.natAbs ≤ A) (hb : b.natAbs ≤ B) : (a * b).natAbs ≤ A * B := by rw [Int.natAbs_mul]; exact Nat.mul_le_mul ha hb

theorem o_of1 (O a : Nat) : Int32.ofNat O + Int32.ofNat a = Int32.ofNat (O + a) := (Int32.ofNat_add O a).symm
theorem o_of2 (O a b : Nat) : Int32.ofNat O + Int32.ofNat a + Int32.ofNat b = Int32.ofNat (O + a + b) := by rw [o_of1, o_of1]
theorem o_setne {vs : List Value} {i j : Nat} {x : Value} {r : Option Value} (h : vs[j]? = r) (q : i ≠ j) : (vs.set i x)[j]? = r := by rw [List.getElem?_set_ne q]; exact h
theorem o_setat {vs : List Value} {i j : Nat} {x : Value} (q : i = j) (h : i < vs.length) : (vs.set i x)[j]? = some x := by subst q; exact List.getElem?_set_self h
theorem o_nib (x : Int32) : ∃ O : Nat, O < 4 ∧ x &&& 3 = Int32.ofNat O := by
  have h := Jvm.Kit.i32_mask x 3 (k := 2) (by decide) (by decide)
  refine ⟨(x &&& 3).toInt.toNat, by omega, Int32.toInt_inj.mp ?_⟩
  have e : (Int32.ofNat (x &&& 3).toInt.toNat).toInt = ((x &&& 3).toInt.toNat : Int) := len_toInt (by omega)
  rw [e]; omega
theorem o_and3 (x : Int32) : x &&& 3 = 0 ∨ x &&& 3 = 1 ∨ x &&& 3 = 2 ∨ x &&& 3 = 3 := by
  have h := Jvm.Kit.i32_mask x 3 (k := 2) (by decide) (by decide)
  have h2 : (x &&& 3).toInt = 0 ∨ (x &&& 3).toInt = 1 ∨ (x &&& 3).toInt = 2 ∨ (x &&& 3).toInt = 3 := by omega
  rcases h2 with h | h | h | h
  · exact Or.inl (Int32.toInt_inj.mp h)
  · exact Or.inr (Or.inl (Int32.toInt_inj.mp h))
  · exact Or.inr (Or.inr (Or.inl (Int32.toInt_inj.mp h)))
  · exact Or.inr (Or.inr (Or.inr (Int32.toInt_inj.mp h)))
theorem o_add64 {x y : Int64} {a b A B : Int} (hx : x.toInt = a) (hy : y.toInt = b) (ha : -A ≤ a ∧ a ≤ A) (hb : -B ≤ b ∧ b ≤ B) (h : A + B < 9223372036854775808) : (x + y).toInt = a + b ∧ -(A + B) ≤ a + b ∧ a + b ≤ A + B := by
  refine ⟨?_, by omega, by omega⟩
  rw [Jvm.Kit.i64_add (by rw [hx, hy]; omega) (by rw [hx, hy]; omega), hx, hy]
theorem o_mulb {a b A B : Int} (ha : -A ≤ a ∧ a ≤ A) (hb : -B ≤ b ∧ b ≤ B) : -(A * B) ≤ a * b ∧ a * b ≤ A * B := by
  have h := o_mul_abs (a := a) (b := b) (A := A.toNat) (B := B.toNat) (by omega) (by omega)
  have e : ((A.toNat * B.toNat : Nat) : Int) = A * B := by rw [Int.natCast_mul, Int.toNat_of_nonneg (by omega), Int.toNat_of_nonneg (by omega)]
  generalize A.toNat * B.toNat = N at *
  generalize A * B = M at *
  generalize a * b = x at *
  omega
theorem o_mul64 {x y : Int64} {a b A B : Int} (hx : x.toInt = a) (hy : y.toInt = b) (ha : -A ≤ a ∧ a ≤ A) (hb : -B ≤ b ∧ b ≤ B) (h : A * B < 9223372036854775808) : (x * y).toInt = a * b ∧ -(A * B) ≤ a * b ∧ a * b ≤ A * B := by
  have q := o_mulb ha hb
  refine ⟨?_, q⟩
  rw [Jvm.Kit.i64_mul (by rw [hx, hy]; omega) (by rw [hx, hy]; omega), hx, hy]

theorem d5_0 : decode prog_32_method_3_code 0 = .ok (.iconst 0, 1) := by decide +kernel
theorem d5_1 : decode prog_32_method_3_code 1 = .ok (.istore 5, 2) := by decide +kernel
theorem d5_3 : decode prog_32_method_3_code 3 = .ok (.iload 5, 2) := by decide +kernel
theorem d5_5 : decode prog_32_method_3_code 5 = .ok (.iload_n 2, 1) := by decide +kernel
theorem d5_6 : decode prog_32_method_3_code 6 = .ok (.if_icmp .ge 79, 3) := by decide +kernel
theorem d5_9 : decode prog_32_method_3_code 9 = .ok (.iload_n 1, 1) := by decide +kernel
theorem d5_10 : decode prog_32_method_3_code 10 = .ok (.iload 5, 2) := by decide +kernel
theorem d5_12 : decode prog_32_method_3_code 12 = .ok (.iload_n 2, 1) := by decide +kernel
theorem d5_13 : decode prog_32_method_3_code 13 = .ok (.imul, 1) := by decide +kernel
theorem d5_14 : decode prog_32_method_3_code 14 = .ok (.iadd, 1) := by decide +kernel
theorem d5_15 : decode prog_32_method_3_code 15 = .ok (.istore 6, 2) := by decide +kernel
theorem d5_17 : decode prog_32_method_3_code 17 = .ok (.aload_n 3, 1) := by decide +kernel
theorem d5_18 : decode prog_32_method_3_code 18 = .ok (.iload 4, 2) := by decide +kernel
theorem d5_20 : decode prog_32_method_3_code 20 = .ok (.iload 5, 2) := by decide +kernel
theorem d5_22 : decode prog_32_method_3_code 22 = .ok (.iadd, 1) := by decide +kernel
theorem d5_23 : decode prog_32_method_3_code 23 = .ok (.daload, 1) := by decide +kernel
theorem d5_24 : decode prog_32_method_3_code 24 = .ok (.dstore 7, 2) := by decide +kernel
theorem d5_26 : decode prog_32_method_3_code 26 = .ok (.iconst 0, 1) := by decide +kernel
theorem d5_27 : decode prog_32_method_3_code 27 = .ok (.istore 9, 2) := by decide +kernel
theorem d5_29 : decode prog_32_method_3_code 29 = .ok (.iload 9, 2) := by decide +kernel
theorem d5_31 : decode prog_32_method_3_code 31 = .ok (.iload 5, 2) := by decide +kernel
theorem d5_33 : decode prog_32_method_3_code 33 = .ok (.if_icmp .ge 29, 3) := by decide +kernel
theorem d5_36 : decode prog_32_method_3_code 36 = .ok (.dload 7, 2) := by decide +kernel
theorem d5_38 : decode prog_32_method_3_code 38 = .ok (.aload_n 0, 1) := by decide +kernel
theorem d5_39 : decode prog_32_method_3_code 39 = .ok (.iload 6, 2) := by decide +kernel
theorem d5_41 : decode prog_32_method_3_code 41 = .ok (.iload 9, 2) := by decide +kernel
theorem d5_43 : decode prog_32_method_3_code 43 = .ok (.iadd, 1) := by decide +kernel
theorem d5_44 : decode prog_32_method_3_code 44 = .ok (.daload, 1) := by decide +kernel
theorem d5_45 : decode prog_32_method_3_code 45 = .ok (.aload_n 3, 1) := by decide +kernel
theorem d5_46 : decode prog_32_method_3_code 46 = .ok (.iload 4, 2) := by decide +kernel
theorem d5_48 : decode prog_32_method_3_code 48 = .ok (.iload 9, 2) := by decide +kernel
theorem d5_50 : decode prog_32_method_3_code 50 = .ok (.iadd, 1) := by decide +kernel
theorem d5_51 : decode prog_32_method_3_code 51 = .ok (.daload, 1) := by decide +kernel
theorem d5_52 : decode prog_32_method_3_code 52 = .ok (.dmul, 1) := by decide +kernel
theorem d5_53 : decode prog_32_method_3_code 53 = .ok (.dsub, 1) := by decide +kernel
theorem d5_54 : decode prog_32_method_3_code 54 = .ok (.dstore 7, 2) := by decide +kernel
theorem d5_56 : decode prog_32_method_3_code 56 = .ok (.iinc 9 1, 3) := by decide +kernel
theorem d5_59 : decode prog_32_method_3_code 59 = .ok (.goto (-30), 3) := by decide +kernel
theorem d5_62 : decode prog_32_method_3_code 62 = .ok (.aload_n 3, 1) := by decide +kernel
theorem d5_63 : decode prog_32_method_3_code 63 = .ok (.iload 4, 2) := by decide +kernel
theorem d5_65 : decode prog_32_method_3_code 65 = .ok (.iload 5, 2) := by decide +kernel
theorem d5_67 : decode prog_32_method_3_code 67 = .ok (.iadd, 1) := by decide +kernel
theorem d5_68 : decode prog_32_method_3_code 68 = .ok (.dload 7, 2) := by decide +kernel
theorem d5_70 : decode prog_32_method_3_code 70 = .ok (.aload_n 0, 1) := by decide +kernel
theorem d5_71 : decode prog_32_method_3_code 71 = .ok (.iload 6, 2) := by decide +kernel
theorem d5_73 : decode prog_32_method_3_code 73 = .ok (.iload 5, 2) := by decide +kernel
theorem d5_75 : decode prog_32_method_3_code 75 = .ok (.iadd, 1) := by decide +kernel
theorem d5_76 : decode prog_32_method_3_code 76 = .ok (.daload, 1) := by decide +kernel
theorem d5_77 : decode prog_32_method_3_code 77 = .ok (.ddiv, 1) := by decide +kernel
theorem d5_78 : decode prog_32_method_3_code 78 = .ok (.dastore, 1) := by decide +kernel
theorem d5_79 : decode prog_32_method_3_code 79 = .ok (.iinc 5 1, 3) := by decide +kernel
theorem d5_82 : decode prog_32_method_3_code 82 = .ok (.goto (-79), 3) := by decide +kernel
theorem d5_85 : decode prog_32_method_3_code 85 = .ok (.return_, 1) := by decide +kernel
theorem pn_5 : plainName "com/example/cachesmith/cachesmith/solver/Cholesky" = true := by first | (simp [plainName, overriddenIn]; done) | decide +kernel
theorem pd_5 : parseMethodDescriptor "([DII[DI)V" = some ⟨[(.array .double), .int, .int, (.array .double), .int], none⟩ := by decide +kernel
set_option maxHeartbeats 4000000 in
theorem ef_5f0 (m : MethodId) (x0 : Addr) (x1 : Int32) (x2 : Int32) (x3 : Addr) (x4 : Int32) : entryFrame m ([(.ref x0), (.int x1), (.int x2), (.ref x3), (.int x4)] : List Value).toArray 10 = mkF m 0 #[.val (.ref x0), .val (.int x1), .val (.int x2), .val (.ref x3), .val (.int x4), .unset, .unset, .unset, .unset, .unset] [] := by first | (simp [entryFrame, mkF, argsToLocals, Value.category, maxLocals]; done) | rfl
set_option maxHeartbeats 40000000 in
theorem fo0 (l : Launch) (Z : State) (a0 : Array Value) (hw : ∀ d ∈ tables_1, d.before a0 Z = true) (lr br : Addr) (lv bs : List Value) (O M : Nat) (F : List oEnt) (hbl : M + 0 ≤ bs.length)     :
    oMeets l Z (⟨"com/example/cachesmith/cachesmith/solver/Cholesky", "forward", "([DII[DI)V"⟩ : MethodName) prog_32_method_3_code 10 none ({ frames := 0, cells := 0, slots := 0, locals := 0 } : Room) [(.ref lr), (.int (Int32.ofNat O)), (.int (0 : Int32)), (.ref br), (.int (Int32.ofNat M))] ((br, oArr Z .double bs) :: (lr, oArr Z .double lv) :: F) (fun v L' => v = none ∧ L' = (br, oArr Z .double bs) :: (lr, oArr Z .double lv) :: F) := by
  refine oMeets.of (y := (⟨"com/example/cachesmith/cachesmith/solver/Cholesky", "forward", "([DII[DI)V"⟩ : MethodName)) (plainFor_of_name pn_5) fun p e s m below meth c T cx o => ?_
  refine oGo.top (ef_5f0 m _ _ _ _ _) ?_
  refine g_iconst cx o (pc' := 1) (0 : Int32) d5_0 rfl rfl ?_
  refine g_istore cx o (pc' := 3) (l' := #[.val (.ref lr), .val (.int (Int32.ofNat O)), .val (.int (0 : Int32)), .val (.ref br), .val (.int (Int32.ofNat M)), .val (.int (0 : Int32)), .unset, .unset, .unset, .unset]) d5_1 rfl rfl ?_
  refine g_iload cx o (pc' := 5) d5_3 rfl rfl ?_
  refine g_iloadN cx o (pc' := 6) d5_5 rfl rfl ?_
  refine g_icmp_ge cx o (pc' := 85) (pc2 := 9) d5_6 (by decide) (by decide) rfl (fun c6 => ?_) (fun c6 => absurd c6 (by decide))
  exact g_return cx o d5_85 (by decide) (by decide) ⟨rfl, rfl⟩
set_option maxHeartbeats 4000000 in
theorem ef_5f1 (m : MethodId) (x0 : Addr) (x1 : Int32) (x2 : Int32) (x3 : Addr) (x4 : Int32) : entryFrame m ([(.ref x0), (.int x1), (.int x2), (.ref x3), (.int x4)] : List Value).toArray 10 = mkF m 0 #[.val (.ref x0), .val (.int x1), .val (.int x2), .val (.ref x3), .val (.int x4), .unset, .unset, .unset, .unset, .unset] [] := by first | (simp [entryFrame, mkF, argsToLocals, Value.category, maxLocals]; done) | rfl
set_option maxHeartbeats 40000000 in
theorem fo1 (l : Launch) (Z : State) (a0 : Array Value) (hw : ∀ d ∈ tables_1, d.before a0 Z = true) (lr br : Addr) (lv bs : List Value) (O M : Nat) (F : List oEnt) (hbl : M + 1 ≤ bs.length) (l00 : UInt64) (b0 : UInt64) (L00 : lv[O + 0]? = some (.double l00)) (B0 : bs[M + 0]? = some (.double b0)) (n0 : NoNaN64 (FP.ddiv b0 l00)) :
    oMeets l Z (⟨"com/example/cachesmith/cachesmith/solver/Cholesky", "forward", "([DII[DI)V"⟩ : MethodName) prog_32_method_3_code 10 none ({ frames := 0, cells := 0, slots := 0, locals := 0 } : Room) [(.ref lr), (.int (Int32.ofNat O)), (.int (1 : Int32)), (.ref br), (.int (Int32.ofNat M))] ((br, oArr Z .double bs) :: (lr, oArr Z .double lv) :: F) (fun v L' => v = none ∧ L' = (br, oArr Z .double (bs.set (M + 0) (.double (FP.ddiv b0 l00)))) :: (lr, oArr Z .double lv) :: F) := by
  refine oMeets.of (y := (⟨"com/example/cachesmith/cachesmith/solver/Cholesky", "forward", "([DII[DI)V"⟩ : MethodName)) (plainFor_of_name pn_5) fun p e s m below meth c T cx o => ?_
  refine oGo.top (ef_5f1 m _ _ _ _ _) ?_
  refine g_iconst cx o (pc' := 1) (0 : Int32) d5_0 rfl rfl ?_
  refine g_istore cx o (pc' := 3) (l' := #[.val (.ref lr), .val (.int (Int32.ofNat O)), .val (.int (1 : Int32)), .val (.ref br), .val (.int (Int32.ofNat M)), .val (.int (0 : Int32)), .unset, .unset, .unset, .unset]) d5_1 rfl rfl ?_
  refine g_iload cx o (pc' := 5) d5_3 rfl rfl ?_
  refine g_iloadN cx o (pc' := 6) d5_5 rfl rfl ?_
  refine g_icmp_ge cx o (pc' := 85) (pc2 := 9) d5_6 (by decide) (by decide) rfl (fun c6 => absurd (by decide) c6) (fun c6 => ?_)
  refine g_iloadN cx o (pc' := 10) d5_9 rfl rfl ?_
  refine g_iload cx o (pc' := 12) d5_10 rfl rfl ?_
  refine g_iloadN cx o (pc' := 13) d5_12 rfl rfl ?_
  refine g_imul cx o (pc' := 14) d5_13 rfl ?_
  refine g_iadd cx o (pc' := 15) d5_14 rfl ?_
  refine g_istore cx o (pc' := 17) (l' := #[.val (.ref lr), .val (.int (Int32.ofNat O)), .val (.int (1 : Int32)), .val (.ref br), .val (.int (Int32.ofNat M)), .val (.int (0 : Int32)), .val (.int ((Int32.ofNat O) + (0 : Int32))), .unset, .unset, .unset]) d5_15 rfl rfl ?_
  refine g_aloadN cx o (pc' := 18) d5_17 rfl rfl rfl ?_
  refine g_iload cx o (pc' := 20) d5_18 rfl rfl ?_
  refine g_iload cx o (pc' := 22) d5_20 rfl rfl ?_
  refine g_iadd cx o (pc' := 23) d5_22 rfl ?_
  refine g_daload cx o (pc' := 24)  0 (M + 0) rfl (o_of1 M 0) B0 d5_23 rfl ?_
  refine g_dstore cx o (pc' := 26) (l' := #[.val (.ref lr), .val (.int (Int32.ofNat O)), .val (.int (1 : Int32)), .val (.ref br), .val (.int (Int32.ofNat M)), .val (.int (0 : Int32)), .val (.int ((Int32.ofNat O) + (0 : Int32))), .val (.double b0), .second, .unset]) d5_24 rfl rfl ?_
  refine g_iconst cx o (pc' := 27) (0 : Int32) d5_26 rfl rfl ?_
  refine g_istore cx o (pc' := 29) (l' := #[.val (.ref lr), .val (.int (Int32.ofNat O)), .val (.int (1 : Int32)), .val (.ref br), .val (.int (Int32.ofNat M)), .val (.int (0 : Int32)), .val (.int ((Int32.ofNat O) + (0 : Int32))), .val (.double b0), .second, .val (.int (0 : Int32))]) d5_27 rfl rfl ?_
  refine g_iload cx o (pc' := 31) d5_29 rfl rfl ?_
  refine g_iload cx o (pc' := 33) d5_31 rfl rfl ?_
  refine g_icmp_ge cx o (pc' := 62) (pc2 := 36) d5_33 (by decide) (by decide) rfl (fun c33 => ?_) (fun c33 => absurd c33 (by decide))
  refine g_aloadN cx o (pc' := 63) d5_62 rfl rfl rfl ?_
  refine g_iload cx o (pc' := 65) d5_63 rfl rfl ?_
  refine g_iload cx o (pc' := 67) d5_65 rfl rfl ?_
  refine g_iadd cx o (pc' := 68) d5_67 rfl ?_
  refine g_dload cx o (pc' := 70) d5_68 rfl rfl ?_
  refine g_aloadN cx o (pc' := 71) d5_70 rfl rfl rfl ?_
  refine g_iload cx o (pc' := 73) d5_71 rfl rfl ?_
  refine g_iload cx o (pc' := 75) d5_73 rfl rfl ?_
  refine g_iadd cx o (pc' := 76) d5_75 rfl ?_
  refine g_daload cx o (pc' := 77)  1 (O + 0 + 0) rfl (o_of2 O 0 0) L00 d5_76 rfl ?_
  refine g_ddiv cx o (pc' := 78) d5_77 rfl n0 ?_
  refine g_dastore cx o (pc' := 79) 0 (M + 0) rfl (o_of1 M 0) (by first | omega | (simp only [List.length_set]; omega)) d5_78 rfl (fun T o => ?_)
  simp only [List.set_cons_zero, List.set_cons_succ] at o
  refine g_iinc cx o (pc' := 82) (1 : Int32) (l' := #[.val (.ref lr), .val (.int (Int32.ofNat O)), .val (.int (1 : Int32)), .val (.ref br), .val (.int (Int32.ofNat M)), .val (.int (1 : Int32)), .val (.int ((Int32.ofNat O) + (0 : Int32))), .val (.double b0), .second, .val (.int (0 : Int32))]) d5_79 rfl rfl rfl rfl ?_
  refine g_goto cx o (pc' := 3) d5_82 (by decide) (by decide) ?_
  refine g_iload cx o (pc' := 5) d5_3 rfl rfl ?_
  refine g_iloadN cx o (pc' := 6) d5_5 rfl rfl ?_
  refine g_icmp_ge cx o (pc' := 85) (pc2 := 9) d5_6 (by decide) (by decide) rfl (fun c6 => ?_) (fun c6 => absurd c6 (by decide))
  exact g_return cx o d5_85 (by decide) (by decide) ⟨rfl, rfl⟩
set_option maxHeartbeats 4000000 in
theorem ef_5f2 (m : MethodId) (x0 : Addr) (x1 : Int32) (x2 : Int32) (x3 : Addr) (x4 : Int32) : entryFrame m ([(.ref x0), (.int x1), (.int x2), (.ref x3), (.int x4)] : List Value).toArray 10 = mkF m 0 #[.val (.ref x0), .val (.int x1), .val (.int x2), .val (.ref x3), .val (.int x4), .unset, .unset, .unset, .unset, .unset] [] := by first | (simp [entryFrame, mkF, argsToLocals, Value.category, maxLocals]; done) | rfl
set_option maxHeartbeats 40000000 in
theorem fo2 (l : Launch) (Z : State) (a0 : Array Value) (hw : ∀ d ∈ tables_1, d.before a0 Z = true) (lr br : Addr) (lv bs : List Value) (O M : Nat) (F : List oEnt) (hbl : M + 2 ≤ bs.length) (l00 : UInt64) (l10 : UInt64) (l11 : UInt64) (b0 : UInt64) (b1 : UInt64) (L00 : lv[O + 0]? = some (.double l00)) (L10 : lv[O + 2]? = some (.double l10)) (L11 : lv[O + 3]? = some (.double l11)) (B0 : bs[M + 0]? = some (.double b0)) (B1 : bs[M + 1]? = some (.double b1)) (n0 : NoNaN64 (FP.ddiv b0 l00)) (n1 : NoNaN64 (FP.dmul l10 (FP.ddiv b0 l00))) (n2 : NoNaN64 (FP.dsub b1 (FP.dmul l10 (FP.ddiv b0 l00)))) (n3 : NoNaN64 (FP.ddiv (FP.dsub b1 (FP.dmul l10 (FP.ddiv b0 l00))) l11)) :
    oMeets l Z (⟨"com/example/cachesmith/cachesmith/solver/Cholesky", "forward", "([DII[DI)V"⟩ : MethodName) prog_32_method_3_code 10 none ({ frames := 0, cells := 0, slots := 0, locals := 0 } : Room) [(.ref lr), (.int (Int32.ofNat O)), (.int (2 : Int32)), (.ref br), (.int (Int32.ofNat M))] ((br, oArr Z .double bs) :: (lr, oArr Z .double lv) :: F) (fun v L' => v = none ∧ L' = (br, oArr Z .double ((bs.set (M + 0) (.double (FP.ddiv b0 l00))).set (M + 1) (.double (FP.ddiv (FP.dsub b1 (FP.dmul l10 (FP.ddiv b0 l00))) l11)))) :: (lr, oArr Z .double lv) :: F) := by
  refine oMeets.of (y := (⟨"com/example/cachesmith/cachesmith/solver/Cholesky", "forward", "([DII[DI)V"⟩ : MethodName)) (plainFor_of_name pn_5) fun p e s m below meth c T cx o => ?_
  refine oGo.top (ef_5f2 m _ _ _ _ _) ?_
  refine g_iconst cx o (pc' := 1) (0 : Int32) d5_0 rfl rfl ?_
  refine g_istore cx o (pc' := 3) (l' := #[.val (.ref lr), .val (.int (Int32.ofNat O)), .val (.int (2 : Int32)), .val (.ref br), .val (.int (Int32.ofNat M)), .val (.int (0 : Int32)), .unset, .unset, .unset, .unset]) d5_1 rfl rfl ?_
  refine g_iload cx o (pc' := 5) d5_3 rfl rfl ?_
  refine g_iloadN cx o (pc' := 6) d5_5 rfl rfl ?_
  refine g_icmp_ge cx o (pc' := 85) (pc2 := 9) d5_6 (by decide) (by decide) rfl (fun c6 => absurd (by decide) c6) (fun c6 => ?_)
  refine g_iloadN cx o (pc' := 10) d5_9 rfl rfl ?_
  refine g_iload cx o (pc' := 12) d5_10 rfl rfl ?_
  refine g_iloadN cx o (pc' := 13) d5_12 rfl rfl ?_
  refine g_imul cx o (pc' := 14) d5_13 rfl ?_
  refine g_iadd cx o (pc' := 15) d5_14 rfl ?_
  refine g_istore cx o (pc' := 17) (l' := #[.val (.ref lr), .val (.int (Int32.ofNat O)), .val (.int (2 : Int32)), .val (.ref br), .val (.int (Int32.ofNat M)), .val (.int (0 : Int32)), .val (.int ((Int32.ofNat O) + (0 : Int32))), .unset, .unset, .unset]) d5_15 rfl rfl ?_
  refine g_aloadN cx o (pc' := 18) d5_17 rfl rfl rfl ?_
  refine g_iload cx o (pc' := 20) d5_18 rfl rfl ?_
  refine g_iload cx o (pc' := 22) d5_20 rfl rfl ?_
  refine g_iadd cx o (pc' := 23) d5_22 rfl ?_
  refine g_daload cx o (pc' := 24)  0 (M + 0) rfl (o_of1 M 0) B0 d5_23 rfl ?_
  refine g_dstore cx o (pc' := 26) (l' := #[.val (.ref lr), .val (.int (Int32.ofNat O)), .val (.int (2 : Int32)), .val (.ref br), .val (.int (Int32.ofNat M)), .val (.int (0 : Int32)), .val (.int ((Int32.ofNat O) + (0 : Int32))), .val (.double b0), .second, .unset]) d5_24 rfl rfl ?_
  refine g_iconst cx o (pc' := 27) (0 : Int32) d5_26 rfl rfl ?_
  refine g_istore cx o (pc' := 29) (l' := #[.val (.ref lr), .val (.int (Int32.ofNat O)), .val (.int (2 : Int32)), .val (.ref br), .val (.int (Int32.ofNat M)), .val (.int (0 : Int32)), .val (.int ((Int32.ofNat O) + (0 : Int32))), .val (.double b0), .second, .val (.int (0 : Int32))]) d5_27 rfl rfl ?_
  refine g_iload cx o (pc' := 31) d5_29 rfl rfl ?_
  refine g_iload cx o (pc' := 33) d5_31 rfl rfl ?_
  refine g_icmp_ge cx o (pc' := 62) (pc2 := 36) d5_33 (by decide) (by decide) rfl (fun c33 => ?_) (fun c33 => absurd c33 (by decide))
  refine g_aloadN cx o (pc' := 63) d5_62 rfl rfl rfl ?_
  refine g_iload cx o (pc' := 65) d5_63 rfl rfl ?_
  refine g_iload cx o (pc' := 67) d5_65 rfl rfl ?_
  refine g_iadd cx o (pc' := 68) d5_67 rfl ?_
  refine g_dload cx o (pc' := 70) d5_68 rfl rfl ?_
  refine g_aloadN cx o (pc' := 71) d5_70 rfl rfl rfl ?_
  refine g_iload cx o (pc' := 73) d5_71 rfl rfl ?_
  refine g_iload cx o (pc' := 75) d5_73 rfl rfl ?_
  refine g_iadd cx o (pc' := 76) d5_75 rfl ?_
  refine g_daload cx o (pc' := 77)  1 (O + 0 + 0) rfl (o_of2 O 0 0) L00 d5_76 rfl ?_
  refine g_ddiv cx o (pc' := 78) d5_77 rfl n0 ?_
  refine g_dastore cx o (pc' := 79) 0 (M + 0) rfl (o_of1 M 0) (by first | omega | (simp only [List.length_set]; omega)) d5_78 rfl (fun T o => ?_)
  simp only [List.set_cons_zero, List.set_cons_succ] at o
  refine g_iinc cx o (pc' := 82) (1 : Int32) (l' := #[.val (.ref lr), .val (.int (Int32.ofNat O)), .val (.int (2 : Int32)), .val (.ref br), .val (.int (Int32.ofNat M)), .val (.int (1 : Int32)), .val (.int ((Int32.ofNat O) + (0 : Int32))), .val (.double b0), .second, .val (.int (0 : Int32))]) d5_79 rfl rfl rfl rfl ?_
  refine g_goto cx o (pc' := 3) d5_82 (by decide) (by decide) ?_
  refine g_iload cx o (pc' := 5) d5_3 rfl rfl ?_
  refine g_iloadN cx o (pc' := 6) d5_5 rfl rfl ?_
  refine g_icmp_ge cx o (pc' := 85) (pc2 := 9) d5_6 (by decide) (by decide) rfl (fun c6 => absurd (by decide) c6) (fun c6 => ?_)
  refine g_iloadN cx o (pc' := 10) d5_9 rfl rfl ?_
  refine g_iload cx o (pc' := 12) d5_10 rfl rfl ?_
  refine g_iloadN cx o (pc' := 13) d5_12 rfl rfl ?_
  refine g_imul cx o (pc' := 14) d5_13 rfl ?_
  refine g_iadd cx o (pc' := 15) d5_14 rfl ?_
  refine g_istore cx o (pc' := 17) (l' := #[.val (.ref lr), .val (.int (Int32.ofNat O)), .val (.int (2 : Int32)), .val (.ref br), .val (.int (Int32.ofNat M)), .val (.int (1 : Int32)), .val (.int ((Int32.ofNat O) + (2 : Int32))), .val (.double b0), .second, .val (.int (0 : Int32))]) d5_15 rfl rfl ?_
  refine g_aloadN cx o (pc' := 18) d5_17 rfl rfl rfl ?_
  refine g_iload cx o (pc' := 20) d5_18 rfl rfl ?_
  refine g_iload cx o (pc' := 22) d5_20 rfl rfl ?_
  refine g_iadd cx o (pc' := 23) d5_22 rfl ?_
  refine g_daload cx o (pc' := 24)  0 (M + 1) rfl (o_of1 M 1) (o_setne B1 (by omega)) d5_23 rfl ?_
  refine g_dstore cx o (pc' := 26) (l' := #[.val (.ref lr), .val (.int (Int32.ofNat O)), .val (.int (2 : Int32)), .val (.ref br), .val (.int (Int32.ofNat M)), .val (.int (1 : Int32)), .val (.int ((Int32.ofNat O) + (2 : Int32))), .val (.double b1), .second, .val (.int (0 : Int32))]) d5_24 rfl rfl ?_
  refine g_iconst cx o (pc' := 27) (0 : Int32) d5_26 rfl rfl ?_
  refine g_istore cx o (pc' := 29) (l' := #[.val (.ref lr), .val (.int (Int32.ofNat O)), .val (.int (2 : Int32)), .val (.ref br), .val (.int (Int32.ofNat M)), .val (.int (1 : Int32)), .val (.int ((Int32.ofNat O) + (2 : Int32))), .val (.double b1), .second, .val (.int (0 : Int32))]) d5_27 rfl rfl ?_
  refine g_iload cx o (pc' := 31) d5_29 rfl rfl ?_
  refine g_iload cx o (pc' := 33) d5_31 rfl rfl ?_
  refine g_icmp_ge cx o (pc' := 62) (pc2 := 36) d5_33 (by decide) (by decide) rfl (fun c33 => absurd (by decide) c33) (fun c33 => ?_)
  refine g_dload cx o (pc' := 38) d5_36 rfl rfl ?_
  refine g_aloadN cx o (pc' := 39) d5_38 rfl rfl rfl ?_
  refine g_iload cx o (pc' := 41) d5_39 rfl rfl ?_
  refine g_iload cx o (pc' := 43) d5_41 rfl rfl ?_
  refine g_iadd cx o (pc' := 44) d5_43 rfl ?_
  refine g_daload cx o (pc' := 45)  1 (O + 2 + 0) rfl (o_of2 O 2 0) L10 d5_44 rfl ?_
  refine g_aloadN cx o (pc' := 46) d5_45 rfl rfl rfl ?_
  refine g_iload cx o (pc' := 48) d5_46 rfl rfl ?_
  refine g_iload cx o (pc' := 50) d5_48 rfl rfl ?_
  refine g_iadd cx o (pc' := 51) d5_50 rfl ?_
  refine g_daload cx o (pc' := 52)  0 (M + 0) rfl (o_of1 M 0) (o_setat (by omega) (by first | omega | (simp only [List.length_set]; omega))) d5_51 rfl ?_
  refine g_dmul cx o (pc' := 53) d5_52 rfl n1 ?_
  refine g_dsub cx o (pc' := 54) d5_53 rfl n2 ?_
  refine g_dstore cx o (pc' := 56) (l' := #[.val (.ref lr), .val (.int (Int32.ofNat O)), .val (.int (2 : Int32)), .val (.ref br), .val (.int (Int32.ofNat M)), .val (.int (1 : Int32)), .val (.int ((Int32.ofNat O) + (2 : Int32))), .val (.double (FP.dsub b1 (FP.dmul l10 (FP.ddiv b0 l00)))), .second, .val (.int (0 : Int32))]) d5_54 rfl rfl ?_
  refine g_iinc cx o (pc' := 59) (1 : Int32) (l' := #[.val (.ref lr), .val (.int (Int32.ofNat O)), .val (.int (2 : Int32)), .val (.ref br), .val (.int (Int32.ofNat M)), .val (.int (1 : Int32)), .val (.int ((Int32.ofNat O) + (2 : Int32))), .val (.double (FP.dsub b1 (FP.dmul l10 (FP.ddiv b0 l00)))), .second, .val (.int (1 : Int32))]) d5_56 rfl rfl rfl rfl ?_
  refine g_goto cx o (pc' := 29) d5_59 (by decide) (by decide) ?_
  refine g_iload cx o (pc' := 31) d5_29 rfl rfl ?_
  refine g_iload cx o (pc' := 33) d5_31 rfl rfl ?_
  refine g_icmp_ge cx o (pc' := 62) (pc2 := 36) d5_33 (by decide) (by decide) rfl (fun c33 => ?_) (fun c33 => absurd c33 (by decide))
  refine g_aloadN cx o (pc' := 63) d5_62 rfl rfl rfl ?_
  refine g_iload cx o (pc' := 65) d5_63 rfl rfl ?_
  refine g_iload cx o (pc' := 67) d5_65 rfl rfl ?_
  refine g_iadd cx o (pc' := 68) d5_67 rfl ?_
  refine g_dload cx o (pc' := 70) d5_68 rfl rfl ?_
  refine g_aloadN cx o (pc' := 71) d5_70 rfl rfl rfl ?_
  refine g_iload cx o (pc' := 73) d5_71 rfl rfl ?_
  refine g_iload cx o (pc' := 75) d5_73 rfl rfl ?_
  refine g_iadd cx o (pc' := 76) d5_75 rfl ?_
  refine g_daload cx o (pc' := 77)  1 (O + 2 + 1) rfl (o_of2 O 2 1) L11 d5_76 rfl ?_
  refine g_ddiv cx o (pc' := 78) d5_77 rfl n3 ?_
  refine g_dastore cx o (pc' := 79) 0 (M + 1) rfl (o_of1 M 1) (by first | omega | (simp only [List.length_set]; omega)) d5_78 rfl (fun T o => ?_)
  simp only [List.set_cons_zero, List.set_cons_succ] at o
  refine g_iinc cx o (pc' := 82) (2 : Int32) (l' := #[.val (.ref lr), .val (.int (Int32.ofNat O)), .val (.int (2 : Int32)), .val (.ref br), .val (.int (Int32.ofNat M)), .val (.int (2 : Int32)), .val (.int ((Int32.ofNat O) + (2 : Int32))), .val (.double (FP.dsub b1 (FP.dmul l10 (FP.ddiv b0 l00)))), .second, .val (.int (1 : Int32))]) d5_79 rfl rfl rfl rfl ?_
  refine g_goto cx o (pc' := 3) d5_82 (by decide) (by decide) ?_
  refine g_iload cx o (pc' := 5) d5_3 rfl rfl ?_
  refine g_iloadN cx o (pc' := 6) d5_5 rfl rfl ?_
  refine g_icmp_ge cx o (pc' := 85) (pc2 := 9) d5_6 (by decide) (by decide) rfl (fun c6 => ?_) (fun c6 => absurd c6 (by decide))
  exact g_return cx o d5_85 (by decide) (by decide) ⟨rfl, rfl⟩
set_option maxHeartbeats 4000000 in
theorem ef_5f3 (m : MethodId) (x0 : Addr) (x1 : Int32) (x2 : Int32) (x3 : Addr) (x4 : Int32) : entryFrame m ([(.ref x0), (.int x1), (.int x2), (.ref x3), (.int x4)] : List Value).toArray 10 = mkF m 0 #[.val (.ref x0), .val (.int x1), .val (.int x2), .val (.ref x3), .val (.int x4), .unset, .unset, .unset, .unset, .unset] [] := by first | (simp [entryFrame, mkF, argsToLocals, Value.category, maxLocals]; done) | rfl
set_option maxHeartbeats 40000000 in
theorem fo3 (l : Launch) (Z : State) (a0 : Array Value) (hw : ∀ d ∈ tables_1, d.before a0 Z = true) (lr br : Addr) (lv bs : List Value) (O M : Nat) (F : List oEnt) (hbl : M + 3 ≤ bs.length) (l00 : UInt64) (l10 : UInt64) (l11 : UInt64) (l20 : UInt64) (l21 : UInt64) (l22 : UInt64) (b0 : UInt64) (b1 : UInt64) (b2 : UInt64) (L00 : lv[O + 0]? = some (.double l00)) (L10 : lv[O + 3]? = some (.double l10)) (L11 : lv[O + 4]? = some (.double l11)) (L20 : lv[O + 6]? = some (.double l20)) (L21 : lv[O + 7]? = some (.double l21)) (L22 : lv[O + 8]? = some (.double l22)) (B0 : bs[M + 0]? = some (.double b0)) (B1 : bs[M + 1]? = some (.double b1)) (B2 : bs[M + 2]? = some (.double b2)) (n0 : NoNaN64 (FP.ddiv b0 l00)) (n1 : NoNaN64 (FP.dmul l10 (FP.ddiv b0 l00))) (n2 : NoNaN64 (FP.dsub b1 (FP.dmul l10 (FP.ddiv b0 l00)))) (n3 : NoNaN64 (FP.ddiv (FP.dsub b1 (FP.dmul l10 (FP.ddiv b0 l00))) l11)) (n4 : NoNaN64 (FP.dmul l20 (FP.ddiv b0 l00))) (n5 : NoNaN64 (FP.dsub b2 (FP.dmul l20 (FP.ddiv b0 l00)))) (n6 : NoNaN64 (FP.dmul l21 (FP.ddiv (FP.dsub b1 (FP.dmul l10 (FP.ddiv b0 l00))) l11))) (n7 : NoNaN64 (FP.dsub (FP.dsub b2 (FP.dmul l20 (FP.ddiv b0 l00))) (FP.dmul l21 (FP.ddiv (FP.dsub b1 (FP.dmul l10 (FP.ddiv b0 l00))) l11)))) (n8 : NoNaN64 (FP.ddiv (FP.dsub (FP.dsub b2 (FP.dmul l20 (FP.ddiv b0 l00))) (FP.dmul l21 (FP.ddiv (FP.dsub b1 (FP.dmul l10 (FP.ddiv b0 l00))) l11))) l22)) :
    oMeets l Z (⟨"com/example/cachesmith/cachesmith/solver/Cholesky", "forward", "([DII[DI)V"⟩ : MethodName) prog_32_method_3_code 10 none ({ frames := 0, cells := 0, slots := 0, locals := 0 } : Room) [(.ref lr), (.int (Int32.ofNat O)), (.int (3 : Int32)), (.ref br), (.int (Int32.ofNat M))] ((br, oArr Z .double bs) :: (lr, oArr Z .double lv) :: F) (fun v L' => v = none ∧ L' = (br, oArr Z .double (((bs.set (M + 0) (.double (FP.ddiv b0 l00))).set (M + 1) (.double (FP.ddiv (FP.dsub b1 (FP.dmul l10 (FP.ddiv b0 l00))) l11))).set (M + 2) (.double (FP.ddiv (FP.dsub (FP.dsub b2 (FP.dmul l20 (FP.ddiv b0 l00))) (FP.dmul l21 (FP.ddiv (FP.dsub b1 (FP.dmul l10 (FP.ddiv b0 l00))) l11))) l22)))) :: (lr, oArr Z .double lv) :: F) := by
  refine oMeets.of (y := (⟨"com/example/cachesmith/cachesmith/solver/Cholesky", "forward", "([DII[DI)V"⟩ : MethodName)) (plainFor_of_name pn_5) fun p e s m below meth c T cx o => ?_
  refine oGo.top (ef_5f3 m _ _ _ _ _) ?_
  refine g_iconst cx o (pc' := 1) (0 : Int32) d5_0 rfl rfl ?_
  refine g_istore cx o (pc' := 3) (l' := #[.val (.ref lr), .val (.int (Int32.ofNat O)), .val (.int (3 : Int32)), .val (.ref br), .val (.int (Int32.ofNat M)), .val (.int (0 : Int32)), .unset, .unset, .unset, .unset]) d5_1 rfl rfl ?_
  refine g_iload cx o (pc' := 5) d5_3 rfl rfl ?_
  refine g_iloadN cx o (pc' := 6) d5_5 rfl rfl ?_
  refine g_icmp_ge cx o (pc' := 85) (pc2 := 9) d5_6 (by decide) (by decide) rfl (fun c6 => absurd (by decide) c6) (fun c6 => ?_)
  refine g_iloadN cx o (pc' := 10) d5_9 rfl rfl ?_
  refine g_iload cx o (pc' := 12) d5_10 rfl rfl ?_
  refine g_iloadN cx o (pc' := 13) d5_12 rfl rfl ?_
  refine g_imul cx o (pc' := 14) d5_13 rfl ?_
  refine g_iadd cx o (pc' := 15) d5_14 rfl ?_
  refine g_istore cx o (pc' := 17) (l' := #[.val (.ref lr), .val (.int (Int32.ofNat O)), .val (.int (3 : Int32)), .val (.ref br), .val (.int (Int32.ofNat M)), .val (.int (0 : Int32)), .val (.int ((Int32.ofNat O) + (0 : Int32))), .unset, .unset, .unset]) d5_15 rfl rfl ?_
  refine g_aloadN cx o (pc' := 18) d5_17 rfl rfl rfl ?_
  refine g_iload cx o (pc' := 20) d5_18 rfl rfl ?_
  refine g_iload cx o (pc' := 22) d5_20 rfl rfl ?_
  refine g_iadd cx o (pc' := 23) d5_22 rfl ?_
  refine g_daload cx o (pc' := 24)  0 (M + 0) rfl (o_of1 M 0) B0 d5_23 rfl ?_
  refine g_dstore cx o (pc' := 26) (l' := #[.val (.ref lr), .val (.int (Int32.ofNat O)), .val (.int (3 : Int32)), .val (.ref br), .val (.int (Int32.ofNat M)), .val (.int (0 : Int32)), .val (.int ((Int32.ofNat O) + (0 : Int32))), .val (.double b0), .second, .unset]) d5_24 rfl rfl ?_
  refine g_iconst cx o (pc' := 27) (0 : Int32) d5_26 rfl rfl ?_
  refine g_istore cx o (pc' := 29) (l' := #[.val (.ref lr), .val (.int (Int32.ofNat O)), .val (.int (3 : Int32)), .val (.ref br), .val (.int (Int32.ofNat M)), .val (.int (0 : Int32)), .val (.int ((Int32.ofNat O) + (0 : Int32))), .val (.double b0), .second, .val (.int (0 : Int32))]) d5_27 rfl rfl ?_
  refine g_iload cx o (pc' := 31) d5_29 rfl rfl ?_
  refine g_iload cx o (pc' := 33) d5_31 rfl rfl ?_
  refine g_icmp_ge cx o (pc' := 62) (pc2 := 36) d5_33 (by decide) (by decide) rfl (fun c33 => ?_) (fun c33 => absurd c33 (by decide))
  refine g_aloadN cx o (pc' := 63) d5_62 rfl rfl rfl ?_
  refine g_iload cx o (pc' := 65) d5_63 rfl rfl ?_
  refine g_iload cx o (pc' := 67) d5_65 rfl rfl ?_
  refine g_iadd cx o (pc' := 68) d5_67 rfl ?_
  refine g_dload cx o (pc' := 70) d5_68 rfl rfl ?_
  refine g_aloadN cx o (pc' := 71) d5_70 rfl rfl rfl ?_
  refine g_iload cx o (pc' := 73) d5_71 rfl rfl ?_
  refine g_iload cx o (pc' := 75) d5_73 rfl rfl ?_
  refine g_iadd cx o (pc' := 76) d5_75 rfl ?_
  refine g_daload cx o (pc' := 77)  1 (O + 0 + 0) rfl (o_of2 O 0 0) L00 d5_76 rfl ?_
  refine g_ddiv cx o (pc' := 78) d5_77 rfl n0 ?_
  refine g_dastore cx o (pc' := 79) 0 (M + 0) rfl (o_of1 M 0) (by first | omega | (simp only [List.length_set]; omega)) d5_78 rfl (fun T o => ?_)
  simp only [List.set_cons_zero, List.set_cons_succ] at o
  refine g_iinc cx o (pc' := 82) (1 : Int32) (l' := #[.val (.ref lr), .val (.int (Int32.ofNat O)), .val (.int (3 : Int32)), .val (.ref br), .val (.int (Int32.ofNat M)), .val (.int (1 : Int32)), .val (.int ((Int32.ofNat O) + (0 : Int32))), .val (.double b0), .second, .val (.int (0 : Int32))]) d5_79 rfl rfl rfl rfl ?_
  refine g_goto cx o (pc' := 3) d5_82 (by decide) (by decide) ?_
  refine g_iload cx o (pc' := 5) d5_3 rfl rfl ?_
  refine g_iloadN cx o (pc' := 6) d5_5 rfl rfl ?_
  refine g_icmp_ge cx o (pc' := 85) (pc2 := 9) d5_6 (by decide) (by decide) rfl (fun c6 => absurd (by decide) c6) (fun c6 => ?_)
  refine g_iloadN cx o (pc' := 10) d5_9 rfl rfl ?_
  refine g_iload cx o (pc' := 12) d5_10 rfl rfl ?_
  refine g_iloadN cx o (pc' := 13) d5_12 rfl rfl ?_
  refine g_imul cx o (pc' := 14) d5_13 rfl ?_
  refine g_iadd cx o (pc' := 15) d5_14 rfl ?_
  refine g_istore cx o (pc' := 17) (l' := #[.val (.ref lr), .val (.int (Int32.ofNat O)), .val (.int (3 : Int32)), .val (.ref br), .val (.int (Int32.ofNat M)), .val (.int (1 : Int32)), .val (.int ((Int32.ofNat O) + (3 : Int32))), .val (.double b0), .second, .val (.int (0 : Int32))]) d5_15 rfl rfl ?_
  refine g_aloadN cx o (pc' := 18) d5_17 rfl rfl rfl ?_
  refine g_iload cx o (pc' := 20) d5_18 rfl rfl ?_
  refine g_iload cx o (pc' := 22) d5_20 rfl rfl ?_
  refine g_iadd cx o (pc' := 23) d5_22 rfl ?_
  refine g_daload cx o (pc' := 24)  0 (M + 1) rfl (o_of1 M 1) (o_setne B1 (by omega)) d5_23 rfl ?_
  refine g_dstore cx o (pc' := 26) (l' := #[.val (.ref lr), .val (.int (Int32.ofNat O)), .val (.int (3 : Int32)), .val (.ref br), .val (.int (Int32.ofNat M)), .val (.int (1 : Int32)), .val (.int ((Int32.ofNat O) + (3 : Int32))), .val (.double b1), .second, .val (.int (0 : Int32))]) d5_24 rfl rfl ?_
  refine g_iconst cx o (pc' := 27) (0 : Int32) d5_26 rfl rfl ?_
  refine g_istore cx o (pc' := 29) (l' := #[.val (.ref lr), .val (.int (Int32.ofNat O)), .val (.int (3 : Int32)), .val (.ref br), .val (.int (Int32.ofNat M)), .val (.int (1 : Int32)), .val (.int ((Int32.ofNat O) + (3 : Int32))), .val (.double b1), .second, .val (.int (0 : Int32))]) d5_27 rfl rfl ?_
  refine g_iload cx o (pc' := 31) d5_29 rfl rfl ?_
  refine g_iload cx o (pc' := 33) d5_31 rfl rfl ?_
  refine g_icmp_ge cx o (pc' := 62) (pc2 := 36) d5_33 (by decide) (by decide) rfl (fun c33 => absurd (by decide) c33) (fun c33 => ?_)
  refine g_dload cx o (pc' := 38) d5_36 rfl rfl ?_
  refine g_aloadN cx o (pc' := 39) d5_38 rfl rfl rfl ?_
  refine g_iload cx o (pc' := 41) d5_39 rfl rfl ?_
  refine g_iload cx o (pc' := 43) d5_41 rfl rfl ?_
  refine g_iadd cx o (pc' := 44) d5_43 rfl ?_
  refine g_daload cx o (pc' := 45)  1 (O + 3 + 0) rfl (o_of2 O 3 0) L10 d5_44 rfl ?_
  refine g_aloadN cx o (pc' := 46) d5_45 rfl rfl rfl ?_
  refine g_iload cx o (pc' := 48) d5_46 rfl rfl ?_
  refine g_iload cx o (pc' := 50) d5_48 rfl rfl ?_
  refine g_iadd cx o (pc' := 51) d5_50 rfl ?_
  refine g_daload cx o (pc' := 52)  0 (M + 0) rfl (o_of1 M 0) (o_setat (by omega) (by first | omega | (simp only [List.length_set]; omega))) d5_51 rfl ?_
  refine g_dmul cx o (pc' := 53) d5_52 rfl n1 ?_
  refine g_dsub cx o (pc' := 54) d5_53 rfl n2 ?_
  refine g_dstore cx o (pc' := 56) (l' := #[.val (.ref lr), .val (.int (Int32.ofNat O)), .val (.int (3 : Int32)), .val (.ref br), .val (.int (Int32.ofNat M)), .val (.int (1 : Int32)), .val (.int ((Int32.ofNat O) + (3 : Int32))), .val (.double (FP.dsub b1 (FP.dmul l10 (FP.ddiv b0 l00)))), .second, .val (.int (0 : Int32))]) d5_54 rfl rfl ?_
  refine g_iinc cx o (pc' := 59) (1 : Int32) (l' := #[.val (.ref lr), .val (.int (Int32.ofNat O)), .val (.int (3 : Int32)), .val (.ref br), .val (.int (Int32.ofNat M)), .val (.int (1 : Int32)), .val (.int ((Int32.ofNat O) + (3 : Int32))), .val (.double (FP.dsub b1 (FP.dmul l10 (FP.ddiv b0 l00)))), .second, .val (.int (1 : Int32))]) d5_56 rfl rfl rfl rfl ?_
  refine g_goto cx o (pc' := 29) d5_59 (by decide) (by decide) ?_
  refine g_iload cx o (pc' := 31) d5_29 rfl rfl ?_
  refine g_iload cx o (pc' := 33) d5_31 rfl rfl ?_
  refine g_icmp_ge cx o (pc' := 62) (pc2 := 36) d5_33 (by decide) (by decide) rfl (fun c33 => ?_) (fun c33 => absurd c33 (by decide))
  refine g_aloadN cx o (pc' := 63) d5_62 rfl rfl rfl ?_
  refine g_iload cx o (pc' := 65) d5_63 rfl rfl ?_
  refine g_iload cx o (pc' := 67) d5_65 rfl rfl ?_
  refine g_iadd cx o (pc' := 68) d5_67 rfl ?_
  refine g_dload cx o (pc' := 70) d5_68 rfl rfl ?_
  refine g_aloadN cx o (pc' := 71) d5_70 rfl rfl rfl ?_
  refine g_iload cx o (pc' := 73) d5_71 rfl rfl ?_
  refine g_iload cx o (pc' := 75) d5_73 rfl rfl ?_
  refine g_iadd cx o (pc' := 76) d5_75 rfl ?_
  refine g_daload cx o (pc' := 77)  1 (O + 3 + 1) rfl (o_of2 O 3 1) L11 d5_76 rfl ?_
  refine g_ddiv cx o (pc' := 78) d5_77 rfl n3 ?_
  refine g_dastore cx o (pc' := 79) 0 (M + 1) rfl (o_of1 M 1) (by first | omega | (simp only [List.length_set]; omega)) d5_78 rfl (fun T o => ?_)
  simp only [List.set_cons_zero, List.set_cons_succ] at o
  refine g_iinc cx o (pc' := 82) (2 : Int32) (l' := #[.val (.ref lr), .val (.int (Int32.ofNat O)), .val (.int (3 : Int32)), .val (.ref br), .val (.int (Int32.ofNat M)), .val (.int (2 : Int32)), .val (.int ((Int32.ofNat O) + (3 : Int32))), .val (.double (FP.dsub b1 (FP.dmul l10 (FP.ddiv b0 l00)))), .second, .val (.int (1 : Int32))]) d5_79 rfl rfl rfl rfl ?_
  refine g_goto cx o (pc' := 3) d5_82 (by decide) (by decide) ?_
  refine g_iload cx o (pc' := 5) d5_3 rfl rfl ?_
  refine g_iloadN cx o (pc' := 6) d5_5 rfl rfl ?_
  refine g_icmp_ge cx o (pc' := 85) (pc2 := 9) d5_6 (by decide) (by decide) rfl (fun c6 => absurd (by decide) c6) (fun c6 => ?_)
  refine g_iloadN cx o (pc' := 10) d5_9 rfl rfl ?_
  refine g_iload cx o (pc' := 12) d5_10 rfl rfl ?_
  refine g_iloadN cx o (pc' := 13) d5_12 rfl rfl ?_
  refine g_imul cx o (pc' := 14) d5_13 rfl ?_
  refine g_iadd cx o (pc' := 15) d5_14 rfl ?_
  refine g_istore cx o (pc' := 17) (l' := #[.val (.ref lr), .val (.int (Int32.ofNat O)), .val (.int (3 : Int32)), .val (.ref br), .val (.int (Int32.ofNat M)), .val (.int (2 : Int32)), .val (.int ((Int32.ofNat O) + (6 : Int32))), .val (.double (FP.dsub b1 (FP.dmul l10 (FP.ddiv b0 l00)))), .second, .val (.int (1 : Int32))]) d5_15 rfl rfl ?_
  refine g_aloadN cx o (pc' := 18) d5_17 rfl rfl rfl ?_
  refine g_iload cx o (pc' := 20) d5_18 rfl rfl ?_
  refine g_iload cx o (pc' := 22) d5_20 rfl rfl ?_
  refine g_iadd cx o (pc' := 23) d5_22 rfl ?_
  refine g_daload cx o (pc' := 24)  0 (M + 2) rfl (o_of1 M 2) (o_setne (o_setne B2 (by omega)) (by omega)) d5_23 rfl ?_
  refine g_dstore cx o (pc' := 26) (l' := #[.val (.ref lr), .val (.int (Int32.ofNat O)), .val (.int (3 : Int32)), .val (.ref br), .val (.int (Int32.ofNat M)), .val (.int (2 : Int32)), .val (.int ((Int32.ofNat O) + (6 : Int32))), .val (.double b2), .second, .val (.int (1 : Int32))]) d5_24 rfl rfl ?_
  refine g_iconst cx o (pc' := 27) (0 : Int32) d5_26 rfl rfl ?_
  refine g_istore cx o (pc' := 29) (l' := #[.val (.ref lr), .val (.int (Int32.ofNat O)), .val (.int (3 : Int32)), .val (.ref br), .val (.int (Int32.ofNat M)), .val (.int (2 : Int32)), .val (.int ((Int32.ofNat O) + (6 : Int32))), .val (.double b2), .second, .val (.int (0 : Int32))]) d5_27 rfl rfl ?_
  refine g_iload cx o (pc' := 31) d5_29 rfl rfl ?_
  refine g_iload cx o (pc' := 33) d5_31 rfl rfl ?_
  refine g_icmp_ge cx o (pc' := 62) (pc2 := 36) d5_33 (by decide) (by decide) rfl (fun c33 => absurd (by decide) c33) (fun c33 => ?_)
  refine g_dload cx o (pc' := 38) d5_36 rfl rfl ?_
  refine g_aloadN cx o (pc' := 39) d5_38 rfl rfl rfl ?_
  refine g_iload cx o (pc' := 41) d5_39 rfl rfl ?_
  refine g_iload cx o (pc' := 43) d5_41 rfl rfl ?_
  refine g_iadd cx o (pc' := 44) d5_43 rfl ?_
  refine g_daload cx o (pc' := 45)  1 (O + 6 + 0) rfl (o_of2 O 6 0) L20 d5_44 rfl ?_
  refine g_aloadN cx o (pc' := 46) d5_45 rfl rfl rfl ?_
  refine g_iload cx o (pc' := 48) d5_46 rfl rfl ?_
  refine g_iload cx o (pc' := 50) d5_48 rfl rfl ?_
  refine g_iadd cx o (pc' := 51) d5_50 rfl ?_
  refine g_daload cx o (pc' := 52)  0 (M + 0) rfl (o_of1 M 0) (o_setne (o_setat (by omega) (by first | omega | (simp only [List.length_set]; omega))) (by omega)) d5_51 rfl ?_
  refine g_dmul cx o (pc' := 53) d5_52 rfl n4 ?_
  refine g_dsub cx o (pc' := 54) d5_53 rfl n5 ?_
  refine g_dstore cx o (pc' := 56) (l' := #[.val (.ref lr), .val (.int (Int32.ofNat O)), .val (.int (3 : Int32)), .val (.ref br), .val (.int (Int32.ofNat M)), .val (.int (2 : Int32)), .val (.int ((Int32.ofNat O) + (6 : Int32))), .val (.double (FP.dsub b2 (FP.dmul l20 (FP.ddiv b0 l00)))), .second, .val (.int (0 : Int32))]) d5_54 rfl rfl ?_
  refine g_iinc cx o (pc' := 59) (1 : Int32) (l' := #[.val (.ref lr), .val (.int (Int32.ofNat O)), .val (.int (3 : Int32)), .val (.ref br), .val (.int (Int32.ofNat M)), .val (.int (2 : Int32)), .val (.int ((Int32.ofNat O) + (6 : Int32))), .val (.double (FP.dsub b2 (FP.dmul l20 (FP.ddiv b0 l00)))), .second, .val (.int (1 : Int32))]) d5_56 rfl rfl rfl rfl ?_
  refine g_goto cx o (pc' := 29) d5_59 (by decide) (by decide) ?_
  refine g_iload cx o (pc' := 31) d5_29 rfl rfl ?_
  refine g_iload cx o (pc' := 33) d5_31 rfl rfl ?_
  refine g_icmp_ge cx o (pc' := 62) (pc2 := 36) d5_33 (by decide) (by decide) rfl (fun c33 => absurd (by decide) c33) (fun c33 => ?_)
  refine g_dload cx o (pc' := 38) d5_36 rfl rfl ?_
  refine g_aloadN cx o (pc' := 39) d5_38 rfl rfl rfl ?_
  refine g_iload cx o (pc' := 41) d5_39 rfl rfl ?_
  refine g_iload cx o (pc' := 43) d5_41 rfl rfl ?_
  refine g_iadd cx o (pc' := 44) d5_43 rfl ?_
  refine g_daload cx o (pc' := 45)  1 (O + 6 + 1) rfl (o_of2 O 6 1) L21 d5_44 rfl ?_
  refine g_aloadN cx o (pc' := 46) d5_45 rfl rfl rfl ?_
  refine g_iload cx o (pc' := 48) d5_46 rfl rfl ?_
  refine g_iload cx o (pc' := 50) d5_48 rfl rfl ?_
  refine g_iadd cx o (pc' := 51) d5_50 rfl ?_
  refine g_daload cx o (pc' := 52)  0 (M + 1) rfl (o_of1 M 1) (o_setat (by omega) (by first | omega | (simp only [List.length_set]; omega))) d5_51 rfl ?_
  refine g_dmul cx o (pc' := 53) d5_52 rfl n6 ?_
  refine g_dsub cx o (pc' := 54) d5_53 rfl n7 ?_
  refine g_dstore cx o (pc' := 56) (l' := #[.val (.ref lr), .val (.int (Int32.ofNat O)), .val (.int (3 : Int32)), .val (.ref br), .val (.int (Int32.ofNat M)), .val (.int (2 : Int32)), .val (.int ((Int32.ofNat O) + (6 : Int32))), .val (.double (FP.dsub (FP.dsub b2 (FP.dmul l20 (FP.ddiv b0 l00))) (FP.dmul l21 (FP.ddiv (FP.dsub b1 (FP.dmul l10 (FP.ddiv b0 l00))) l11)))), .second, .val (.int (1 : Int32))]) d5_54 rfl rfl ?_
  refine g_iinc cx o (pc' := 59) (2 : Int32) (l' := #[.val (.ref lr), .val (.int (Int32.ofNat O)), .val (.int (3 : Int32)), .val (.ref br), .val (.int (Int32.ofNat M)), .val (.int (2 : Int32)), .val (.int ((Int32.ofNat O) + (6 : Int32))), .val (.double (FP.dsub (FP.dsub b2 (FP.dmul l20 (FP.ddiv b0 l00))) (FP.dmul l21 (FP.ddiv (FP.dsub b1 (FP.dmul l10 (FP.ddiv b0 l00))) l11)))), .second, .val (.int (2 : Int32))]) d5_56 rfl rfl rfl rfl ?_
  refine g_goto cx o (pc' := 29) d5_59 (by decide) (by decide) ?_
  refine g_iload cx o (pc' := 31) d5_29 rfl rfl ?_
  refine g_iload cx o (pc' := 33) d5_31 rfl rfl ?_
  refine g_icmp_ge cx o (pc' := 62) (pc2 := 36) d5_33 (by decide) (by decide) rfl (fun c33 => ?_) (fun c33 => absurd c33 (by decide))
  refine g_aloadN cx o (pc' := 63) d5_62 rfl rfl rfl ?_
  refine g_iload cx o (pc' := 65) d5_63 rfl rfl ?_
  refine g_iload cx o (pc' := 67) d5_65 rfl rfl ?_
  refine g_iadd cx o (pc' := 68) d5_67 rfl ?_
  refine g_dload cx o (pc' := 70) d5_68 rfl rfl ?_
  refine g_aloadN cx o (pc' := 71) d5_70 rfl rfl rfl ?_
  refine g_iload cx o (pc' := 73) d5_71 rfl rfl ?_
  refine g_iload cx o (pc' := 75) d5_73 rfl rfl ?_
  refine g_iadd cx o (pc' := 76) d5_75 rfl ?_
  refine g_daload cx o (pc' := 77)  1 (O + 6 + 2) rfl (o_of2 O 6 2) L22 d5_76 rfl ?_
  refine g_ddiv cx o (pc' := 78) d5_77 rfl n8 ?_
  refine g_dastore cx o (pc' := 79) 0 (M + 2) rfl (o_of1 M 2) (by first | omega | (simp only [List.length_set]; omega)) d5_78 rfl (fun T o => ?_)
  simp only [List.set_cons_zero, List.set_cons_succ] at o
  refine g_iinc cx o (pc' := 82) (3 : Int32) (l' := #[.val (.ref lr), .val (.int (Int32.ofNat O)), .val (.int (3 : Int32)), .val (.ref br), .val (.int (Int32.ofNat M)), .val (.int (3 : Int32)), .val (.int ((Int32.ofNat O) + (6 : Int32))), .val (.double (FP.dsub (FP.dsub b2 (FP.dmul l20 (FP.ddiv b0 l00))) (FP.dmul l21 (FP.ddiv (FP.dsub b1 (FP.dmul l10 (FP.ddiv b0 l00))) l11)))), .second, .val (.int (2 : Int32))]) d5_79 rfl rfl rfl rfl ?_
  refine g_goto cx o (pc' := 3) d5_82 (by decide) (by decide) ?_
  refine g_iload cx o (pc' := 5) d5_3 rfl rfl ?_
  refine g_iloadN cx o (pc' := 6) d5_5 rfl rfl ?_
  refine g_icmp_ge cx o (pc' := 85) (pc2 := 9) d5_6 (by decide) (by decide) rfl (fun c6 => ?_) (fun c6 => absurd c6 (by decide))
  exact g_return cx o d5_85 (by decide) (by decide) ⟨rfl, rfl⟩

def oAll (N : Nat) (vs : List Value) : Prop := ∀ i, i < N → ∃ d, vs[i]? = some (.double d) ∧ NoNaN64 d
theorem oAll.set {N : Nat} {vs : List Value} (h : oAll N vs) (j : Nat) {d : UInt64} (hd : NoNaN64 d) : oAll N (vs.set j (.double d)) := by
  intro i hi
  obtain ⟨x, hx, nx⟩ := h i hi
  by_cases e : j = i
  · subst e
    exact ⟨d, List.getElem?_set_self (List.getElem?_eq_some_iff.mp hx).1, hd⟩
  · exact ⟨x, by rw [List.getElem?_set_ne e]; exact hx, nx⟩

theorem d1_0 : decode method_2_code 0 = .ok (.iload_n 0, 1) := by decide +kernel
theorem d1_1 : decode method_2_code 1 = .ok (.iload_n 1, 1) := by decide +kernel
theorem d1_2 : decode method_2_code 2 = .ok (.iushr, 1) := by decide +kernel
theorem d1_3 : decode method_2_code 3 = .ok (.bipush 15, 2) := by decide +kernel
theorem d1_5 : decode method_2_code 5 = .ok (.iand, 1) := by decide +kernel
theorem d1_6 : decode method_2_code 6 = .ok (.bipush 7, 2) := by decide +kernel
theorem d1_8 : decode method_2_code 8 = .ok (.isub, 1) := by decide +kernel
theorem d1_9 : decode method_2_code 9 = .ok (.i2d, 1) := by decide +kernel
theorem d1_10 : decode method_2_code 10 = .ok (.dreturn, 1) := by decide +kernel
theorem pn_1 : plainName "com/example/cachesmith/cachesmith/solver/CholeskyForwardPinLaw" = true := by first | (simp [plainName, overriddenIn]; done) | decide +kernel
theorem pd_1 : parseMethodDescriptor "(II)D" = some ⟨[.int, .int], some .double⟩ := by decide +kernel
set_option maxHeartbeats 4000000 in
theorem ef_1 (m : MethodId) (x0 : Int32) (x1 : Int32) : entryFrame m ([(.int x0), (.int x1)] : List Value).toArray 2 = mkF m 0 #[.val (.int x0), .val (.int x1)] [] := by first | (simp [entryFrame, mkF, argsToLocals, Value.category, maxLocals]; done) | rfl
set_option maxHeartbeats 40000000 in
theorem rmG (l : Launch) (Z : State) (a0 : Array Value) (hw : ∀ d ∈ tables_1, d.before a0 Z = true) (x k : Int32) (L : List oEnt) :
    oMeets l Z (⟨"com/example/cachesmith/cachesmith/solver/CholeskyForwardPinLaw", "g", "(II)D"⟩ : MethodName) method_2_code 2 (some .double) ({ frames := 0, cells := 0, slots := 0, locals := 0 } : Room) [(.int x), (.int k)] L (fun v L' => ∃ d : UInt64, v = some (.double d) ∧ d = (FP.i2d ((XT.ushr x k &&& (15 : Int32)) - (7 : Int32))) ∧ L = L') := by
  refine oMeets.of (y := (⟨"com/example/cachesmith/cachesmith/solver/CholeskyForwardPinLaw", "g", "(II)D"⟩ : MethodName)) (plainFor_of_name pn_1) fun p e s m below meth c T cx o => ?_
  refine oGo.top (ef_1 m _ _) ?_
  refine g_iloadN cx o (pc' := 1) d1_0 rfl rfl ?_
  refine g_iloadN cx o (pc' := 2) d1_1 rfl rfl ?_
  refine g_iushr cx o (pc' := 3) d1_2 rfl ?_
  refine g_bipush cx o (pc' := 5) (15 : Int32) d1_3 rfl (by decide) ?_
  refine g_iand cx o (pc' := 6) d1_5 rfl ?_
  refine g_bipush cx o (pc' := 8) (7 : Int32) d1_6 rfl (by decide) ?_
  refine g_isub cx o (pc' := 9) d1_8 rfl ?_
  refine g_i2d cx o (pc' := 10) d1_9 rfl ?_
  exact g_dreturn cx o d1_10 (by decide) (by decide) ⟨_, rfl, rfl, rfl⟩
theorem d2_0 : decode method_3_code 0 = .ok (.iload_n 0, 1) := by decide +kernel
theorem d2_1 : decode method_3_code 1 = .ok (.iconst 3, 1) := by decide +kernel
theorem d2_2 : decode method_3_code 2 = .ok (.iload_n 1, 1) := by decide +kernel
theorem d2_3 : decode method_3_code 3 = .ok (.imul, 1) := by decide +kernel
theorem d2_4 : decode method_3_code 4 = .ok (.iushr, 1) := by decide +kernel
theorem d2_5 : decode method_3_code 5 = .ok (.bipush 7, 2) := by decide +kernel
theorem d2_7 : decode method_3_code 7 = .ok (.iand, 1) := by decide +kernel
theorem d2_8 : decode method_3_code 8 = .ok (.istore_n 2, 1) := by decide +kernel
theorem d2_9 : decode method_3_code 9 = .ok (.iload_n 2, 1) := by decide +kernel
theorem d2_10 : decode method_3_code 10 = .ok (.iconst 4, 1) := by decide +kernel
theorem d2_11 : decode method_3_code 11 = .ok (.if_icmp .ge 10, 3) := by decide +kernel
theorem d2_14 : decode method_3_code 14 = .ok (.iload_n 2, 1) := by decide +kernel
theorem d2_15 : decode method_3_code 15 = .ok (.iconst 1, 1) := by decide +kernel
theorem d2_16 : decode method_3_code 16 = .ok (.iadd, 1) := by decide +kernel
theorem d2_17 : decode method_3_code 17 = .ok (.i2d, 1) := by decide +kernel
theorem d2_18 : decode method_3_code 18 = .ok (.goto 7, 3) := by decide +kernel
theorem d2_21 : decode method_3_code 21 = .ok (.iconst 3, 1) := by decide +kernel
theorem d2_22 : decode method_3_code 22 = .ok (.iload_n 2, 1) := by decide +kernel
theorem d2_23 : decode method_3_code 23 = .ok (.isub, 1) := by decide +kernel
theorem d2_24 : decode method_3_code 24 = .ok (.i2d, 1) := by decide +kernel
theorem d2_25 : decode method_3_code 25 = .ok (.dreturn, 1) := by decide +kernel
theorem pn_2 : plainName "com/example/cachesmith/cachesmith/solver/CholeskyForwardPinLaw" = true := by first | (simp [plainName, overriddenIn]; done) | decide +kernel
theorem pd_2 : parseMethodDescriptor "(II)D" = some ⟨[.int, .int], some .double⟩ := by decide +kernel
set_option maxHeartbeats 4000000 in
theorem ef_2 (m : MethodId) (x0 : Int32) (x1 : Int32) : entryFrame m ([(.int x0), (.int x1)] : List Value).toArray 3 = mkF m 0 #[.val (.int x0), .val (.int x1), .unset] [] := by first | (simp [entryFrame, mkF, argsToLocals, Value.category, maxLocals]; done) | rfl
set_option maxHeartbeats 40000000 in
theorem rmDi (l : Launch) (Z : State) (a0 : Array Value) (hw : ∀ d ∈ tables_1, d.before a0 Z = true) (x i : Int32) (L : List oEnt) :
    oMeets l Z (⟨"com/example/cachesmith/cachesmith/solver/CholeskyForwardPinLaw", "diag", "(II)D"⟩ : MethodName) method_3_code 3 (some .double) ({ frames := 0, cells := 0, slots := 0, locals := 0 } : Room) [(.int x), (.int i)] L (fun v L' => ∃ (d : UInt64) (z : Int), v = some (.double d) ∧ oR z 0 d ∧ (1 ≤ z.natAbs ∧ z.natAbs ≤ 4) ∧ L = L') := by
  refine oMeets.of (y := (⟨"com/example/cachesmith/cachesmith/solver/CholeskyForwardPinLaw", "diag", "(II)D"⟩ : MethodName)) (plainFor_of_name pn_2) fun p e s m below meth c T cx o => ?_
  refine oGo.top (ef_2 m _ _) ?_
  refine g_iloadN cx o (pc' := 1) d2_0 rfl rfl ?_
  refine g_iconst cx o (pc' := 2) (3 : Int32) d2_1 rfl rfl ?_
  refine g_iloadN cx o (pc' := 3) d2_2 rfl rfl ?_
  refine g_imul cx o (pc' := 4) d2_3 rfl ?_
  refine g_iushr cx o (pc' := 5) d2_4 rfl ?_
  refine g_bipush cx o (pc' := 7) (7 : Int32) d2_5 rfl (by decide) ?_
  refine g_iand cx o (pc' := 8) d2_7 rfl ?_
  refine g_istoreNV cx o (pc' := 9) (fun w' => #[.val (.int x), .val (.int i), .val (.int w')]) d2_8 rfl (fun _ => rfl) (fun nb h_nb => ?_)
  refine g_iloadN cx o (pc' := 10) d2_9 rfl rfl ?_
  refine g_iconst cx o (pc' := 11) (4 : Int32) d2_10 rfl rfl ?_
  have k1 : 0 ≤ nb.toInt ∧ nb.toInt < 8 := by
    have h := Jvm.Kit.i32_mask (XT.ushr x ((3 : Int32) * i)) 7 (k := 3) (by decide) (by decide)
    rw [h_nb]; omega
  have e1 : (1 : Int32).toInt = 1 := rfl
  have e3 : (3 : Int32).toInt = 3 := rfl
  have e4 : (4 : Int32).toInt = 4 := rfl
  have k2 : (nb + 1).toInt = nb.toInt + 1 := by rw [Jvm.Kit.i32_add (by rw [e1]; omega) (by rw [e1]; omega), e1]
  have k3 : ((3 : Int32) - nb).toInt = 3 - nb.toInt := by rw [Jvm.Kit.i32_sub (by rw [e3]; omega) (by rw [e3]; omega), e3]
  refine g_icmp_ge cx o (pc' := 21) (pc2 := 14) d2_11 (by decide) (by decide) rfl (fun c11 => ?_) (fun c11 => ?_)
  · refine g_iconst cx o (pc' := 22) (3 : Int32) d2_21 rfl rfl ?_
    refine g_iloadN cx o (pc' := 23) d2_22 rfl rfl ?_
    refine g_isub cx o (pc' := 24) d2_23 rfl ?_
    refine g_i2d cx o (pc' := 25) d2_24 rfl ?_
    have c : ¬ _ := fun z => c11 (Int32.lt_iff_toInt_lt.mpr z)
    rw [e4] at c
    exact g_dreturn cx o d2_25 (by decide) (by decide) ⟨_, _, rfl, oR.i2d _, by rw [k3]; omega, rfl⟩
  · refine g_iloadN cx o (pc' := 15) d2_14 rfl rfl ?_
    refine g_iconst cx o (pc' := 16) (1 : Int32) d2_15 rfl rfl ?_
    refine g_iadd cx o (pc' := 17) d2_16 rfl ?_
    refine g_i2d cx o (pc' := 18) d2_17 rfl ?_
    refine g_goto cx o (pc' := 25) d2_18 (by decide) (by decide) ?_
    have c := Int32.lt_iff_toInt_lt.mp c11
    rw [e4] at c
    exact g_dreturn cx o d2_25 (by decide) (by decide) ⟨_, _, rfl, oR.i2d _, by rw [k2]; omega, rfl⟩
theorem d3_0 : decode method_4_code 0 = .ok (.iload_n 0, 1) := by decide +kernel
theorem d3_1 : decode method_4_code 1 = .ok (.iconst 4, 1) := by decide +kernel
theorem d3_2 : decode method_4_code 2 = .ok (.iload_n 1, 1) := by decide +kernel
theorem d3_3 : decode method_4_code 3 = .ok (.imul, 1) := by decide +kernel
theorem d3_4 : decode method_4_code 4 = .ok (.iushr, 1) := by decide +kernel
theorem d3_5 : decode method_4_code 5 = .ok (.bipush 15, 2) := by decide +kernel
theorem d3_7 : decode method_4_code 7 = .ok (.iand, 1) := by decide +kernel
theorem d3_8 : decode method_4_code 8 = .ok (.bipush 8, 2) := by decide +kernel
theorem d3_10 : decode method_4_code 10 = .ok (.isub, 1) := by decide +kernel
theorem d3_11 : decode method_4_code 11 = .ok (.i2d, 1) := by decide +kernel
theorem d3_12 : decode method_4_code 12 = .ok (.dreturn, 1) := by decide +kernel
theorem pn_3 : plainName "com/example/cachesmith/cachesmith/solver/CholeskyForwardPinLaw" = true := by first | (simp [plainName, overriddenIn]; done) | decide +kernel
theorem pd_3 : parseMethodDescriptor "(II)D" = some ⟨[.int, .int], some .double⟩ := by decide +kernel
set_option maxHeartbeats 4000000 in
theorem ef_3 (m : MethodId) (x0 : Int32) (x1 : Int32) : entryFrame m ([(.int x0), (.int x1)] : List Value).toArray 2 = mkF m 0 #[.val (.int x0), .val (.int x1)] [] := by first | (simp [entryFrame, mkF, argsToLocals, Value.category, maxLocals]; done) | rfl
set_option maxHeartbeats 40000000 in
theorem rmLo (l : Launch) (Z : State) (a0 : Array Value) (hw : ∀ d ∈ tables_1, d.before a0 Z = true) (x i : Int32) (L : List oEnt) :
    oMeets l Z (⟨"com/example/cachesmith/cachesmith/solver/CholeskyForwardPinLaw", "low", "(II)D"⟩ : MethodName) method_4_code 2 (some .double) ({ frames := 0, cells := 0, slots := 0, locals := 0 } : Room) [(.int x), (.int i)] L (fun v L' => ∃ (d : UInt64) (z : Int), v = some (.double d) ∧ oR z 0 d ∧ z.natAbs ≤ 8 ∧ L = L') := by
  refine oMeets.of (y := (⟨"com/example/cachesmith/cachesmith/solver/CholeskyForwardPinLaw", "low", "(II)D"⟩ : MethodName)) (plainFor_of_name pn_3) fun p e s m below meth c T cx o => ?_
  refine oGo.top (ef_3 m _ _) ?_
  refine g_iloadN cx o (pc' := 1) d3_0 rfl rfl ?_
  refine g_iconst cx o (pc' := 2) (4 : Int32) d3_1 rfl rfl ?_
  refine g_iloadN cx o (pc' := 3) d3_2 rfl rfl ?_
  refine g_imul cx o (pc' := 4) d3_3 rfl ?_
  refine g_iushr cx o (pc' := 5) d3_4 rfl ?_
  refine g_bipush cx o (pc' := 7) (15 : Int32) d3_5 rfl (by decide) ?_
  refine g_iand cx o (pc' := 8) d3_7 rfl ?_
  refine g_bipush cx o (pc' := 10) (8 : Int32) d3_8 rfl (by decide) ?_
  refine g_isub cx o (pc' := 11) d3_10 rfl ?_
  refine g_i2d cx o (pc' := 12) d3_11 rfl ?_
  have k1 := Jvm.Kit.i32_mask (XT.ushr x ((4 : Int32) * i)) 15 (k := 4) (by decide) (by decide)
  have e1 : (8 : Int32).toInt = 8 := rfl
  have k2 : ((XT.ushr x ((4 : Int32) * i) &&& (15 : Int32)) - (8 : Int32)).toInt = (XT.ushr x ((4 : Int32) * i) &&& (15 : Int32)).toInt - 8 := by rw [Jvm.Kit.i32_sub (by rw [e1]; omega) (by rw [e1]; omega), e1]
  exact g_dreturn cx o d3_12 (by decide) (by decide) ⟨_, _, rfl, oR.i2d _, by rw [k2]; omega, rfl⟩
theorem d4_0 : decode method_5_code 0 = .ok (.iload_n 0, 1) := by decide +kernel
theorem d4_1 : decode method_5_code 1 = .ok (.bipush 8, 2) := by decide +kernel
theorem d4_3 : decode method_5_code 3 = .ok (.iload_n 1, 1) := by decide +kernel
theorem d4_4 : decode method_5_code 4 = .ok (.imul, 1) := by decide +kernel
theorem d4_5 : decode method_5_code 5 = .ok (.iushr, 1) := by decide +kernel
theorem d4_6 : decode method_5_code 6 = .ok (.sipush 255, 3) := by decide +kernel
theorem d4_9 : decode method_5_code 9 = .ok (.iand, 1) := by decide +kernel
theorem d4_10 : decode method_5_code 10 = .ok (.sipush 128, 3) := by decide +kernel
theorem d4_13 : decode method_5_code 13 = .ok (.isub, 1) := by decide +kernel
theorem d4_14 : decode method_5_code 14 = .ok (.i2d, 1) := by decide +kernel
theorem d4_15 : decode method_5_code 15 = .ok (.dreturn, 1) := by decide +kernel
theorem pn_4 : plainName "com/example/cachesmith/cachesmith/solver/CholeskyForwardPinLaw" = true := by first | (simp [plainName, overriddenIn]; done) | decide +kernel
theorem pd_4 : parseMethodDescriptor "(II)D" = some ⟨[.int, .int], some .double⟩ := by decide +kernel
set_option maxHeartbeats 4000000 in
theorem ef_4 (m : MethodId) (x0 : Int32) (x1 : Int32) : entryFrame m ([(.int x0), (.int x1)] : List Value).toArray 2 = mkF m 0 #[.val (.int x0), .val (.int x1)] [] := by first | (simp [entryFrame, mkF, argsToLocals, Value.category, maxLocals]; done) | rfl
set_option maxHeartbeats 40000000 in
theorem rmXv (l : Launch) (Z : State) (a0 : Array Value) (hw : ∀ d ∈ tables_1, d.before a0 Z = true) (x i : Int32) (L : List oEnt) :
    oMeets l Z (⟨"com/example/cachesmith/cachesmith/solver/CholeskyForwardPinLaw", "xv", "(II)D"⟩ : MethodName) method_5_code 2 (some .double) ({ frames := 0, cells := 0, slots := 0, locals := 0 } : Room) [(.int x), (.int i)] L (fun v L' => ∃ (d : UInt64) (z : Int), v = some (.double d) ∧ oR z 0 d ∧ z.natAbs ≤ 128 ∧ L = L') := by
  refine oMeets.of (y := (⟨"com/example/cachesmith/cachesmith/solver/CholeskyForwardPinLaw", "xv", "(II)D"⟩ : MethodName)) (plainFor_of_name pn_4) fun p e s m below meth c T cx o => ?_
  refine oGo.top (ef_4 m _ _) ?_
  refine g_iloadN cx o (pc' := 1) d4_0 rfl rfl ?_
  refine g_bipush cx o (pc' := 3) (8 : Int32) d4_1 rfl (by decide) ?_
  refine g_iloadN cx o (pc' := 4) d4_3 rfl rfl ?_
  refine g_imul cx o (pc' := 5) d4_4 rfl ?_
  refine g_iushr cx o (pc' := 6) d4_5 rfl ?_
  refine g_sipush cx o (pc' := 9) (255 : Int32) d4_6 rfl (by decide) ?_
  refine g_iand cx o (pc' := 10) d4_9 rfl ?_
  refine g_sipush cx o (pc' := 13) (128 : Int32) d4_10 rfl (by decide) ?_
  refine g_isub cx o (pc' := 14) d4_13 rfl ?_
  refine g_i2d cx o (pc' := 15) d4_14 rfl ?_
  have k1 := Jvm.Kit.i32_mask (XT.ushr x ((8 : Int32) * i)) 255 (k := 8) (by decide) (by decide)
  have e1 : (128 : Int32).toInt = 128 := rfl
  have k2 : ((XT.ushr x ((8 : Int32) * i) &&& (255 : Int32)) - (128 : Int32)).toInt = (XT.ushr x ((8 : Int32) * i) &&& (255 : Int32)).toInt - 128 := by rw [Jvm.Kit.i32_sub (by rw [e1]; omega) (by rw [e1]; omega), e1]
  exact g_dreturn cx o d4_15 (by decide) (by decide) ⟨_, _, rfl, oR.i2d _, by rw [k2]; omega, rfl⟩
theorem o_addn {a b : Int} {A B : Nat} (ha : a.natAbs ≤ A) (hb : b.natAbs ≤ B) : (a + b).natAbs ≤ A + B := by omega
theorem o_subn {a b : Int} {A B : Nat} (ha : a.natAbs ≤ A) (hb : b.natAbs ≤ B) : (a - b).natAbs ≤ A + B := by omega
theorem o_nz {z : Int} (h : 1 ≤ z.natAbs ∧ z.natAbs ≤ 4) : z ≠ 0 := by omega
theorem o_e1 (a b : Int) : a + b - a = b := by omega
theorem o_e2 (a b c : Int) : a + b + c - a - b = c := by omega
theorem d6_0 : decode method_6_code 0 = .ok (.iload_n 1, 1) := by decide +kernel
theorem d6_1 : decode method_6_code 1 = .ok (.iload_n 2, 1) := by decide +kernel
theorem d6_2 : decode method_6_code 2 = .ok (.if_icmp .lt 43, 3) := by decide +kernel
theorem d6_5 : decode method_6_code 5 = .ok (.iload_n 1, 1) := by decide +kernel
theorem d6_6 : decode method_6_code 6 = .ok (.iload_n 2, 1) := by decide +kernel
theorem d6_7 : decode method_6_code 7 = .ok (.iload_n 3, 1) := by decide +kernel
theorem d6_8 : decode method_6_code 8 = .ok (.iadd, 1) := by decide +kernel
theorem d6_9 : decode method_6_code 9 = .ok (.if_icmp .ge 36, 3) := by decide +kernel
theorem d6_12 : decode method_6_code 12 = .ok (.iload_n 1, 1) := by decide +kernel
theorem d6_13 : decode method_6_code 13 = .ok (.iload_n 2, 1) := by decide +kernel
theorem d6_14 : decode method_6_code 14 = .ok (.isub, 1) := by decide +kernel
theorem d6_15 : decode method_6_code 15 = .ok (.istore 13, 2) := by decide +kernel
theorem d6_17 : decode method_6_code 17 = .ok (.iload 13, 2) := by decide +kernel
theorem d6_19 : decode method_6_code 19 = .ok (.ifCond .ne 8, 3) := by decide +kernel
theorem d6_22 : decode method_6_code 22 = .ok (.dload 4, 2) := by decide +kernel
theorem d6_24 : decode method_6_code 24 = .ok (.goto 16, 3) := by decide +kernel
theorem d6_27 : decode method_6_code 27 = .ok (.iload 13, 2) := by decide +kernel
theorem d6_29 : decode method_6_code 29 = .ok (.iconst 1, 1) := by decide +kernel
theorem d6_30 : decode method_6_code 30 = .ok (.if_icmp .ne 8, 3) := by decide +kernel
theorem d6_33 : decode method_6_code 33 = .ok (.dload 6, 2) := by decide +kernel
theorem d6_35 : decode method_6_code 35 = .ok (.goto 5, 3) := by decide +kernel
theorem d6_38 : decode method_6_code 38 = .ok (.dload 8, 2) := by decide +kernel
theorem d6_40 : decode method_6_code 40 = .ok (.dstore 11, 2) := by decide +kernel
theorem d6_42 : decode method_6_code 42 = .ok (.goto 11, 3) := by decide +kernel
theorem d6_45 : decode method_6_code 45 = .ok (.iload 10, 2) := by decide +kernel
theorem d6_47 : decode method_6_code 47 = .ok (.iload_n 1, 1) := by decide +kernel
theorem d6_48 : decode method_6_code 48 = .ok (.invokestatic 7, 3) := by decide +kernel
theorem d6_51 : decode method_6_code 51 = .ok (.dstore 11, 2) := by decide +kernel
theorem d6_53 : decode method_6_code 53 = .ok (.aload_n 0, 1) := by decide +kernel
theorem d6_54 : decode method_6_code 54 = .ok (.iload_n 1, 1) := by decide +kernel
theorem d6_55 : decode method_6_code 55 = .ok (.daload, 1) := by decide +kernel
theorem d6_56 : decode method_6_code 56 = .ok (.dload 11, 2) := by decide +kernel
theorem d6_58 : decode method_6_code 58 = .ok (.dcmp .l, 1) := by decide +kernel
theorem d6_59 : decode method_6_code 59 = .ok (.ifCond .ne 7, 3) := by decide +kernel
theorem d6_62 : decode method_6_code 62 = .ok (.iconst 1, 1) := by decide +kernel
theorem d6_63 : decode method_6_code 63 = .ok (.goto 4, 3) := by decide +kernel
theorem d6_66 : decode method_6_code 66 = .ok (.iconst 0, 1) := by decide +kernel
theorem d6_67 : decode method_6_code 67 = .ok (.ireturn, 1) := by decide +kernel
theorem pn_6 : plainName "com/example/cachesmith/cachesmith/solver/CholeskyForwardPinLaw" = true := by first | (simp [plainName, overriddenIn]; done) | decide +kernel
theorem pd_6 : parseMethodDescriptor "([DIIIDDDI)Z" = some ⟨[(.array .double), .int, .int, .int, .double, .double, .double, .int], some .boolean⟩ := by decide +kernel
set_option maxHeartbeats 4000000 in
theorem ef_6 (m : MethodId) (x0 : Addr) (x1 : Int32) (x2 : Int32) (x3 : Int32) (x4 : UInt64) (x5 : UInt64) (x6 : UInt64) (x7 : Int32) : entryFrame m ([(.ref x0), (.int x1), (.int x2), (.int x3), (.double x4), (.double x5), (.double x6), (.int x7)] : List Value).toArray 14 = mkF m 0 #[.val (.ref x0), .val (.int x1), .val (.int x2), .val (.int x3), .val (.double x4), .second, .val (.double x5), .second, .val (.double x6), .second, .val (.int x7), .unset, .unset, .unset] [] := by first | (simp [entryFrame, mkF, argsToLocals, Value.category, maxLocals]; done) | rfl
set_option maxHeartbeats 40000000 in
theorem rmOk (l : Launch) (Z : State) (a0 : Array Value) (hw : ∀ d ∈ tables_1, d.before a0 Z = true) (br : Addr) (bs : List Value) (i M N : Nat) (hi : i < 7) (hM : M < 4) (hN : N < 4) (x0 x1 x2 : UInt64) (p5 : Int32) (bv : UInt64) (L : List oEnt) (ib : Nat) (Lb : L[ib]? = some (br, oArr Z .double bs)) (hb : bs[i]? = some (.double bv)) (hc : (i = M ∧ 0 < N ∧ cmpValue (FP.dcmp bv x0) .l = 0) ∨ (i = M + 1 ∧ 1 < N ∧ cmpValue (FP.dcmp bv x1) .l = 0) ∨ (i = M + 2 ∧ 2 < N ∧ cmpValue (FP.dcmp bv x2) .l = 0) ∨ (¬ (M ≤ i ∧ i < M + N) ∧ cmpValue (FP.dcmp bv (FP.i2d ((XT.ushr p5 (Int32.ofNat i) &&& (15 : Int32)) - (7 : Int32)))) .l = 0)) :
    oMeets l Z (⟨"com/example/cachesmith/cachesmith/solver/CholeskyForwardPinLaw", "okB", "([DIIIDDDI)Z"⟩ : MethodName) method_6_code 14 (some .boolean) ({ frames := 1, cells := 0, slots := 0, locals := 13 } : Room) [(.ref br), (.int (Int32.ofNat i)), (.int (Int32.ofNat M)), (.int (Int32.ofNat N)), (.double x0), (.double x1), (.double x2), (.int p5)] L (fun v L' => v = some (.int 1) ∧ L = L') := by
  refine oMeets.of (y := (⟨"com/example/cachesmith/cachesmith/solver/CholeskyForwardPinLaw", "okB", "([DIIIDDDI)Z"⟩ : MethodName)) (plainFor_of_name pn_6) fun p e s m below meth c T cx o => ?_
  refine oGo.top (ef_6 m _ _ _ _ _ _ _ _) ?_
  have a1 : (Int32.ofNat i).toInt = i := len_toInt (by omega)
  have a2 : (Int32.ofNat M).toInt = M := len_toInt (by omega)
  have a3 : (Int32.ofNat M + Int32.ofNat N).toInt = M + N := by rw [o_of1]; exact len_toInt (by omega)
  rcases hc with ⟨h1, h2, h4⟩ | ⟨h1, h2, h4⟩ | ⟨h1, h2, h4⟩ | ⟨h1, h2⟩
  · refine g_iloadN cx o (pc' := 1) d6_0 rfl rfl ?_
    refine g_iloadN cx o (pc' := 2) d6_1 rfl rfl ?_
    refine g_icmp_lt cx o (pc' := 45) (pc2 := 5) d6_2 (by decide) (by decide) rfl (fun c2 => absurd (Int32.lt_iff_toInt_lt.mp c2) (by omega)) (fun c2 => ?_)
    refine g_iloadN cx o (pc' := 6) d6_5 rfl rfl ?_
    refine g_iloadN cx o (pc' := 7) d6_6 rfl rfl ?_
    refine g_iloadN cx o (pc' := 8) d6_7 rfl rfl ?_
    refine g_iadd cx o (pc' := 9) d6_8 rfl ?_
    refine g_icmp_ge cx o (pc' := 45) (pc2 := 12) d6_9 (by decide) (by decide) rfl (fun c9 => absurd (Int32.lt_iff_toInt_lt.mpr (by omega)) c9) (fun c9 => ?_)
    refine g_iloadN cx o (pc' := 13) d6_12 rfl rfl ?_
    refine g_iloadN cx o (pc' := 14) d6_13 rfl rfl ?_
    refine g_isub cx o (pc' := 15) d6_14 rfl ?_
    refine g_istoreV cx o (pc' := 17) (fun w' => #[.val (.ref br), .val (.int (Int32.ofNat i)), .val (.int (Int32.ofNat M)), .val (.int (Int32.ofNat N)), .val (.double x0), .second, .val (.double x1), .second, .val (.double x2), .second, .val (.int p5), .unset, .unset, .val (.int w')]) d6_15 rfl (fun _ => rfl) (fun iv h_iv => ?_)
    have a4 : iv = (0 : Int32) := by
      have h : (0 : Int32) + Int32.ofNat M = Int32.ofNat i := by rw [show i = 0 + M by omega]; exact o_of1 0 M
      rw [h_iv, ← h]
      first | exact Int32.add_sub_cancel _ _ | grind
    subst a4
    refine g_iload cx o (pc' := 19) d6_17 rfl rfl ?_
    refine g_if_ne cx o (pc' := 27) (pc2 := 22) d6_19 (by decide) (by decide) rfl (fun c19 => absurd (by decide) c19) (fun c19 => ?_)
    refine g_dload cx o (pc' := 24) d6_22 rfl rfl ?_
    refine g_goto cx o (pc' := 40) d6_24 (by decide) (by decide) ?_
    refine g_dstore cx o (pc' := 42) (l' := #[.val (.ref br), .val (.int (Int32.ofNat i)), .val (.int (Int32.ofNat M)), .val (.int (Int32.ofNat N)), .val (.double x0), .second, .val (.double x1), .second, .val (.double x2), .second, .val (.int p5), .val (.double x0), .second, .val (.int (0 : Int32))]) d6_40 rfl rfl ?_
    refine g_goto cx o (pc' := 53) d6_42 (by decide) (by decide) ?_
    refine g_aloadN cx o (pc' := 54) d6_53 rfl rfl rfl ?_
    refine g_iloadN cx o (pc' := 55) d6_54 rfl rfl ?_
    refine g_daload cx o (pc' := 56)  ib i Lb rfl hb d6_55 rfl ?_
    refine g_dload cx o (pc' := 58) d6_56 rfl rfl ?_
    refine g_dcmp cx o (pc' := 59) d6_58 rfl ?_
    refine g_if_ne cx o (pc' := 66) (pc2 := 62) d6_59 (by decide) (by decide) rfl (fun c59 => absurd h4 c59) (fun c59 => ?_)
    refine g_iconst cx o (pc' := 63) (1 : Int32) d6_62 rfl rfl ?_
    refine g_goto cx o (pc' := 67) d6_63 (by decide) (by decide) ?_
    exact g_ireturnZ cx o d6_67 (by decide) (by decide) (by decide) ⟨rfl, rfl⟩
  · refine g_iloadN cx o (pc' := 1) d6_0 rfl rfl ?_
    refine g_iloadN cx o (pc' := 2) d6_1 rfl rfl ?_
    refine g_icmp_lt cx o (pc' := 45) (pc2 := 5) d6_2 (by decide) (by decide) rfl (fun c2 => absurd (Int32.lt_iff_toInt_lt.mp c2) (by omega)) (fun c2 => ?_)
    refine g_iloadN cx o (pc' := 6) d6_5 rfl rfl ?_
    refine g_iloadN cx o (pc' := 7) d6_6 rfl rfl ?_
    refine g_iloadN cx o (pc' := 8) d6_7 rfl rfl ?_
    refine g_iadd cx o (pc' := 9) d6_8 rfl ?_
    refine g_icmp_ge cx o (pc' := 45) (pc2 := 12) d6_9 (by decide) (by decide) rfl (fun c9 => absurd (Int32.lt_iff_toInt_lt.mpr (by omega)) c9) (fun c9 => ?_)
    refine g_iloadN cx o (pc' := 13) d6_12 rfl rfl ?_
    refine g_iloadN cx o (pc' := 14) d6_13 rfl rfl ?_
    refine g_isub cx o (pc' := 15) d6_14 rfl ?_
    refine g_istoreV cx o (pc' := 17) (fun w' => #[.val (.ref br), .val (.int (Int32.ofNat i)), .val (.int (Int32.ofNat M)), .val (.int (Int32.ofNat N)), .val (.double x0), .second, .val (.double x1), .second, .val (.double x2), .second, .val (.int p5), .unset, .unset, .val (.int w')]) d6_15 rfl (fun _ => rfl) (fun iv h_iv => ?_)
    have a4 : iv = (1 : Int32) := by
      have h : (1 : Int32) + Int32.ofNat M = Int32.ofNat i := by rw [show i = 1 + M by omega]; exact o_of1 1 M
      rw [h_iv, ← h]
      first | exact Int32.add_sub_cancel _ _ | grind
    subst a4
    refine g_iload cx o (pc' := 19) d6_17 rfl rfl ?_
    refine g_if_ne cx o (pc' := 27) (pc2 := 22) d6_19 (by decide) (by decide) rfl (fun c19 => ?_) (fun c19 => absurd c19 (by decide))
    refine g_iload cx o (pc' := 29) d6_27 rfl rfl ?_
    refine g_iconst cx o (pc' := 30) (1 : Int32) d6_29 rfl rfl ?_
    refine g_icmp_ne cx o (pc' := 38) (pc2 := 33) d6_30 (by decide) (by decide) rfl (fun c30 => absurd (by decide) c30) (fun c30 => ?_)
    refine g_dload cx o (pc' := 35) d6_33 rfl rfl ?_
    refine g_goto cx o (pc' := 40) d6_35 (by decide) (by decide) ?_
    refine g_dstore cx o (pc' := 42) (l' := #[.val (.ref br), .val (.int (Int32.ofNat i)), .val (.int (Int32.ofNat M)), .val (.int (Int32.ofNat N)), .val (.double x0), .second, .val (.double x1), .second, .val (.double x2), .second, .val (.int p5), .val (.double x1), .second, .val (.int (1 : Int32))]) d6_40 rfl rfl ?_
    refine g_goto cx o (pc' := 53) d6_42 (by decide) (by decide) ?_
    refine g_aloadN cx o (pc' := 54) d6_53 rfl rfl rfl ?_
    refine g_iloadN cx o (pc' := 55) d6_54 rfl rfl ?_
    refine g_daload cx o (pc' := 56)  ib i Lb rfl hb d6_55 rfl ?_
    refine g_dload cx o (pc' := 58) d6_56 rfl rfl ?_
    refine g_dcmp cx o (pc' := 59) d6_58 rfl ?_
    refine g_if_ne cx o (pc' := 66) (pc2 := 62) d6_59 (by decide) (by decide) rfl (fun c59 => absurd h4 c59) (fun c59 => ?_)
    refine g_iconst cx o (pc' := 63) (1 : Int32) d6_62 rfl rfl ?_
    refine g_goto cx o (pc' := 67) d6_63 (by decide) (by decide) ?_
    exact g_ireturnZ cx o d6_67 (by decide) (by decide) (by decide) ⟨rfl, rfl⟩
  · refine g_iloadN cx o (pc' := 1) d6_0 rfl rfl ?_
    refine g_iloadN cx o (pc' := 2) d6_1 rfl rfl ?_
    refine g_icmp_lt cx o (pc' := 45) (pc2 := 5) d6_2 (by decide) (by decide) rfl (fun c2 => absurd (Int32.lt_iff_toInt_lt.mp c2) (by omega)) (fun c2 => ?_)
    refine g_iloadN cx o (pc' := 6) d6_5 rfl rfl ?_
    refine g_iloadN cx o (pc' := 7) d6_6 rfl rfl ?_
    refine g_iloadN cx o (pc' := 8) d6_7 rfl rfl ?_
    refine g_iadd cx o (pc' := 9) d6_8 rfl ?_
    refine g_icmp_ge cx o (pc' := 45) (pc2 := 12) d6_9 (by decide) (by decide) rfl (fun c9 => absurd (Int32.lt_iff_toInt_lt.mpr (by omega)) c9) (fun c9 => ?_)
    refine g_iloadN cx o (pc' := 13) d6_12 rfl rfl ?_
    refine g_iloadN cx o (pc' := 14) d6_13 rfl rfl ?_
    refine g_isub cx o (pc' := 15) d6_14 rfl ?_
    refine g_istoreV cx o (pc' := 17) (fun w' => #[.val (.ref br), .val (.int (Int32.ofNat i)), .val (.int (Int32.ofNat M)), .val (.int (Int32.ofNat N)), .val (.double x0), .second, .val (.double x1), .second, .val (.double x2), .second, .val (.int p5), .unset, .unset, .val (.int w')]) d6_15 rfl (fun _ => rfl) (fun iv h_iv => ?_)
    have a4 : iv = (2 : Int32) := by
      have h : (2 : Int32) + Int32.ofNat M = Int32.ofNat i := by rw [show i = 2 + M by omega]; exact o_of1 2 M
      rw [h_iv, ← h]
      first | exact Int32.add_sub_cancel _ _ | grind
    subst a4
    refine g_iload cx o (pc' := 19) d6_17 rfl rfl ?_
    refine g_if_ne cx o (pc' := 27) (pc2 := 22) d6_19 (by decide) (by decide) rfl (fun c19 => ?_) (fun c19 => absurd c19 (by decide))
    refine g_iload cx o (pc' := 29) d6_27 rfl rfl ?_
    refine g_iconst cx o (pc' := 30) (1 : Int32) d6_29 rfl rfl ?_
    refine g_icmp_ne cx o (pc' := 38) (pc2 := 33) d6_30 (by decide) (by decide) rfl (fun c30 => ?_) (fun c30 => absurd c30 (by decide))
    refine g_dload cx o (pc' := 40) d6_38 rfl rfl ?_
    refine g_dstore cx o (pc' := 42) (l' := #[.val (.ref br), .val (.int (Int32.ofNat i)), .val (.int (Int32.ofNat M)), .val (.int (Int32.ofNat N)), .val (.double x0), .second, .val (.double x1), .second, .val (.double x2), .second, .val (.int p5), .val (.double x2), .second, .val (.int (2 : Int32))]) d6_40 rfl rfl ?_
    refine g_goto cx o (pc' := 53) d6_42 (by decide) (by decide) ?_
    refine g_aloadN cx o (pc' := 54) d6_53 rfl rfl rfl ?_
    refine g_iloadN cx o (pc' := 55) d6_54 rfl rfl ?_
    refine g_daload cx o (pc' := 56)  ib i Lb rfl hb d6_55 rfl ?_
    refine g_dload cx o (pc' := 58) d6_56 rfl rfl ?_
    refine g_dcmp cx o (pc' := 59) d6_58 rfl ?_
    refine g_if_ne cx o (pc' := 66) (pc2 := 62) d6_59 (by decide) (by decide) rfl (fun c59 => absurd h4 c59) (fun c59 => ?_)
    refine g_iconst cx o (pc' := 63) (1 : Int32) d6_62 rfl rfl ?_
    refine g_goto cx o (pc' := 67) d6_63 (by decide) (by decide) ?_
    exact g_ireturnZ cx o d6_67 (by decide) (by decide) (by decide) ⟨rfl, rfl⟩
  · refine g_iloadN cx o (pc' := 1) d6_0 rfl rfl ?_
    refine g_iloadN cx o (pc' := 2) d6_1 rfl rfl ?_
    refine g_icmp_lt cx o (pc' := 45) (pc2 := 5) d6_2 (by decide) (by decide) rfl (fun c2 => ?_) (fun c2 => ?_)
    · refine g_iload cx o (pc' := 47) d6_45 rfl rfl ?_
      refine g_iloadN cx o (pc' := 48) d6_47 rfl rfl ?_
      refine g_static cx o (pc' := 51) (y := (⟨"com/example/cachesmith/cachesmith/solver/CholeskyForwardPinLaw", "g", "(II)D"⟩ : MethodName)) (hw _ (List.mem_of_getElem? (i := 1) rfl)) (hw _ (List.mem_of_getElem? (i := 2) rfl)) (hw _ (List.mem_of_getElem? (i := 3) rfl)) (hw _ (List.mem_of_getElem? (i := 4) rfl)) (rmG l Z a0 hw _ _ _)  rfl pd_1 rfl (by decide) rfl 0 (Nat.le_of_eq rfl) (by decide) (by decide) (by decide) (by decide) d6_48 rfl (fun T v L hQ o => ?_)
      obtain ⟨d, rfl, hd, rfl⟩ := hQ
      simp only [Option.toList_some, Option.toList_none, List.cons_append, List.nil_append]
      rw [← hd] at h2
      refine g_dstore cx o (pc' := 53) (l' := #[.val (.ref br), .val (.int (Int32.ofNat i)), .val (.int (Int32.ofNat M)), .val (.int (Int32.ofNat N)), .val (.double x0), .second, .val (.double x1), .second, .val (.double x2), .second, .val (.int p5), .val (.double d), .second, .unset]) d6_51 rfl rfl ?_
      refine g_aloadN cx o (pc' := 54) d6_53 rfl rfl rfl ?_
      refine g_iloadN cx o (pc' := 55) d6_54 rfl rfl ?_
      refine g_daload cx o (pc' := 56)  ib i Lb rfl hb d6_55 rfl ?_
      refine g_dload cx o (pc' := 58) d6_56 rfl rfl ?_
      refine g_dcmp cx o (pc' := 59) d6_58 rfl ?_
      refine g_if_ne cx o (pc' := 66) (pc2 := 62) d6_59 (by decide) (by decide) rfl (fun c59 => absurd h2 c59) (fun c59 => ?_)
      refine g_iconst cx o (pc' := 63) (1 : Int32) d6_62 rfl rfl ?_
      refine g_goto cx o (pc' := 67) d6_63 (by decide) (by decide) ?_
      exact g_ireturnZ cx o d6_67 (by decide) (by decide) (by decide) ⟨rfl, rfl⟩
    · refine g_iloadN cx o (pc' := 6) d6_5 rfl rfl ?_
      refine g_iloadN cx o (pc' := 7) d6_6 rfl rfl ?_
      refine g_iloadN cx o (pc' := 8) d6_7 rfl rfl ?_
      refine g_iadd cx o (pc' := 9) d6_8 rfl ?_
      refine g_icmp_ge cx o (pc' := 45) (pc2 := 12) d6_9 (by decide) (by decide) rfl (fun c9 => ?_) (fun c9 => absurd ⟨by have q : ¬ (Int32.ofNat i).toInt < (Int32.ofNat M).toInt := fun z => c2 (Int32.lt_iff_toInt_lt.mpr z); omega, by have q := Int32.lt_iff_toInt_lt.mp c9; omega⟩ h1)
      refine g_iload cx o (pc' := 47) d6_45 rfl rfl ?_
      refine g_iloadN cx o (pc' := 48) d6_47 rfl rfl ?_
      refine g_static cx o (pc' := 51) (y := (⟨"com/example/cachesmith/cachesmith/solver/CholeskyForwardPinLaw", "g", "(II)D"⟩ : MethodName)) (hw _ (List.mem_of_getElem? (i := 1) rfl)) (hw _ (List.mem_of_getElem? (i := 2) rfl)) (hw _ (List.mem_of_getElem? (i := 3) rfl)) (hw _ (List.mem_of_getElem? (i := 4) rfl)) (rmG l Z a0 hw _ _ _)  rfl pd_1 rfl (by decide) rfl 0 (Nat.le_of_eq rfl) (by decide) (by decide) (by decide) (by decide) d6_48 rfl (fun T v L hQ o => ?_)
      obtain ⟨d, rfl, hd, rfl⟩ := hQ
      simp only [Option.toList_some, Option.toList_none, List.cons_append, List.nil_append]
      rw [← hd] at h2
      refine g_dstore cx o (pc' := 53) (l' := #[.val (.ref br), .val (.int (Int32.ofNat i)), .val (.int (Int32.ofNat M)), .val (.int (Int32.ofNat N)), .val (.double x0), .second, .val (.double x1), .second, .val (.double x2), .second, .val (.int p5), .val (.double d), .second, .unset]) d6_51 rfl rfl ?_
      refine g_aloadN cx o (pc' := 54) d6_53 rfl rfl rfl ?_
      refine g_iloadN cx o (pc' := 55) d6_54 rfl rfl ?_
      refine g_daload cx o (pc' := 56)  ib i Lb rfl hb d6_55 rfl ?_
      refine g_dload cx o (pc' := 58) d6_56 rfl rfl ?_
      refine g_dcmp cx o (pc' := 59) d6_58 rfl ?_
      refine g_if_ne cx o (pc' := 66) (pc2 := 62) d6_59 (by decide) (by decide) rfl (fun c59 => absurd h2 c59) (fun c59 => ?_)
      refine g_iconst cx o (pc' := 63) (1 : Int32) d6_62 rfl rfl ?_
      refine g_goto cx o (pc' := 67) d6_63 (by decide) (by decide) ?_
      exact g_ireturnZ cx o d6_67 (by decide) (by decide) (by decide) ⟨rfl, rfl⟩
theorem pn_0 : plainName "com/example/cachesmith/cachesmith/solver/CholeskyForwardPinLaw" = true := by first | (simp [plainName, overriddenIn]; done) | decide +kernel
theorem pd_0 : parseMethodDescriptor "(IIIIII)Z" = some ⟨[.int, .int, .int, .int, .int, .int], some .boolean⟩ := by decide +kernel
set_option maxHeartbeats 4000000 in
theorem ef_0 (m : MethodId) (x0 : Int32) (x1 : Int32) (x2 : Int32) (x3 : Int32) (x4 : Int32) (x5 : Int32) : entryFrame m ([(.int x0), (.int x1), (.int x2), (.int x3), (.int x4), (.int x5)] : List Value).toArray maxLocals = mkF m 0 #[.val (.int x0), .val (.int x1), .val (.int x2), .val (.int x3), .val (.int x4), .val (.int x5), .unset, .unset, .unset, .unset, .unset, .unset, .unset, .unset, .unset, .unset, .unset, .unset, .unset, .unset, .unset, .unset, .unset, .unset, .unset, .unset, .unset, .unset, .unset, .unset, .unset] [] := by first | (simp [entryFrame, mkF, argsToLocals, Value.category, maxLocals]; done) | rfl
set_option maxHeartbeats 40000000 in
theorem rm0 (l : Launch) (Z : State) (a0 : Array Value) (hw : ∀ d ∈ tables_1, d.before a0 Z = true) (p0 p1 p2 p3 p4 p5 : Int32) :
    oMeets l Z x code maxLocals ret room_1 [(.int p0), (.int p1), (.int p2), (.int p3), (.int p4), (.int p5)] [] (fun v _ => v = some (.int 1)) := by
  refine oMeets.of (y := x) (plainFor_of_name pn_0) fun p e s m below meth c T cx o => ?_
  have cx : oCx p s m meth c Z "com/example/cachesmith/cachesmith/solver/CholeskyForwardPinLaw" "law" code maxLocals ret := cx
  refine oGo.top (ef_0 m _ _ _ _ _ _) ?_
  refine g_iloadN cx o (pc' := 1) at_0 rfl rfl ?_
  refine g_iconst cx o (pc' := 2) (3 : Int32) at_1 rfl rfl ?_
  refine g_iand cx o (pc' := 3) at_2 rfl ?_
  refine g_istoreV cx o (pc' := 5) (fun w' => #[.val (.int p0), .val (.int p1), .val (.int p2), .val (.int p3), .val (.int p4), .val (.int p5), .val (.int w'), .unset, .unset, .unset, .unset, .unset, .unset, .unset, .unset, .unset, .unset, .unset, .unset, .unset, .unset, .unset, .unset, .unset, .unset, .unset, .unset, .unset, .unset, .unset, .unset]) at_3 rfl (fun _ => rfl) (fun nn h_nn => ?_)
  refine g_iloadN cx o (pc' := 6) at_5 rfl rfl ?_
  refine g_iconst cx o (pc' := 7) (2 : Int32) at_6 rfl rfl ?_
  refine g_iushr cx o (pc' := 8) at_7 rfl ?_
  refine g_iconst cx o (pc' := 9) (3 : Int32) at_8 rfl rfl ?_
  refine g_iand cx o (pc' := 10) at_9 rfl ?_
  refine g_istoreV cx o (pc' := 12) (fun w' => #[.val (.int p0), .val (.int p1), .val (.int p2), .val (.int p3), .val (.int p4), .val (.int p5), .val (.int nn), .val (.int w'), .unset, .unset, .unset, .unset, .unset, .unset, .unset, .unset, .unset, .unset, .unset, .unset, .unset, .unset, .unset, .unset, .unset, .unset, .unset, .unset, .unset, .unset, .unset]) at_10 rfl (fun _ => rfl) (fun of h_of => ?_)
  refine g_iloadN cx o (pc' := 13) at_12 rfl rfl ?_
  refine g_iconst cx o (pc' := 14) (4 : Int32) at_13 rfl rfl ?_
  refine g_iushr cx o (pc' := 15) at_14 rfl ?_
  refine g_iconst cx o (pc' := 16) (3 : Int32) at_15 rfl rfl ?_
  refine g_iand cx o (pc' := 17) at_16 rfl ?_
  refine g_istoreV cx o (pc' := 19) (fun w' => #[.val (.int p0), .val (.int p1), .val (.int p2), .val (.int p3), .val (.int p4), .val (.int p5), .val (.int nn), .val (.int of), .val (.int w'), .unset, .unset, .unset, .unset, .unset, .unset, .unset, .unset, .unset, .unset, .unset, .unset, .unset, .unset, .unset, .unset, .unset, .unset, .unset, .unset, .unset, .unset]) at_17 rfl (fun _ => rfl) (fun fm h_fm => ?_)
  obtain ⟨O, hO, eO⟩ := o_nib (XT.ushr p0 2)
  rw [eO] at h_of; subst h_of
  obtain ⟨M, hM, eM⟩ := o_nib (XT.ushr p0 4)
  rw [eM] at h_fm; subst h_fm
  refine g_bipush cx o (pc' := 21) (12 : Int32) at_19 rfl (by decide) ?_
  refine g_newarray cx o (pc' := 23) (vs := [.double (0 : UInt64), .double (0 : UInt64), .double (0 : UInt64), .double (0 : UInt64), .double (0 : UInt64), .double (0 : UInt64), .double (0 : UInt64), .double (0 : UInt64), .double (0 : UInt64), .double (0 : UInt64), .double (0 : UInt64), .double (0 : UInt64)]) (hw _ (List.mem_of_getElem? (i := 0) rfl)) rfl 12 12 rfl rfl (by decide) (by decide) (by decide) (by decide) at_21 rfl (fun T lr o => ?_)
  refine g_astore cx o (pc' := 25) (l' := #[.val (.int p0), .val (.int p1), .val (.int p2), .val (.int p3), .val (.int p4), .val (.int p5), .val (.int nn), .val (.int (Int32.ofNat O)), .val (.int (Int32.ofNat M)), .val (.ref lr), .unset, .unset, .unset, .unset, .unset, .unset, .unset, .unset, .unset, .unset, .unset, .unset, .unset, .unset, .unset, .unset, .unset, .unset, .unset, .unset, .unset]) at_23 rfl rfl rfl ?_
  refine g_aload cx o (pc' := 27) at_25 rfl rfl rfl ?_
  refine g_iconst cx o (pc' := 28) (0 : Int32) at_27 rfl rfl ?_
  refine g_iload cx o (pc' := 30) at_28 rfl rfl ?_
  refine g_iconst cx o (pc' := 31) (0 : Int32) at_30 rfl rfl ?_
  refine g_static cx o (pc' := 34) (y := (⟨"com/example/cachesmith/cachesmith/solver/CholeskyForwardPinLaw", "g", "(II)D"⟩ : MethodName)) (hw _ (List.mem_of_getElem? (i := 1) rfl)) (hw _ (List.mem_of_getElem? (i := 2) rfl)) (hw _ (List.mem_of_getElem? (i := 3) rfl)) (hw _ (List.mem_of_getElem? (i := 4) rfl)) (rmG l Z a0 hw _ _ _)  rfl pd_1 rfl (by decide) rfl 2 (Nat.le_of_eq rfl) (by decide) (by decide) (by decide) (by decide) at_31 rfl (fun T v L hQ o => ?_)
  obtain ⟨ga0, rfl, h_ga0, rfl⟩ := hQ
  simp only [Option.toList_some, Option.toList_none, List.cons_append, List.nil_append]
  have n_ga0 : NoNaN64 ga0 := by rw [h_ga0]; exact (oR.i2d _).nn
  refine g_dastore cx o (pc' := 35) 0 0 rfl (by decide) (Nat.le_of_ble_eq_true rfl) at_34 rfl (fun T o => ?_)
  simp only [List.set_cons_zero, List.set_cons_succ] at o
  refine g_aload cx o (pc' := 37) at_35 rfl rfl rfl ?_
  refine g_iconst cx o (pc' := 38) (1 : Int32) at_37 rfl rfl ?_
  refine g_iload cx o (pc' := 40) at_38 rfl rfl ?_
  refine g_iconst cx o (pc' := 41) (1 : Int32) at_40 rfl rfl ?_
  refine g_static cx o (pc' := 44) (y := (⟨"com/example/cachesmith/cachesmith/solver/CholeskyForwardPinLaw", "g", "(II)D"⟩ : MethodName)) (hw _ (List.mem_of_getElem? (i := 1) rfl)) (hw _ (List.mem_of_getElem? (i := 2) rfl)) (hw _ (List.mem_of_getElem? (i := 3) rfl)) (hw _ (List.mem_of_getElem? (i := 4) rfl)) (rmG l Z a0 hw _ _ _)  rfl pd_1 rfl (by decide) rfl 2 (Nat.le_of_eq rfl) (by decide) (by decide) (by decide) (by decide) at_41 rfl (fun T v L hQ o => ?_)
  obtain ⟨ga1, rfl, h_ga1, rfl⟩ := hQ
  simp only [Option.toList_some, Option.toList_none, List.cons_append, List.nil_append]
  have n_ga1 : NoNaN64 ga1 := by rw [h_ga1]; exact (oR.i2d _).nn
  refine g_dastore cx o (pc' := 45) 0 1 rfl (by decide) (Nat.le_of_ble_eq_true rfl) at_44 rfl (fun T o => ?_)
  simp only [List.set_cons_zero, List.set_cons_succ] at o
  refine g_aload cx o (pc' := 47) at_45 rfl rfl rfl ?_
  refine g_iconst cx o (pc' := 48) (2 : Int32) at_47 rfl rfl ?_
  refine g_iload cx o (pc' := 50) at_48 rfl rfl ?_
  refine g_iconst cx o (pc' := 51) (2 : Int32) at_50 rfl rfl ?_
  refine g_static cx o (pc' := 54) (y := (⟨"com/example/cachesmith/cachesmith/solver/CholeskyForwardPinLaw", "g", "(II)D"⟩ : MethodName)) (hw _ (List.mem_of_getElem? (i := 1) rfl)) (hw _ (List.mem_of_getElem? (i := 2) rfl)) (hw _ (List.mem_of_getElem? (i := 3) rfl)) (hw _ (List.mem_of_getElem? (i := 4) rfl)) (rmG l Z a0 hw _ _ _)  rfl pd_1 rfl (by decide) rfl 2 (Nat.le_of_eq rfl) (by decide) (by decide) (by decide) (by decide) at_51 rfl (fun T v L hQ o => ?_)
  obtain ⟨ga2, rfl, h_ga2, rfl⟩ := hQ
  simp only [Option.toList_some, Option.toList_none, List.cons_append, List.nil_append]
  have n_ga2 : NoNaN64 ga2 := by rw [h_ga2]; exact (oR.i2d _).nn
  refine g_dastore cx o (pc' := 55) 0 2 rfl (by decide) (Nat.le_of_ble_eq_true rfl) at_54 rfl (fun T o => ?_)
  simp only [List.set_cons_zero, List.set_cons_succ] at o
  refine g_aload cx o (pc' := 57) at_55 rfl rfl rfl ?_
  refine g_iconst cx o (pc' := 58) (3 : Int32) at_57 rfl rfl ?_
  refine g_iload cx o (pc' := 60) at_58 rfl rfl ?_
  refine g_iconst cx o (pc' := 61) (3 : Int32) at_60 rfl rfl ?_
  refine g_static cx o (pc' := 64) (y := (⟨"com/example/cachesmith/cachesmith/solver/CholeskyForwardPinLaw", "g", "(II)D"⟩ : MethodName)) (hw _ (List.mem_of_getElem? (i := 1) rfl)) (hw _ (List.mem_of_getElem? (i := 2) rfl)) (hw _ (List.mem_of_getElem? (i := 3) rfl)) (hw _ (List.mem_of_getElem? (i := 4) rfl)) (rmG l Z a0 hw _ _ _)  rfl pd_1 rfl (by decide) rfl 2 (Nat.le_of_eq rfl) (by decide) (by decide) (by decide) (by decide) at_61 rfl (fun T v L hQ o => ?_)
  obtain ⟨ga3, rfl, h_ga3, rfl⟩ := hQ
  simp only [Option.toList_some, Option.toList_none, List.cons_append, List.nil_append]
  have n_ga3 : NoNaN64 ga3 := by rw [h_ga3]; exact (oR.i2d _).nn
  refine g_dastore cx o (pc' := 65) 0 3 rfl (by decide) (Nat.le_of_ble_eq_true rfl) at_64 rfl (fun T o => ?_)
  simp only [List.set_cons_zero, List.set_cons_succ] at o
  refine g_aload cx o (pc' := 67) at_65 rfl rfl rfl ?_
  refine g_iconst cx o (pc' := 68) (4 : Int32) at_67 rfl rfl ?_
  refine g_iload cx o (pc' := 70) at_68 rfl rfl ?_
  refine g_iconst cx o (pc' := 71) (4 : Int32) at_70 rfl rfl ?_
  refine g_static cx o (pc' := 74) (y := (⟨"com/example/cachesmith/cachesmith/solver/CholeskyForwardPinLaw", "g", "(II)D"⟩ : MethodName)) (hw _ (List.mem_of_getElem? (i := 1) rfl)) (hw _ (List.mem_of_getElem? (i := 2) rfl)) (hw _ (List.mem_of_getElem? (i := 3) rfl)) (hw _ (List.mem_of_getElem? (i := 4) rfl)) (rmG l Z a0 hw _ _ _)  rfl pd_1 rfl (by decide) rfl 2 (Nat.le_of_eq rfl) (by decide) (by decide) (by decide) (by decide) at_71 rfl (fun T v L hQ o => ?_)
  obtain ⟨ga4, rfl, h_ga4, rfl⟩ := hQ
  simp only [Option.toList_some, Option.toList_none, List.cons_append, List.nil_append]
  have n_ga4 : NoNaN64 ga4 := by rw [h_ga4]; exact (oR.i2d _).nn
  refine g_dastore cx o (pc' := 75) 0 4 rfl (by decide) (Nat.le_of_ble_eq_true rfl) at_74 rfl (fun T o => ?_)
  simp only [List.set_cons_zero, List.set_cons_succ] at o
  refine g_aload cx o (pc' := 77) at_75 rfl rfl rfl ?_
  refine g_iconst cx o (pc' := 78) (5 : Int32) at_77 rfl rfl ?_
  refine g_iload cx o (pc' := 80) at_78 rfl rfl ?_
  refine g_iconst cx o (pc' := 81) (5 : Int32) at_80 rfl rfl ?_
  refine g_static cx o (pc' := 84) (y := (⟨"com/example/cachesmith/cachesmith/solver/CholeskyForwardPinLaw", "g", "(II)D"⟩ : MethodName)) (hw _ (List.mem_of_getElem? (i := 1) rfl)) (hw _ (List.mem_of_getElem? (i := 2) rfl)) (hw _ (List.mem_of_getElem? (i := 3) rfl)) (hw _ (List.mem_of_getElem? (i := 4) rfl)) (rmG l Z a0 hw _ _ _)  rfl pd_1 rfl (by decide) rfl 2 (Nat.le_of_eq rfl) (by decide) (by decide) (by decide) (by decide) at_81 rfl (fun T v L hQ o => ?_)
  obtain ⟨ga5, rfl, h_ga5, rfl⟩ := hQ
  simp only [Option.toList_some, Option.toList_none, List.cons_append, List.nil_append]
  have n_ga5 : NoNaN64 ga5 := by rw [h_ga5]; exact (oR.i2d _).nn
  refine g_dastore cx o (pc' := 85) 0 5 rfl (by decide) (Nat.le_of_ble_eq_true rfl) at_84 rfl (fun T o => ?_)
  simp only [List.set_cons_zero, List.set_cons_succ] at o
  refine g_aload cx o (pc' := 87) at_85 rfl rfl rfl ?_
  refine g_bipush cx o (pc' := 89) (6 : Int32) at_87 rfl (by decide) ?_
  refine g_iload cx o (pc' := 91) at_89 rfl rfl ?_
  refine g_bipush cx o (pc' := 93) (6 : Int32) at_91 rfl (by decide) ?_
  refine g_static cx o (pc' := 96) (y := (⟨"com/example/cachesmith/cachesmith/solver/CholeskyForwardPinLaw", "g", "(II)D"⟩ : MethodName)) (hw _ (List.mem_of_getElem? (i := 1) rfl)) (hw _ (List.mem_of_getElem? (i := 2) rfl)) (hw _ (List.mem_of_getElem? (i := 3) rfl)) (hw _ (List.mem_of_getElem? (i := 4) rfl)) (rmG l Z a0 hw _ _ _)  rfl pd_1 rfl (by decide) rfl 2 (Nat.le_of_eq rfl) (by decide) (by decide) (by decide) (by decide) at_93 rfl (fun T v L hQ o => ?_)
  obtain ⟨ga6, rfl, h_ga6, rfl⟩ := hQ
  simp only [Option.toList_some, Option.toList_none, List.cons_append, List.nil_append]
  have n_ga6 : NoNaN64 ga6 := by rw [h_ga6]; exact (oR.i2d _).nn
  refine g_dastore cx o (pc' := 97) 0 6 rfl (by decide) (Nat.le_of_ble_eq_true rfl) at_96 rfl (fun T o => ?_)
  simp only [List.set_cons_zero, List.set_cons_succ] at o
  refine g_aload cx o (pc' := 99) at_97 rfl rfl rfl ?_
  refine g_bipush cx o (pc' := 101) (7 : Int32) at_99 rfl (by decide) ?_
  refine g_iload cx o (pc' := 103) at_101 rfl rfl ?_
  refine g_bipush cx o (pc' := 105) (7 : Int32) at_103 rfl (by decide) ?_
  refine g_static cx o (pc' := 108) (y := (⟨"com/example/cachesmith/cachesmith/solver/CholeskyForwardPinLaw", "g", "(II)D"⟩ : MethodName)) (hw _ (List.mem_of_getElem? (i := 1) rfl)) (hw _ (List.mem_of_getElem? (i := 2) rfl)) (hw _ (List.mem_of_getElem? (i := 3) rfl)) (hw _ (List.mem_of_getElem? (i := 4) rfl)) (rmG l Z a0 hw _ _ _)  rfl pd_1 rfl (by decide) rfl 2 (Nat.le_of_eq rfl) (by decide) (by decide) (by decide) (by decide) at_105 rfl (fun T v L hQ o => ?_)
  obtain ⟨ga7, rfl, h_ga7, rfl⟩ := hQ
  simp only [Option.toList_some, Option.toList_none, List.cons_append, List.nil_append]
  have n_ga7 : NoNaN64 ga7 := by rw [h_ga7]; exact (oR.i2d _).nn
  refine g_dastore cx o (pc' := 109) 0 7 rfl (by decide) (Nat.le_of_ble_eq_true rfl) at_108 rfl (fun T o => ?_)
  simp only [List.set_cons_zero, List.set_cons_succ] at o
  refine g_aload cx o (pc' := 111) at_109 rfl rfl rfl ?_
  refine g_bipush cx o (pc' := 113) (8 : Int32) at_111 rfl (by decide) ?_
  refine g_iload cx o (pc' := 115) at_113 rfl rfl ?_
  refine g_bipush cx o (pc' := 117) (8 : Int32) at_115 rfl (by decide) ?_
  refine g_static cx o (pc' := 120) (y := (⟨"com/example/cachesmith/cachesmith/solver/CholeskyForwardPinLaw", "g", "(II)D"⟩ : MethodName)) (hw _ (List.mem_of_getElem? (i := 1) rfl)) (hw _ (List.mem_of_getElem? (i := 2) rfl)) (hw _ (List.mem_of_getElem? (i := 3) rfl)) (hw _ (List.mem_of_getElem? (i := 4) rfl)) (rmG l Z a0 hw _ _ _)  rfl pd_1 rfl (by decide) rfl 2 (Nat.le_of_eq rfl) (by decide) (by decide) (by decide) (by decide) at_117 rfl (fun T v L hQ o => ?_)
  obtain ⟨ga8, rfl, h_ga8, rfl⟩ := hQ
  simp only [Option.toList_some, Option.toList_none, List.cons_append, List.nil_append]
  have n_ga8 : NoNaN64 ga8 := by rw [h_ga8]; exact (oR.i2d _).nn
  refine g_dastore cx o (pc' := 121) 0 8 rfl (by decide) (Nat.le_of_ble_eq_true rfl) at_120 rfl (fun T o => ?_)
  simp only [List.set_cons_zero, List.set_cons_succ] at o
  refine g_aload cx o (pc' := 123) at_121 rfl rfl rfl ?_
  refine g_bipush cx o (pc' := 125) (9 : Int32) at_123 rfl (by decide) ?_
  refine g_iload cx o (pc' := 127) at_125 rfl rfl ?_
  refine g_bipush cx o (pc' := 129) (9 : Int32) at_127 rfl (by decide) ?_
  refine g_static cx o (pc' := 132) (y := (⟨"com/example/cachesmith/cachesmith/solver/CholeskyForwardPinLaw", "g", "(II)D"⟩ : MethodName)) (hw _ (List.mem_of_getElem? (i := 1) rfl)) (hw _ (List.mem_of_getElem? (i := 2) rfl)) (hw _ (List.mem_of_getElem? (i := 3) rfl)) (hw _ (List.mem_of_getElem? (i := 4) rfl)) (rmG l Z a0 hw _ _ _)  rfl pd_1 rfl (by decide) rfl 2 (Nat.le_of_eq rfl) (by decide) (by decide) (by decide) (by decide) at_129 rfl (fun T v L hQ o => ?_)
  obtain ⟨ga9, rfl, h_ga9, rfl⟩ := hQ
  simp only [Option.toList_some, Option.toList_none, List.cons_append, List.nil_append]
  have n_ga9 : NoNaN64 ga9 := by rw [h_ga9]; exact (oR.i2d _).nn
  refine g_dastore cx o (pc' := 133) 0 9 rfl (by decide) (Nat.le_of_ble_eq_true rfl) at_132 rfl (fun T o => ?_)
  simp only [List.set_cons_zero, List.set_cons_succ] at o
  refine g_aload cx o (pc' := 135) at_133 rfl rfl rfl ?_
  refine g_bipush cx o (pc' := 137) (10 : Int32) at_135 rfl (by decide) ?_
  refine g_iload cx o (pc' := 139) at_137 rfl rfl ?_
  refine g_bipush cx o (pc' := 141) (10 : Int32) at_139 rfl (by decide) ?_
  refine g_static cx o (pc' := 144) (y := (⟨"com/example/cachesmith/cachesmith/solver/CholeskyForwardPinLaw", "g", "(II)D"⟩ : MethodName)) (hw _ (List.mem_of_getElem? (i := 1) rfl)) (hw _ (List.mem_of_getElem? (i := 2) rfl)) (hw _ (List.mem_of_getElem? (i := 3) rfl)) (hw _ (List.mem_of_getElem? (i := 4) rfl)) (rmG l Z a0 hw _ _ _)  rfl pd_1 rfl (by decide) rfl 2 (Nat.le_of_eq rfl) (by decide) (by decide) (by decide) (by decide) at_141 rfl (fun T v L hQ o => ?_)
  obtain ⟨ga10, rfl, h_ga10, rfl⟩ := hQ
  simp only [Option.toList_some, Option.toList_none, List.cons_append, List.nil_append]
  have n_ga10 : NoNaN64 ga10 := by rw [h_ga10]; exact (oR.i2d _).nn
  refine g_dastore cx o (pc' := 145) 0 10 rfl (by decide) (Nat.le_of_ble_eq_true rfl) at_144 rfl (fun T o => ?_)
  simp only [List.set_cons_zero, List.set_cons_succ] at o
  refine g_aload cx o (pc' := 147) at_145 rfl rfl rfl ?_
  refine g_bipush cx o (pc' := 149) (11 : Int32) at_147 rfl (by decide) ?_
  refine g_iload cx o (pc' := 151) at_149 rfl rfl ?_
  refine g_bipush cx o (pc' := 153) (11 : Int32) at_151 rfl (by decide) ?_
  refine g_static cx o (pc' := 156) (y := (⟨"com/example/cachesmith/cachesmith/solver/CholeskyForwardPinLaw", "g", "(II)D"⟩ : MethodName)) (hw _ (List.mem_of_getElem? (i := 1) rfl)) (hw _ (List.mem_of_getElem? (i := 2) rfl)) (hw _ (List.mem_of_getElem? (i := 3) rfl)) (hw _ (List.mem_of_getElem? (i := 4) rfl)) (rmG l Z a0 hw _ _ _)  rfl pd_1 rfl (by decide) rfl 2 (Nat.le_of_eq rfl) (by decide) (by decide) (by decide) (by decide) at_153 rfl (fun T v L hQ o => ?_)
  obtain ⟨ga11, rfl, h_ga11, rfl⟩ := hQ
  simp only [Option.toList_some, Option.toList_none, List.cons_append, List.nil_append]
  have n_ga11 : NoNaN64 ga11 := by rw [h_ga11]; exact (oR.i2d _).nn
  refine g_dastore cx o (pc' := 157) 0 11 rfl (by decide) (Nat.le_of_ble_eq_true rfl) at_156 rfl (fun T o => ?_)
  simp only [List.set_cons_zero, List.set_cons_succ] at o
  refine g_bipush cx o (pc' := 159) (7 : Int32) at_157 rfl (by decide) ?_
  refine g_newarray cx o (pc' := 161) (vs := [.double (0 : UInt64), .double (0 : UInt64), .double (0 : UInt64), .double (0 : UInt64), .double (0 : UInt64), .double (0 : UInt64), .double (0 : UInt64)]) (hw _ (List.mem_of_getElem? (i := 0) rfl)) rfl 7 7 rfl rfl (by decide) (by decide) (by decide) (by decide) at_159 rfl (fun T br o => ?_)
  refine g_astore cx o (pc' := 163) (l' := #[.val (.int p0), .val (.int p1), .val (.int p2), .val (.int p3), .val (.int p4), .val (.int p5), .val (.int nn), .val (.int (Int32.ofNat O)), .val (.int (Int32.ofNat M)), .val (.ref lr), .val (.ref br), .unset, .unset, .unset, .unset, .unset, .unset, .unset, .unset, .unset, .unset, .unset, .unset, .unset, .unset, .unset, .unset, .unset, .unset, .unset, .unset]) at_161 rfl rfl rfl ?_
  refine g_aload cx o (pc' := 165) at_163 rfl rfl rfl ?_
  refine g_iconst cx o (pc' := 166) (0 : Int32) at_165 rfl rfl ?_
  refine g_iload cx o (pc' := 168) at_166 rfl rfl ?_
  refine g_iconst cx o (pc' := 169) (0 : Int32) at_168 rfl rfl ?_
  refine g_static cx o (pc' := 172) (y := (⟨"com/example/cachesmith/cachesmith/solver/CholeskyForwardPinLaw", "g", "(II)D"⟩ : MethodName)) (hw _ (List.mem_of_getElem? (i := 1) rfl)) (hw _ (List.mem_of_getElem? (i := 2) rfl)) (hw _ (List.mem_of_getElem? (i := 3) rfl)) (hw _ (List.mem_of_getElem? (i := 4) rfl)) (rmG l Z a0 hw _ _ _)  rfl pd_1 rfl (by decide) rfl 2 (Nat.le_of_eq rfl) (by decide) (by decide) (by decide) (by decide) at_169 rfl (fun T v L hQ o => ?_)
  obtain ⟨gb0, rfl, h_gb0, rfl⟩ := hQ
  simp only [Option.toList_some, Option.toList_none, List.cons_append, List.nil_append]
  have n_gb0 : NoNaN64 gb0 := by rw [h_gb0]; exact (oR.i2d _).nn
  refine g_dastore cx o (pc' := 173) 0 0 rfl (by decide) (Nat.le_of_ble_eq_true rfl) at_172 rfl (fun T o => ?_)
  simp only [List.set_cons_zero, List.set_cons_succ] at o
  refine g_aload cx o (pc' := 175) at_173 rfl rfl rfl ?_
  refine g_iconst cx o (pc' := 176) (1 : Int32) at_175 rfl rfl ?_
  refine g_iload cx o (pc' := 178) at_176 rfl rfl ?_
  refine g_iconst cx o (pc' := 179) (1 : Int32) at_178 rfl rfl ?_
  refine g_static cx o (pc' := 182) (y := (⟨"com/example/cachesmith/cachesmith/solver/CholeskyForwardPinLaw", "g", "(II)D"⟩ : MethodName)) (hw _ (List.mem_of_getElem? (i := 1) rfl)) (hw _ (List.mem_of_getElem? (i := 2) rfl)) (hw _ (List.mem_of_getElem? (i := 3) rfl)) (hw _ (List.mem_of_getElem? (i := 4) rfl)) (rmG l Z a0 hw _ _ _)  rfl pd_1 rfl (by decide) rfl 2 (Nat.le_of_eq rfl) (by decide) (by decide) (by decide) (by decide) at_179 rfl (fun T v L hQ o => ?_)
  obtain ⟨gb1, rfl, h_gb1, rfl⟩ := hQ
  simp only [Option.toList_some, Option.toList_none, List.cons_append, List.nil_append]
  have n_gb1 : NoNaN64 gb1 := by rw [h_gb1]; exact (oR.i2d _).nn
  refine g_dastore cx o (pc' := 183) 0 1 rfl (by decide) (Nat.le_of_ble_eq_true rfl) at_182 rfl (fun T o => ?_)
  simp only [List.set_cons_zero, List.set_cons_succ] at o
  refine g_aload cx o (pc' := 185) at_183 rfl rfl rfl ?_
  refine g_iconst cx o (pc' := 186) (2 : Int32) at_185 rfl rfl ?_
  refine g_iload cx o (pc' := 188) at_186 rfl rfl ?_
  refine g_iconst cx o (pc' := 189) (2 : Int32) at_188 rfl rfl ?_
  refine g_static cx o (pc' := 192) (y := (⟨"com/example/cachesmith/cachesmith/solver/CholeskyForwardPinLaw", "g", "(II)D"⟩ : MethodName)) (hw _ (List.mem_of_getElem? (i := 1) rfl)) (hw _ (List.mem_of_getElem? (i := 2) rfl)) (hw _ (List.mem_of_getElem? (i := 3) rfl)) (hw _ (List.mem_of_getElem? (i := 4) rfl)) (rmG l Z a0 hw _ _ _)  rfl pd_1 rfl (by decide) rfl 2 (Nat.le_of_eq rfl) (by decide) (by decide) (by decide) (by decide) at_189 rfl (fun T v L hQ o => ?_)
  obtain ⟨gb2, rfl, h_gb2, rfl⟩ := hQ
  simp only [Option.toList_some, Option.toList_none, List.cons_append, List.nil_append]
  have n_gb2 : NoNaN64 gb2 := by rw [h_gb2]; exact (oR.i2d _).nn
  refine g_dastore cx o (pc' := 193) 0 2 rfl (by decide) (Nat.le_of_ble_eq_true rfl) at_192 rfl (fun T o => ?_)
  simp only [List.set_cons_zero, List.set_cons_succ] at o
  refine g_aload cx o (pc' := 195) at_193 rfl rfl rfl ?_
  refine g_iconst cx o (pc' := 196) (3 : Int32) at_195 rfl rfl ?_
  refine g_iload cx o (pc' := 198) at_196 rfl rfl ?_
  refine g_iconst cx o (pc' := 199) (3 : Int32) at_198 rfl rfl ?_
  refine g_static cx o (pc' := 202) (y := (⟨"com/example/cachesmith/cachesmith/solver/CholeskyForwardPinLaw", "g", "(II)D"⟩ : MethodName)) (hw _ (List.mem_of_getElem? (i := 1) rfl)) (hw _ (List.mem_of_getElem? (i := 2) rfl)) (hw _ (List.mem_of_getElem? (i := 3) rfl)) (hw _ (List.mem_of_getElem? (i := 4) rfl)) (rmG l Z a0 hw _ _ _)  rfl pd_1 rfl (by decide) rfl 2 (Nat.le_of_eq rfl) (by decide) (by decide) (by decide) (by decide) at_199 rfl (fun T v L hQ o => ?_)
  obtain ⟨gb3, rfl, h_gb3, rfl⟩ := hQ
  simp only [Option.toList_some, Option.toList_none, List.cons_append, List.nil_append]
  have n_gb3 : NoNaN64 gb3 := by rw [h_gb3]; exact (oR.i2d _).nn
  refine g_dastore cx o (pc' := 203) 0 3 rfl (by decide) (Nat.le_of_ble_eq_true rfl) at_202 rfl (fun T o => ?_)
  simp only [List.set_cons_zero, List.set_cons_succ] at o
  refine g_aload cx o (pc' := 205) at_203 rfl rfl rfl ?_
  refine g_iconst cx o (pc' := 206) (4 : Int32) at_205 rfl rfl ?_
  refine g_iload cx o (pc' := 208) at_206 rfl rfl ?_
  refine g_iconst cx o (pc' := 209) (4 : Int32) at_208 rfl rfl ?_
  refine g_static cx o (pc' := 212) (y := (⟨"com/example/cachesmith/cachesmith/solver/CholeskyForwardPinLaw", "g", "(II)D"⟩ : MethodName)) (hw _ (List.mem_of_getElem? (i := 1) rfl)) (hw _ (List.mem_of_getElem? (i := 2) rfl)) (hw _ (List.mem_of_getElem? (i := 3) rfl)) (hw _ (List.mem_of_getElem? (i := 4) rfl)) (rmG l Z a0 hw _ _ _)  rfl pd_1 rfl (by decide) rfl 2 (Nat.le_of_eq rfl) (by decide) (by decide) (by decide) (by decide) at_209 rfl (fun T v L hQ o => ?_)
  obtain ⟨gb4, rfl, h_gb4, rfl⟩ := hQ
  simp only [Option.toList_some, Option.toList_none, List.cons_append, List.nil_append]
  have n_gb4 : NoNaN64 gb4 := by rw [h_gb4]; exact (oR.i2d _).nn
  refine g_dastore cx o (pc' := 213) 0 4 rfl (by decide) (Nat.le_of_ble_eq_true rfl) at_212 rfl (fun T o => ?_)
  simp only [List.set_cons_zero, List.set_cons_succ] at o
  refine g_aload cx o (pc' := 215) at_213 rfl rfl rfl ?_
  refine g_iconst cx o (pc' := 216) (5 : Int32) at_215 rfl rfl ?_
  refine g_iload cx o (pc' := 218) at_216 rfl rfl ?_
  refine g_iconst cx o (pc' := 219) (5 : Int32) at_218 rfl rfl ?_
  refine g_static cx o (pc' := 222) (y := (⟨"com/example/cachesmith/cachesmith/solver/CholeskyForwardPinLaw", "g", "(II)D"⟩ : MethodName)) (hw _ (List.mem_of_getElem? (i := 1) rfl)) (hw _ (List.mem_of_getElem? (i := 2) rfl)) (hw _ (List.mem_of_getElem? (i := 3) rfl)) (hw _ (List.mem_of_getElem? (i := 4) rfl)) (rmG l Z a0 hw _ _ _)  rfl pd_1 rfl (by decide) rfl 2 (Nat.le_of_eq rfl) (by decide) (by decide) (by decide) (by decide) at_219 rfl (fun T v L hQ o => ?_)
  obtain ⟨gb5, rfl, h_gb5, rfl⟩ := hQ
  simp only [Option.toList_some, Option.toList_none, List.cons_append, List.nil_append]
  have n_gb5 : NoNaN64 gb5 := by rw [h_gb5]; exact (oR.i2d _).nn
  refine g_dastore cx o (pc' := 223) 0 5 rfl (by decide) (Nat.le_of_ble_eq_true rfl) at_222 rfl (fun T o => ?_)
  simp only [List.set_cons_zero, List.set_cons_succ] at o
  refine g_aload cx o (pc' := 225) at_223 rfl rfl rfl ?_
  refine g_bipush cx o (pc' := 227) (6 : Int32) at_225 rfl (by decide) ?_
  refine g_iload cx o (pc' := 229) at_227 rfl rfl ?_
  refine g_bipush cx o (pc' := 231) (6 : Int32) at_229 rfl (by decide) ?_
  refine g_static cx o (pc' := 234) (y := (⟨"com/example/cachesmith/cachesmith/solver/CholeskyForwardPinLaw", "g", "(II)D"⟩ : MethodName)) (hw _ (List.mem_of_getElem? (i := 1) rfl)) (hw _ (List.mem_of_getElem? (i := 2) rfl)) (hw _ (List.mem_of_getElem? (i := 3) rfl)) (hw _ (List.mem_of_getElem? (i := 4) rfl)) (rmG l Z a0 hw _ _ _)  rfl pd_1 rfl (by decide) rfl 2 (Nat.le_of_eq rfl) (by decide) (by decide) (by decide) (by decide) at_231 rfl (fun T v L hQ o => ?_)
  obtain ⟨gb6, rfl, h_gb6, rfl⟩ := hQ
  simp only [Option.toList_some, Option.toList_none, List.cons_append, List.nil_append]
  have n_gb6 : NoNaN64 gb6 := by rw [h_gb6]; exact (oR.i2d _).nn
  refine g_dastore cx o (pc' := 235) 0 6 rfl (by decide) (Nat.le_of_ble_eq_true rfl) at_234 rfl (fun T o => ?_)
  simp only [List.set_cons_zero, List.set_cons_succ] at o
  refine g_iloadN cx o (pc' := 236) at_235 rfl rfl ?_
  refine g_iconst cx o (pc' := 237) (0 : Int32) at_236 rfl rfl ?_
  refine g_static cx o (pc' := 240) (y := (⟨"com/example/cachesmith/cachesmith/solver/CholeskyForwardPinLaw", "diag", "(II)D"⟩ : MethodName)) (hw _ (List.mem_of_getElem? (i := 5) rfl)) (hw _ (List.mem_of_getElem? (i := 6) rfl)) (hw _ (List.mem_of_getElem? (i := 3) rfl)) (hw _ (List.mem_of_getElem? (i := 7) rfl)) (rmDi l Z a0 hw _ _ _)  rfl pd_2 rfl (by decide) rfl 0 (Nat.le_of_eq rfl) (by decide) (by decide) (by decide) (by decide) at_237 rfl (fun T v L hQ o => ?_)
  obtain ⟨d0, zd0, rfl, R_d0, k_d0, rfl⟩ := hQ
  simp only [Option.toList_some, Option.toList_none, List.cons_append, List.nil_append]
  refine g_dstore cx o (pc' := 242) (l' := #[.val (.int p0), .val (.int p1), .val (.int p2), .val (.int p3), .val (.int p4), .val (.int p5), .val (.int nn), .val (.int (Int32.ofNat O)), .val (.int (Int32.ofNat M)), .val (.ref lr), .val (.ref br), .val (.double d0), .second, .unset, .unset, .unset, .unset, .unset, .unset, .unset, .unset, .unset, .unset, .unset, .unset, .unset, .unset, .unset, .unset, .unset, .unset]) at_240 rfl rfl ?_
  refine g_iloadN cx o (pc' := 243) at_242 rfl rfl ?_
  refine g_iconst cx o (pc' := 244) (1 : Int32) at_243 rfl rfl ?_
  refine g_static cx o (pc' := 247) (y := (⟨"com/example/cachesmith/cachesmith/solver/CholeskyForwardPinLaw", "diag", "(II)D"⟩ : MethodName)) (hw _ (List.mem_of_getElem? (i := 5) rfl)) (hw _ (List.mem_of_getElem? (i := 6) rfl)) (hw _ (List.mem_of_getElem? (i := 3) rfl)) (hw _ (List.mem_of_getElem? (i := 7) rfl)) (rmDi l Z a0 hw _ _ _)  rfl pd_2 rfl (by decide) rfl 0 (Nat.le_of_eq rfl) (by decide) (by decide) (by decide) (by decide) at_244 rfl (fun T v L hQ o => ?_)
  obtain ⟨d1, zd1, rfl, R_d1, k_d1, rfl⟩ := hQ
  simp only [Option.toList_some, Option.toList_none, List.cons_append, List.nil_append]
  refine g_dstore cx o (pc' := 249) (l' := #[.val (.int p0), .val (.int p1), .val (.int p2), .val (.int p3), .val (.int p4), .val (.int p5), .val (.int nn), .val (.int (Int32.ofNat O)), .val (.int (Int32.ofNat M)), .val (.ref lr), .val (.ref br), .val (.double d0), .second, .val (.double d1), .second, .unset, .unset, .unset, .unset, .unset, .unset, .unset, .unset, .unset, .unset, .unset, .unset, .unset, .unset, .unset, .unset]) at_247 rfl rfl ?_
  refine g_iloadN cx o (pc' := 250) at_249 rfl rfl ?_
  refine g_iconst cx o (pc' := 251) (2 : Int32) at_250 rfl rfl ?_
  refine g_static cx o (pc' := 254) (y := (⟨"com/example/cachesmith/cachesmith/solver/CholeskyForwardPinLaw", "diag", "(II)D"⟩ : MethodName)) (hw _ (List.mem_of_getElem? (i := 5) rfl)) (hw _ (List.mem_of_getElem? (i := 6) rfl)) (hw _ (List.mem_of_getElem? (i := 3) rfl)) (hw _ (List.mem_of_getElem? (i := 7) rfl)) (rmDi l Z a0 hw _ _ _)  rfl pd_2 rfl (by decide) rfl 0 (Nat.le_of_eq rfl) (by decide) (by decide) (by decide) (by decide) at_251 rfl (fun T v L hQ o => ?_)
  obtain ⟨d2, zd2, rfl, R_d2, k_d2, rfl⟩ := hQ
  simp only [Option.toList_some, Option.toList_none, List.cons_append, List.nil_append]
  refine g_dstore cx o (pc' := 256) (l' := #[.val (.int p0), .val (.int p1), .val (.int p2), .val (.int p3), .val (.int p4), .val (.int p5), .val (.int nn), .val (.int (Int32.ofNat O)), .val (.int (Int32.ofNat M)), .val (.ref lr), .val (.ref br), .val (.double d0), .second, .val (.double d1), .second, .val (.double d2), .second, .unset, .unset, .unset, .unset, .unset, .unset, .unset, .unset, .unset, .unset, .unset, .unset, .unset, .unset]) at_254 rfl rfl ?_
  refine g_iloadN cx o (pc' := 257) at_256 rfl rfl ?_
  refine g_iconst cx o (pc' := 258) (0 : Int32) at_257 rfl rfl ?_
  refine g_static cx o (pc' := 261) (y := (⟨"com/example/cachesmith/cachesmith/solver/CholeskyForwardPinLaw", "low", "(II)D"⟩ : MethodName)) (hw _ (List.mem_of_getElem? (i := 8) rfl)) (hw _ (List.mem_of_getElem? (i := 9) rfl)) (hw _ (List.mem_of_getElem? (i := 3) rfl)) (hw _ (List.mem_of_getElem? (i := 10) rfl)) (rmLo l Z a0 hw _ _ _)  rfl pd_3 rfl (by decide) rfl 0 (Nat.le_of_eq rfl) (by decide) (by decide) (by decide) (by decide) at_258 rfl (fun T v L hQ o => ?_)
  obtain ⟨a10, za10, rfl, R_a10, k_a10, rfl⟩ := hQ
  simp only [Option.toList_some, Option.toList_none, List.cons_append, List.nil_append]
  refine g_dstore cx o (pc' := 263) (l' := #[.val (.int p0), .val (.int p1), .val (.int p2), .val (.int p3), .val (.int p4), .val (.int p5), .val (.int nn), .val (.int (Int32.ofNat O)), .val (.int (Int32.ofNat M)), .val (.ref lr), .val (.ref br), .val (.double d0), .second, .val (.double d1), .second, .val (.double d2), .second, .val (.double a10), .second, .unset, .unset, .unset, .unset, .unset, .unset, .unset, .unset, .unset, .unset, .unset, .unset]) at_261 rfl rfl ?_
  refine g_iloadN cx o (pc' := 264) at_263 rfl rfl ?_
  refine g_iconst cx o (pc' := 265) (1 : Int32) at_264 rfl rfl ?_
  refine g_static cx o (pc' := 268) (y := (⟨"com/example/cachesmith/cachesmith/solver/CholeskyForwardPinLaw", "low", "(II)D"⟩ : MethodName)) (hw _ (List.mem_of_getElem? (i := 8) rfl)) (hw _ (List.mem_of_getElem? (i := 9) rfl)) (hw _ (List.mem_of_getElem? (i := 3) rfl)) (hw _ (List.mem_of_getElem? (i := 10) rfl)) (rmLo l Z a0 hw _ _ _)  rfl pd_3 rfl (by decide) rfl 0 (Nat.le_of_eq rfl) (by decide) (by decide) (by decide) (by decide) at_265 rfl (fun T v L hQ o => ?_)
  obtain ⟨a20, za20, rfl, R_a20, k_a20, rfl⟩ := hQ
  simp only [Option.toList_some, Option.toList_none, List.cons_append, List.nil_append]
  refine g_dstore cx o (pc' := 270) (l' := #[.val (.int p0), .val (.int p1), .val (.int p2), .val (.int p3), .val (.int p4), .val (.int p5), .val (.int nn), .val (.int (Int32.ofNat O)), .val (.int (Int32.ofNat M)), .val (.ref lr), .val (.ref br), .val (.double d0), .second, .val (.double d1), .second, .val (.double d2), .second, .val (.double a10), .second, .val (.double a20), .second, .unset, .unset, .unset, .unset, .unset, .unset, .unset, .unset, .unset, .unset]) at_268 rfl rfl ?_
  refine g_iloadN cx o (pc' := 271) at_270 rfl rfl ?_
  refine g_iconst cx o (pc' := 272) (2 : Int32) at_271 rfl rfl ?_
  refine g_static cx o (pc' := 275) (y := (⟨"com/example/cachesmith/cachesmith/solver/CholeskyForwardPinLaw", "low", "(II)D"⟩ : MethodName)) (hw _ (List.mem_of_getElem? (i := 8) rfl)) (hw _ (List.mem_of_getElem? (i := 9) rfl)) (hw _ (List.mem_of_getElem? (i := 3) rfl)) (hw _ (List.mem_of_getElem? (i := 10) rfl)) (rmLo l Z a0 hw _ _ _)  rfl pd_3 rfl (by decide) rfl 0 (Nat.le_of_eq rfl) (by decide) (by decide) (by decide) (by decide) at_272 rfl (fun T v L hQ o => ?_)
  obtain ⟨a21, za21, rfl, R_a21, k_a21, rfl⟩ := hQ
  simp only [Option.toList_some, Option.toList_none, List.cons_append, List.nil_append]
  refine g_dstore cx o (pc' := 277) (l' := #[.val (.int p0), .val (.int p1), .val (.int p2), .val (.int p3), .val (.int p4), .val (.int p5), .val (.int nn), .val (.int (Int32.ofNat O)), .val (.int (Int32.ofNat M)), .val (.ref lr), .val (.ref br), .val (.double d0), .second, .val (.double d1), .second, .val (.double d2), .second, .val (.double a10), .second, .val (.double a20), .second, .val (.double a21), .second, .unset, .unset, .unset, .unset, .unset, .unset, .unset, .unset]) at_275 rfl rfl ?_
  refine g_iloadN cx o (pc' := 278) at_277 rfl rfl ?_
  refine g_iconst cx o (pc' := 279) (0 : Int32) at_278 rfl rfl ?_
  refine g_static cx o (pc' := 282) (y := (⟨"com/example/cachesmith/cachesmith/solver/CholeskyForwardPinLaw", "xv", "(II)D"⟩ : MethodName)) (hw _ (List.mem_of_getElem? (i := 11) rfl)) (hw _ (List.mem_of_getElem? (i := 12) rfl)) (hw _ (List.mem_of_getElem? (i := 3) rfl)) (hw _ (List.mem_of_getElem? (i := 13) rfl)) (rmXv l Z a0 hw _ _ _)  rfl pd_4 rfl (by decide) rfl 0 (Nat.le_of_eq rfl) (by decide) (by decide) (by decide) (by decide) at_279 rfl (fun T v L hQ o => ?_)
  obtain ⟨x0, zx0, rfl, R_x0, k_x0, rfl⟩ := hQ
  simp only [Option.toList_some, Option.toList_none, List.cons_append, List.nil_append]
  refine g_dstore cx o (pc' := 284) (l' := #[.val (.int p0), .val (.int p1), .val (.int p2), .val (.int p3), .val (.int p4), .val (.int p5), .val (.int nn), .val (.int (Int32.ofNat O)), .val (.int (Int32.ofNat M)), .val (.ref lr), .val (.ref br), .val (.double d0), .second, .val (.double d1), .second, .val (.double d2), .second, .val (.double a10), .second, .val (.double a20), .second, .val (.double a21), .second, .val (.double x0), .second, .unset, .unset, .unset, .unset, .unset, .unset]) at_282 rfl rfl ?_
  refine g_iloadN cx o (pc' := 285) at_284 rfl rfl ?_
  refine g_iconst cx o (pc' := 286) (1 : Int32) at_285 rfl rfl ?_
  refine g_static cx o (pc' := 289) (y := (⟨"com/example/cachesmith/cachesmith/solver/CholeskyForwardPinLaw", "xv", "(II)D"⟩ : MethodName)) (hw _ (List.mem_of_getElem? (i := 11) rfl)) (hw _ (List.mem_of_getElem? (i := 12) rfl)) (hw _ (List.mem_of_getElem? (i := 3) rfl)) (hw _ (List.mem_of_getElem? (i := 13) rfl)) (rmXv l Z a0 hw _ _ _)  rfl pd_4 rfl (by decide) rfl 0 (Nat.le_of_eq rfl) (by decide) (by decide) (by decide) (by decide) at_286 rfl (fun T v L hQ o => ?_)
  obtain ⟨x1, zx1, rfl, R_x1, k_x1, rfl⟩ := hQ
  simp only [Option.toList_some, Option.toList_none, List.cons_append, List.nil_append]
  refine g_dstore cx o (pc' := 291) (l' := #[.val (.int p0), .val (.int p1), .val (.int p2), .val (.int p3), .val (.int p4), .val (.int p5), .val (.int nn), .val (.int (Int32.ofNat O)), .val (.int (Int32.ofNat M)), .val (.ref lr), .val (.ref br), .val (.double d0), .second, .val (.double d1), .second, .val (.double d2), .second, .val (.double a10), .second, .val (.double a20), .second, .val (.double a21), .second, .val (.double x0), .second, .val (.double x1), .second, .unset, .unset, .unset, .unset]) at_289 rfl rfl ?_
  refine g_iloadN cx o (pc' := 292) at_291 rfl rfl ?_
  refine g_iconst cx o (pc' := 293) (2 : Int32) at_292 rfl rfl ?_
  refine g_static cx o (pc' := 296) (y := (⟨"com/example/cachesmith/cachesmith/solver/CholeskyForwardPinLaw", "xv", "(II)D"⟩ : MethodName)) (hw _ (List.mem_of_getElem? (i := 11) rfl)) (hw _ (List.mem_of_getElem? (i := 12) rfl)) (hw _ (List.mem_of_getElem? (i := 3) rfl)) (hw _ (List.mem_of_getElem? (i := 13) rfl)) (rmXv l Z a0 hw _ _ _)  rfl pd_4 rfl (by decide) rfl 0 (Nat.le_of_eq rfl) (by decide) (by decide) (by decide) (by decide) at_293 rfl (fun T v L hQ o => ?_)
  obtain ⟨x2, zx2, rfl, R_x2, k_x2, rfl⟩ := hQ
  simp only [Option.toList_some, Option.toList_none, List.cons_append, List.nil_append]
  refine g_dstore cx o (pc' := 298) (l' := #[.val (.int p0), .val (.int p1), .val (.int p2), .val (.int p3), .val (.int p4), .val (.int p5), .val (.int nn), .val (.int (Int32.ofNat O)), .val (.int (Int32.ofNat M)), .val (.ref lr), .val (.ref br), .val (.double d0), .second, .val (.double d1), .second, .val (.double d2), .second, .val (.double a10), .second, .val (.double a20), .second, .val (.double a21), .second, .val (.double x0), .second, .val (.double x1), .second, .val (.double x2), .second, .unset, .unset]) at_296 rfl rfl ?_
  have qP00 := o_mul_abs (a := zd0) (b := zx0) k_d0.2 k_x0
  have P00 : oR (zd0 * zx0) 0 (FP.dmul d0 x0) := R_d0.mul R_x0 (by omega) (by decide)
  have qP10 := o_mul_abs (a := za10) (b := zx0) k_a10 k_x0
  have P10 : oR (za10 * zx0) 0 (FP.dmul a10 x0) := R_a10.mul R_x0 (by omega) (by decide)
  have qP11 := o_mul_abs (a := zd1) (b := zx1) k_d1.2 k_x1
  have P11 : oR (zd1 * zx1) 0 (FP.dmul d1 x1) := R_d1.mul R_x1 (by omega) (by decide)
  have qP20 := o_mul_abs (a := za20) (b := zx0) k_a20 k_x0
  have P20 : oR (za20 * zx0) 0 (FP.dmul a20 x0) := R_a20.mul R_x0 (by omega) (by decide)
  have qP21 := o_mul_abs (a := za21) (b := zx1) k_a21 k_x1
  have P21 : oR (za21 * zx1) 0 (FP.dmul a21 x1) := R_a21.mul R_x1 (by omega) (by decide)
  have qP22 := o_mul_abs (a := zd2) (b := zx2) k_d2.2 k_x2
  have P22 : oR (zd2 * zx2) 0 (FP.dmul d2 x2) := R_d2.mul R_x2 (by omega) (by decide)
  have S1 : oR (za10 * zx0 + zd1 * zx1) 0 (FP.dadd (FP.dmul a10 x0) (FP.dmul d1 x1)) := P10.add P11 (by omega) (by decide)
  have S2a : oR (za20 * zx0 + za21 * zx1) 0 (FP.dadd (FP.dmul a20 x0) (FP.dmul a21 x1)) := P20.add P21 (by omega) (by decide)
  have S2 : oR (za20 * zx0 + za21 * zx1 + zd2 * zx2) 0 (FP.dadd (FP.dadd (FP.dmul a20 x0) (FP.dmul a21 x1)) (FP.dmul d2 x2)) := S2a.add P22 (by omega) (by decide)
  have la0 : oAll 12 [.double ga0, .double ga1, .double ga2, .double ga3, .double ga4, .double ga5, .double ga6, .double ga7, .double ga8, .double ga9, .double ga10, .double ga11] := by
    intro i hi
    match i, hi with
    | 0, _ => exact ⟨ga0, rfl, n_ga0⟩
    | 1, _ => exact ⟨ga1, rfl, n_ga1⟩
    | 2, _ => exact ⟨ga2, rfl, n_ga2⟩
    | 3, _ => exact ⟨ga3, rfl, n_ga3⟩
    | 4, _ => exact ⟨ga4, rfl, n_ga4⟩
    | 5, _ => exact ⟨ga5, rfl, n_ga5⟩
    | 6, _ => exact ⟨ga6, rfl, n_ga6⟩
    | 7, _ => exact ⟨ga7, rfl, n_ga7⟩
    | 8, _ => exact ⟨ga8, rfl, n_ga8⟩
    | 9, _ => exact ⟨ga9, rfl, n_ga9⟩
    | 10, _ => exact ⟨ga10, rfl, n_ga10⟩
    | 11, _ => exact ⟨ga11, rfl, n_ga11⟩
  have bo0 : ∀ i, i < 7 → ∃ d, ([.double gb0, .double gb1, .double gb2, .double gb3, .double gb4, .double gb5, .double gb6] : List Value)[i]? = some (.double d) ∧ NoNaN64 d ∧ d = (FP.i2d ((XT.ushr p5 (Int32.ofNat i) &&& (15 : Int32)) - (7 : Int32))) := by
    intro i hi
    match i, hi with
    | 0, _ => exact ⟨gb0, rfl, n_gb0, h_gb0⟩
    | 1, _ => exact ⟨gb1, rfl, n_gb1, h_gb1⟩
    | 2, _ => exact ⟨gb2, rfl, n_gb2, h_gb2⟩
    | 3, _ => exact ⟨gb3, rfl, n_gb3, h_gb3⟩
    | 4, _ => exact ⟨gb4, rfl, n_gb4, h_gb4⟩
    | 5, _ => exact ⟨gb5, rfl, n_gb5, h_gb5⟩
    | 6, _ => exact ⟨gb6, rfl, n_gb6, h_gb6⟩
  have kn : nn = 0 ∨ nn = 1 ∨ nn = 2 ∨ nn = 3 := by rw [h_nn]; exact o_and3 _
  clear h_nn
  rcases kn with rfl | rfl | rfl | rfl
  · refine g_iload cx o (pc' := 300) at_298 rfl rfl ?_
    refine g_iconst cx o (pc' := 301) (1 : Int32) at_300 rfl rfl ?_
    refine g_icmp_lt cx o (pc' := 321) (pc2 := 304) at_301 (by decide) (by decide) rfl (fun c301 => ?_) (fun c301 => absurd (by decide) c301)
    refine g_iload cx o (pc' := 323) at_321 rfl rfl ?_
    refine g_iconst cx o (pc' := 324) (2 : Int32) at_323 rfl rfl ?_
    refine g_icmp_lt cx o (pc' := 367) (pc2 := 327) at_324 (by decide) (by decide) rfl (fun c324 => ?_) (fun c324 => absurd (by decide) c324)
    refine g_iload cx o (pc' := 369) at_367 rfl rfl ?_
    refine g_iconst cx o (pc' := 370) (3 : Int32) at_369 rfl rfl ?_
    refine g_icmp_lt cx o (pc' := 437) (pc2 := 373) at_370 (by decide) (by decide) rfl (fun c370 => ?_) (fun c370 => absurd (by decide) c370)
    have la : oAll 12 [.double ga0, .double ga1, .double ga2, .double ga3, .double ga4, .double ga5, .double ga6, .double ga7, .double ga8, .double ga9, .double ga10, .double ga11] := la0
    have bo : ∀ i, i < 7 → ∃ d, ([.double gb0, .double gb1, .double gb2, .double gb3, .double gb4, .double gb5, .double gb6] : List Value)[i]? = some (.double d) ∧ NoNaN64 d ∧ d = (FP.i2d ((XT.ushr p5 (Int32.ofNat i) &&& (15 : Int32)) - (7 : Int32))) := by
      intro i hi
      skip
      exact bo0 i hi
    have bl : ([.double gb0, .double gb1, .double gb2, .double gb3, .double gb4, .double gb5, .double gb6] : List Value).length = 7 := by simp only [List.length_set, List.length_cons, List.length_nil]
    generalize hlv : ([.double ga0, .double ga1, .double ga2, .double ga3, .double ga4, .double ga5, .double ga6, .double ga7, .double ga8, .double ga9, .double ga10, .double ga11] : List Value) = lv at o la 
    generalize hbv : ([.double gb0, .double gb1, .double gb2, .double gb3, .double gb4, .double gb5, .double gb6] : List Value) = bs at o bl bo 
    obtain ⟨e0, ge0, ne0⟩ := la 0 (by decide)
    obtain ⟨e1, ge1, ne1⟩ := la 1 (by decide)
    obtain ⟨e2, ge2, ne2⟩ := la 2 (by decide)
    obtain ⟨e3, ge3, ne3⟩ := la 3 (by decide)
    obtain ⟨e4, ge4, ne4⟩ := la 4 (by decide)
    obtain ⟨e5, ge5, ne5⟩ := la 5 (by decide)
    obtain ⟨e6, ge6, ne6⟩ := la 6 (by decide)
    obtain ⟨e7, ge7, ne7⟩ := la 7 (by decide)
    obtain ⟨e8, ge8, ne8⟩ := la 8 (by decide)
    obtain ⟨e9, ge9, ne9⟩ := la 9 (by decide)
    obtain ⟨e10, ge10, ne10⟩ := la 10 (by decide)
    obtain ⟨e11, ge11, ne11⟩ := la 11 (by decide)
    refine g_bipush cx o (pc' := 439) (12 : Int32) at_437 rfl (by decide) ?_
    refine g_newarray cx o (pc' := 441) (vs := [.double (0 : UInt64), .double (0 : UInt64), .double (0 : UInt64), .double (0 : UInt64), .double (0 : UInt64), .double (0 : UInt64), .double (0 : UInt64), .double (0 : UInt64), .double (0 : UInt64), .double (0 : UInt64), .double (0 : UInt64), .double (0 : UInt64)]) (hw _ (List.mem_of_getElem? (i := 0) rfl)) rfl 12 12 rfl rfl (by decide) (by decide) (by decide) (by decide) at_439 rfl (fun T lc o => ?_)
    refine g_astore cx o (pc' := 443) (l' := #[.val (.int p0), .val (.int p1), .val (.int p2), .val (.int p3), .val (.int p4), .val (.int p5), .val (.int (0 : Int32)), .val (.int (Int32.ofNat O)), .val (.int (Int32.ofNat M)), .val (.ref lr), .val (.ref br), .val (.double d0), .second, .val (.double d1), .second, .val (.double d2), .second, .val (.double a10), .second, .val (.double a20), .second, .val (.double a21), .second, .val (.double x0), .second, .val (.double x1), .second, .val (.double x2), .second, .val (.ref lc), .unset]) at_441 rfl rfl rfl ?_
    refine g_aload cx o (pc' := 445) at_443 rfl rfl rfl ?_
    refine g_iconst cx o (pc' := 446) (0 : Int32) at_445 rfl rfl ?_
    refine g_aload cx o (pc' := 448) at_446 rfl rfl rfl ?_
    refine g_iconst cx o (pc' := 449) (0 : Int32) at_448 rfl rfl ?_
    refine g_daload cx o (pc' := 450)  2 0 rfl (by decide) ge0 at_449 rfl ?_
    refine g_dastore cx o (pc' := 451) 0 0 rfl (by decide) (Nat.le_of_ble_eq_true rfl) at_450 rfl (fun T o => ?_)
    simp only [List.set_cons_zero, List.set_cons_succ] at o
    refine g_aload cx o (pc' := 453) at_451 rfl rfl rfl ?_
    refine g_iconst cx o (pc' := 454) (1 : Int32) at_453 rfl rfl ?_
    refine g_aload cx o (pc' := 456) at_454 rfl rfl rfl ?_
    refine g_iconst cx o (pc' := 457) (1 : Int32) at_456 rfl rfl ?_
    refine g_daload cx o (pc' := 458)  2 1 rfl (by decide) ge1 at_457 rfl ?_
    refine g_dastore cx o (pc' := 459) 0 1 rfl (by decide) (Nat.le_of_ble_eq_true rfl) at_458 rfl (fun T o => ?_)
    simp only [List.set_cons_zero, List.set_cons_succ] at o
    refine g_aload cx o (pc' := 461) at_459 rfl rfl rfl ?_
    refine g_iconst cx o (pc' := 462) (2 : Int32) at_461 rfl rfl ?_
    refine g_aload cx o (pc' := 464) at_462 rfl rfl rfl ?_
    refine g_iconst cx o (pc' := 465) (2 : Int32) at_464 rfl rfl ?_
    refine g_daload cx o (pc' := 466)  2 2 rfl (by decide) ge2 at_465 rfl ?_
    refine g_dastore cx o (pc' := 467) 0 2 rfl (by decide) (Nat.le_of_ble_eq_true rfl) at_466 rfl (fun T o => ?_)
    simp only [List.set_cons_zero, List.set_cons_succ] at o
    refine g_aload cx o (pc' := 469) at_467 rfl rfl rfl ?_
    refine g_iconst cx o (pc' := 470) (3 : Int32) at_469 rfl rfl ?_
    refine g_aload cx o (pc' := 472) at_470 rfl rfl rfl ?_
    refine g_iconst cx o (pc' := 473) (3 : Int32) at_472 rfl rfl ?_
    refine g_daload cx o (pc' := 474)  2 3 rfl (by decide) ge3 at_473 rfl ?_
    refine g_dastore cx o (pc' := 475) 0 3 rfl (by decide) (Nat.le_of_ble_eq_true rfl) at_474 rfl (fun T o => ?_)
    simp only [List.set_cons_zero, List.set_cons_succ] at o
    refine g_aload cx o (pc' := 477) at_475 rfl rfl rfl ?_
    refine g_iconst cx o (pc' := 478) (4 : Int32) at_477 rfl rfl ?_
    refine g_aload cx o (pc' := 480) at_478 rfl rfl rfl ?_
    refine g_iconst cx o (pc' := 481) (4 : Int32) at_480 rfl rfl ?_
    refine g_daload cx o (pc' := 482)  2 4 rfl (by decide) ge4 at_481 rfl ?_
    refine g_dastore cx o (pc' := 483) 0 4 rfl (by decide) (Nat.le_of_ble_eq_true rfl) at_482 rfl (fun T o => ?_)
    simp only [List.set_cons_zero, List.set_cons_succ] at o
    refine g_aload cx o (pc' := 485) at_483 rfl rfl rfl ?_
    refine g_iconst cx o (pc' := 486) (5 : Int32) at_485 rfl rfl ?_
    refine g_aload cx o (pc' := 488) at_486 rfl rfl rfl ?_
    refine g_iconst cx o (pc' := 489) (5 : Int32) at_488 rfl rfl ?_
    refine g_daload cx o (pc' := 490)  2 5 rfl (by decide) ge5 at_489 rfl ?_
    refine g_dastore cx o (pc' := 491) 0 5 rfl (by decide) (Nat.le_of_ble_eq_true rfl) at_490 rfl (fun T o => ?_)
    simp only [List.set_cons_zero, List.set_cons_succ] at o
    refine g_aload cx o (pc' := 493) at_491 rfl rfl rfl ?_
    refine g_bipush cx o (pc' := 495) (6 : Int32) at_493 rfl (by decide) ?_
    refine g_aload cx o (pc' := 497) at_495 rfl rfl rfl ?_
    refine g_bipush cx o (pc' := 499) (6 : Int32) at_497 rfl (by decide) ?_
    refine g_daload cx o (pc' := 500)  2 6 rfl (by decide) ge6 at_499 rfl ?_
    refine g_dastore cx o (pc' := 501) 0 6 rfl (by decide) (Nat.le_of_ble_eq_true rfl) at_500 rfl (fun T o => ?_)
    simp only [List.set_cons_zero, List.set_cons_succ] at o
    refine g_aload cx o (pc' := 503) at_501 rfl rfl rfl ?_
    refine g_bipush cx o (pc' := 505) (7 : Int32) at_503 rfl (by decide) ?_
    refine g_aload cx o (pc' := 507) at_505 rfl rfl rfl ?_
    refine g_bipush cx o (pc' := 509) (7 : Int32) at_507 rfl (by decide) ?_
    refine g_daload cx o (pc' := 510)  2 7 rfl (by decide) ge7 at_509 rfl ?_
    refine g_dastore cx o (pc' := 511) 0 7 rfl (by decide) (Nat.le_of_ble_eq_true rfl) at_510 rfl (fun T o => ?_)
    simp only [List.set_cons_zero, List.set_cons_succ] at o
    refine g_aload cx o (pc' := 513) at_511 rfl rfl rfl ?_
    refine g_bipush cx o (pc' := 515) (8 : Int32) at_513 rfl (by decide) ?_
    refine g_aload cx o (pc' := 517) at_515 rfl rfl rfl ?_
    refine g_bipush cx o (pc' := 519) (8 : Int32) at_517 rfl (by decide) ?_
    refine g_daload cx o (pc' := 520)  2 8 rfl (by decide) ge8 at_519 rfl ?_
    refine g_dastore cx o (pc' := 521) 0 8 rfl (by decide) (Nat.le_of_ble_eq_true rfl) at_520 rfl (fun T o => ?_)
    simp only [List.set_cons_zero, List.set_cons_succ] at o
    refine g_aload cx o (pc' := 523) at_521 rfl rfl rfl ?_
    refine g_bipush cx o (pc' := 525) (9 : Int32) at_523 rfl (by decide) ?_
    refine g_aload cx o (pc' := 527) at_525 rfl rfl rfl ?_
    refine g_bipush cx o (pc' := 529) (9 : Int32) at_527 rfl (by decide) ?_
    refine g_daload cx o (pc' := 530)  2 9 rfl (by decide) ge9 at_529 rfl ?_
    refine g_dastore cx o (pc' := 531) 0 9 rfl (by decide) (Nat.le_of_ble_eq_true rfl) at_530 rfl (fun T o => ?_)
    simp only [List.set_cons_zero, List.set_cons_succ] at o
    refine g_aload cx o (pc' := 533) at_531 rfl rfl rfl ?_
    refine g_bipush cx o (pc' := 535) (10 : Int32) at_533 rfl (by decide) ?_
    refine g_aload cx o (pc' := 537) at_535 rfl rfl rfl ?_
    refine g_bipush cx o (pc' := 539) (10 : Int32) at_537 rfl (by decide) ?_
    refine g_daload cx o (pc' := 540)  2 10 rfl (by decide) ge10 at_539 rfl ?_
    refine g_dastore cx o (pc' := 541) 0 10 rfl (by decide) (Nat.le_of_ble_eq_true rfl) at_540 rfl (fun T o => ?_)
    simp only [List.set_cons_zero, List.set_cons_succ] at o
    refine g_aload cx o (pc' := 543) at_541 rfl rfl rfl ?_
    refine g_bipush cx o (pc' := 545) (11 : Int32) at_543 rfl (by decide) ?_
    refine g_aload cx o (pc' := 547) at_545 rfl rfl rfl ?_
    refine g_bipush cx o (pc' := 549) (11 : Int32) at_547 rfl (by decide) ?_
    refine g_daload cx o (pc' := 550)  2 11 rfl (by decide) ge11 at_549 rfl ?_
    refine g_dastore cx o (pc' := 551) 0 11 rfl (by decide) (Nat.le_of_ble_eq_true rfl) at_550 rfl (fun T o => ?_)
    simp only [List.set_cons_zero, List.set_cons_succ] at o
    refine g_aload cx o (pc' := 553) at_551 rfl rfl rfl ?_
    refine g_iload cx o (pc' := 555) at_553 rfl rfl ?_
    refine g_iload cx o (pc' := 557) at_555 rfl rfl ?_
    refine g_aload cx o (pc' := 559) at_557 rfl rfl rfl ?_
    refine g_iload cx o (pc' := 561) at_559 rfl rfl ?_
    have o := (o.front 2 rfl)
    simp only [List.eraseIdx_cons_zero, List.eraseIdx_cons_succ] at o
    have o := (o.front 2 rfl)
    simp only [List.eraseIdx_cons_zero, List.eraseIdx_cons_succ] at o
    refine g_static cx o (pc' := 564) (y := (⟨"com/example/cachesmith/cachesmith/solver/Cholesky", "forward", "([DII[DI)V"⟩ : MethodName)) (hw _ (List.mem_of_getElem? (i := 14) rfl)) (hw _ (List.mem_of_getElem? (i := 15) rfl)) (hw _ (List.mem_of_getElem? (i := 16) rfl)) (hw _ (List.mem_of_getElem? (i := 17) rfl)) (fo0 l Z a0 hw lr br lv bs O M _ (by rw [bl]; omega)   )  rfl pd_5 rfl (by decide) rfl 0 (Nat.le_of_eq rfl) (by decide) (by decide) (by decide) (by decide) at_561 rfl (fun T v L hQ o => ?_)
    obtain ⟨rfl, rfl⟩ := hQ
    simp only [Option.toList_some, Option.toList_none, List.cons_append, List.nil_append]
    have cf : ∀ i, i < 7 → ∃ bv, (bs : List Value)[i]? = some (.double bv) ∧ ((i = M ∧ 0 < 0 ∧ cmpValue (FP.dcmp bv x0) .l = 0) ∨ (i = M + 1 ∧ 1 < 0 ∧ cmpValue (FP.dcmp bv x1) .l = 0) ∨ (i = M + 2 ∧ 2 < 0 ∧ cmpValue (FP.dcmp bv x2) .l = 0) ∨ (¬ (M ≤ i ∧ i < M + 0) ∧ cmpValue (FP.dcmp bv (FP.i2d ((XT.ushr p5 (Int32.ofNat i) &&& (15 : Int32)) - (7 : Int32)))) .l = 0)) := by
      intro i hi
      obtain ⟨d, gd, nd, ed⟩ := bo i hi
      exact ⟨d, gd, Or.inr (Or.inr (Or.inr ⟨by omega, by rw [← ed]; exact dcmpV_self nd _⟩))⟩
    refine g_aload cx o (pc' := 566) at_564 rfl rfl rfl ?_
    refine g_iconst cx o (pc' := 567) (0 : Int32) at_566 rfl rfl ?_
    refine g_daload cx o (pc' := 568)  1 0 rfl (by decide) ge0 at_567 rfl ?_
    refine g_aload cx o (pc' := 570) at_568 rfl rfl rfl ?_
    refine g_iconst cx o (pc' := 571) (0 : Int32) at_570 rfl rfl ?_
    refine g_daload cx o (pc' := 572)  2 0 rfl (by decide) rfl at_571 rfl ?_
    refine g_dcmp cx o (pc' := 573) at_572 rfl ?_
    refine g_if_ne cx o (pc' := 724) (pc2 := 576) at_573 (by decide) (by decide) rfl (fun c573 => absurd (dcmpV_self ne0 _) c573) (fun c573 => ?_)
    refine g_aload cx o (pc' := 578) at_576 rfl rfl rfl ?_
    refine g_iconst cx o (pc' := 579) (1 : Int32) at_578 rfl rfl ?_
    refine g_daload cx o (pc' := 580)  1 1 rfl (by decide) ge1 at_579 rfl ?_
    refine g_aload cx o (pc' := 582) at_580 rfl rfl rfl ?_
    refine g_iconst cx o (pc' := 583) (1 : Int32) at_582 rfl rfl ?_
    refine g_daload cx o (pc' := 584)  2 1 rfl (by decide) rfl at_583 rfl ?_
    refine g_dcmp cx o (pc' := 585) at_584 rfl ?_
    refine g_if_ne cx o (pc' := 724) (pc2 := 588) at_585 (by decide) (by decide) rfl (fun c585 => absurd (dcmpV_self ne1 _) c585) (fun c585 => ?_)
    refine g_aload cx o (pc' := 590) at_588 rfl rfl rfl ?_
    refine g_iconst cx o (pc' := 591) (2 : Int32) at_590 rfl rfl ?_
    refine g_daload cx o (pc' := 592)  1 2 rfl (by decide) ge2 at_591 rfl ?_
    refine g_aload cx o (pc' := 594) at_592 rfl rfl rfl ?_
    refine g_iconst cx o (pc' := 595) (2 : Int32) at_594 rfl rfl ?_
    refine g_daload cx o (pc' := 596)  2 2 rfl (by decide) rfl at_595 rfl ?_
    refine g_dcmp cx o (pc' := 597) at_596 rfl ?_
    refine g_if_ne cx o (pc' := 724) (pc2 := 600) at_597 (by decide) (by decide) rfl (fun c597 => absurd (dcmpV_self ne2 _) c597) (fun c597 => ?_)
    refine g_aload cx o (pc' := 602) at_600 rfl rfl rfl ?_
    refine g_iconst cx o (pc' := 603) (3 : Int32) at_602 rfl rfl ?_
    refine g_daload cx o (pc' := 604)  1 3 rfl (by decide) ge3 at_603 rfl ?_
    refine g_aload cx o (pc' := 606) at_604 rfl rfl rfl ?_
    refine g_iconst cx o (pc' := 607) (3 : Int32) at_606 rfl rfl ?_
    refine g_daload cx o (pc' := 608)  2 3 rfl (by decide) rfl at_607 rfl ?_
    refine g_dcmp cx o (pc' := 609) at_608 rfl ?_
    refine g_if_ne cx o (pc' := 724) (pc2 := 612) at_609 (by decide) (by decide) rfl (fun c609 => absurd (dcmpV_self ne3 _) c609) (fun c609 => ?_)
    refine g_aload cx o (pc' := 614) at_612 rfl rfl rfl ?_
    refine g_iconst cx o (pc' := 615) (4 : Int32) at_614 rfl rfl ?_
    refine g_daload cx o (pc' := 616)  1 4 rfl (by decide) ge4 at_615 rfl ?_
    refine g_aload cx o (pc' := 618) at_616 rfl rfl rfl ?_
    refine g_iconst cx o (pc' := 619) (4 : Int32) at_618 rfl rfl ?_
    refine g_daload cx o (pc' := 620)  2 4 rfl (by decide) rfl at_619 rfl ?_
    refine g_dcmp cx o (pc' := 621) at_620 rfl ?_
    refine g_if_ne cx o (pc' := 724) (pc2 := 624) at_621 (by decide) (by decide) rfl (fun c621 => absurd (dcmpV_self ne4 _) c621) (fun c621 => ?_)
    refine g_aload cx o (pc' := 626) at_624 rfl rfl rfl ?_
    refine g_iconst cx o (pc' := 627) (5 : Int32) at_626 rfl rfl ?_
    refine g_daload cx o (pc' := 628)  1 5 rfl (by decide) ge5 at_627 rfl ?_
    refine g_aload cx o (pc' := 630) at_628 rfl rfl rfl ?_
    refine g_iconst cx o (pc' := 631) (5 : Int32) at_630 rfl rfl ?_
    refine g_daload cx o (pc' := 632)  2 5 rfl (by decide) rfl at_631 rfl ?_
    refine g_dcmp cx o (pc' := 633) at_632 rfl ?_
    refine g_if_ne cx o (pc' := 724) (pc2 := 636) at_633 (by decide) (by decide) rfl (fun c633 => absurd (dcmpV_self ne5 _) c633) (fun c633 => ?_)
    refine g_aload cx o (pc' := 638) at_636 rfl rfl rfl ?_
    refine g_bipush cx o (pc' := 640) (6 : Int32) at_638 rfl (by decide) ?_
    refine g_daload cx o (pc' := 641)  1 6 rfl (by decide) ge6 at_640 rfl ?_
    refine g_aload cx o (pc' := 643) at_641 rfl rfl rfl ?_
    refine g_bipush cx o (pc' := 645) (6 : Int32) at_643 rfl (by decide) ?_
    refine g_daload cx o (pc' := 646)  2 6 rfl (by decide) rfl at_645 rfl ?_
    refine g_dcmp cx o (pc' := 647) at_646 rfl ?_
    refine g_if_ne cx o (pc' := 724) (pc2 := 650) at_647 (by decide) (by decide) rfl (fun c647 => absurd (dcmpV_self ne6 _) c647) (fun c647 => ?_)
    refine g_aload cx o (pc' := 652) at_650 rfl rfl rfl ?_
    refine g_bipush cx o (pc' := 654) (7 : Int32) at_652 rfl (by decide) ?_
    refine g_daload cx o (pc' := 655)  1 7 rfl (by decide) ge7 at_654 rfl ?_
    refine g_aload cx o (pc' := 657) at_655 rfl rfl rfl ?_
    refine g_bipush cx o (pc' := 659) (7 : Int32) at_657 rfl (by decide) ?_
    refine g_daload cx o (pc' := 660)  2 7 rfl (by decide) rfl at_659 rfl ?_
    refine g_dcmp cx o (pc' := 661) at_660 rfl ?_
    refine g_if_ne cx o (pc' := 724) (pc2 := 664) at_661 (by decide) (by decide) rfl (fun c661 => absurd (dcmpV_self ne7 _) c661) (fun c661 => ?_)
    refine g_aload cx o (pc' := 666) at_664 rfl rfl rfl ?_
    refine g_bipush cx o (pc' := 668) (8 : Int32) at_666 rfl (by decide) ?_
    refine g_daload cx o (pc' := 669)  1 8 rfl (by decide) ge8 at_668 rfl ?_
    refine g_aload cx o (pc' := 671) at_669 rfl rfl rfl ?_
    refine g_bipush cx o (pc' := 673) (8 : Int32) at_671 rfl (by decide) ?_
    refine g_daload cx o (pc' := 674)  2 8 rfl (by decide) rfl at_673 rfl ?_
    refine g_dcmp cx o (pc' := 675) at_674 rfl ?_
    refine g_if_ne cx o (pc' := 724) (pc2 := 678) at_675 (by decide) (by decide) rfl (fun c675 => absurd (dcmpV_self ne8 _) c675) (fun c675 => ?_)
    refine g_aload cx o (pc' := 680) at_678 rfl rfl rfl ?_
    refine g_bipush cx o (pc' := 682) (9 : Int32) at_680 rfl (by decide) ?_
    refine g_daload cx o (pc' := 683)  1 9 rfl (by decide) ge9 at_682 rfl ?_
    refine g_aload cx o (pc' := 685) at_683 rfl rfl rfl ?_
    refine g_bipush cx o (pc' := 687) (9 : Int32) at_685 rfl (by decide) ?_
    refine g_daload cx o (pc' := 688)  2 9 rfl (by decide) rfl at_687 rfl ?_
    refine g_dcmp cx o (pc' := 689) at_688 rfl ?_
    refine g_if_ne cx o (pc' := 724) (pc2 := 692) at_689 (by decide) (by decide) rfl (fun c689 => absurd (dcmpV_self ne9 _) c689) (fun c689 => ?_)
    refine g_aload cx o (pc' := 694) at_692 rfl rfl rfl ?_
    refine g_bipush cx o (pc' := 696) (10 : Int32) at_694 rfl (by decide) ?_
    refine g_daload cx o (pc' := 697)  1 10 rfl (by decide) ge10 at_696 rfl ?_
    refine g_aload cx o (pc' := 699) at_697 rfl rfl rfl ?_
    refine g_bipush cx o (pc' := 701) (10 : Int32) at_699 rfl (by decide) ?_
    refine g_daload cx o (pc' := 702)  2 10 rfl (by decide) rfl at_701 rfl ?_
    refine g_dcmp cx o (pc' := 703) at_702 rfl ?_
    refine g_if_ne cx o (pc' := 724) (pc2 := 706) at_703 (by decide) (by decide) rfl (fun c703 => absurd (dcmpV_self ne10 _) c703) (fun c703 => ?_)
    refine g_aload cx o (pc' := 708) at_706 rfl rfl rfl ?_
    refine g_bipush cx o (pc' := 710) (11 : Int32) at_708 rfl (by decide) ?_
    refine g_daload cx o (pc' := 711)  1 11 rfl (by decide) ge11 at_710 rfl ?_
    refine g_aload cx o (pc' := 713) at_711 rfl rfl rfl ?_
    refine g_bipush cx o (pc' := 715) (11 : Int32) at_713 rfl (by decide) ?_
    refine g_daload cx o (pc' := 716)  2 11 rfl (by decide) rfl at_715 rfl ?_
    refine g_dcmp cx o (pc' := 717) at_716 rfl ?_
    refine g_if_ne cx o (pc' := 724) (pc2 := 720) at_717 (by decide) (by decide) rfl (fun c717 => absurd (dcmpV_self ne11 _) c717) (fun c717 => ?_)
    refine g_iconst cx o (pc' := 721) (1 : Int32) at_720 rfl rfl ?_
    refine g_goto cx o (pc' := 725) at_721 (by decide) (by decide) ?_
    refine g_istore cx o (pc' := 727) (l' := #[.val (.int p0), .val (.int p1), .val (.int p2), .val (.int p3), .val (.int p4), .val (.int p5), .val (.int (0 : Int32)), .val (.int (Int32.ofNat O)), .val (.int (Int32.ofNat M)), .val (.ref lr), .val (.ref br), .val (.double d0), .second, .val (.double d1), .second, .val (.double d2), .second, .val (.double a10), .second, .val (.double a20), .second, .val (.double a21), .second, .val (.double x0), .second, .val (.double x1), .second, .val (.double x2), .second, .val (.ref lc), .val (.int (1 : Int32))]) at_725 rfl rfl ?_
    refine g_iload cx o (pc' := 729) at_727 rfl rfl ?_
    refine g_if_eq cx o (pc' := 884) (pc2 := 732) at_729 (by decide) (by decide) rfl (fun c729 => absurd c729 (by decide)) (fun c729 => ?_)
    refine g_aload cx o (pc' := 734) at_732 rfl rfl rfl ?_
    refine g_iconst cx o (pc' := 735) (0 : Int32) at_734 rfl rfl ?_
    refine g_iload cx o (pc' := 737) at_735 rfl rfl ?_
    refine g_iload cx o (pc' := 739) at_737 rfl rfl ?_
    refine g_dload cx o (pc' := 741) at_739 rfl rfl ?_
    refine g_dload cx o (pc' := 743) at_741 rfl rfl ?_
    refine g_dload cx o (pc' := 745) at_743 rfl rfl ?_
    refine g_iload cx o (pc' := 747) at_745 rfl rfl ?_
    obtain ⟨bv0, g0, h0⟩ := cf 0 (by decide)
    refine g_static cx o (pc' := 750) (y := (⟨"com/example/cachesmith/cachesmith/solver/CholeskyForwardPinLaw", "okB", "([DIIIDDDI)Z"⟩ : MethodName)) (hw _ (List.mem_of_getElem? (i := 18) rfl)) (hw _ (List.mem_of_getElem? (i := 19) rfl)) (hw _ (List.mem_of_getElem? (i := 3) rfl)) (hw _ (List.mem_of_getElem? (i := 20) rfl)) (rmOk l Z a0 hw br _ 0 M 0 (by decide) hM (by decide) x0 x1 x2 p5 bv0 _ 0 rfl g0 h0)  rfl pd_6 rfl (by decide) rfl 0 (Nat.le_of_eq rfl) (by decide) (by decide) (by decide) (by decide) at_747 rfl (fun T v L hQ o => ?_)
    obtain ⟨rfl, rfl⟩ := hQ
    simp only [Option.toList_some, Option.toList_none, List.cons_append, List.nil_append]
    refine g_if_eq cx o (pc' := 884) (pc2 := 753) at_750 (by decide) (by decide) rfl (fun c750 => absurd c750 (by decide)) (fun c750 => ?_)
    refine g_aload cx o (pc' := 755) at_753 rfl rfl rfl ?_
    refine g_iconst cx o (pc' := 756) (1 : Int32) at_755 rfl rfl ?_
    refine g_iload cx o (pc' := 758) at_756 rfl rfl ?_
    refine g_iload cx o (pc' := 760) at_758 rfl rfl ?_
    refine g_dload cx o (pc' := 762) at_760 rfl rfl ?_
    refine g_dload cx o (pc' := 764) at_762 rfl rfl ?_
    refine g_dload cx o (pc' := 766) at_764 rfl rfl ?_
    refine g_iload cx o (pc' := 768) at_766 rfl rfl ?_
    obtain ⟨bv1, g1, h1⟩ := cf 1 (by decide)
    refine g_static cx o (pc' := 771) (y := (⟨"com/example/cachesmith/cachesmith/solver/CholeskyForwardPinLaw", "okB", "([DIIIDDDI)Z"⟩ : MethodName)) (hw _ (List.mem_of_getElem? (i := 18) rfl)) (hw _ (List.mem_of_getElem? (i := 19) rfl)) (hw _ (List.mem_of_getElem? (i := 3) rfl)) (hw _ (List.mem_of_getElem? (i := 20) rfl)) (rmOk l Z a0 hw br _ 1 M 0 (by decide) hM (by decide) x0 x1 x2 p5 bv1 _ 0 rfl g1 h1)  rfl pd_6 rfl (by decide) rfl 0 (Nat.le_of_eq rfl) (by decide) (by decide) (by decide) (by decide) at_768 rfl (fun T v L hQ o => ?_)
    obtain ⟨rfl, rfl⟩ := hQ
    simp only [Option.toList_some, Option.toList_none, List.cons_append, List.nil_append]
    refine g_if_eq cx o (pc' := 884) (pc2 := 774) at_771 (by decide) (by decide) rfl (fun c771 => absurd c771 (by decide)) (fun c771 => ?_)
    refine g_aload cx o (pc' := 776) at_774 rfl rfl rfl ?_
    refine g_iconst cx o (pc' := 777) (2 : Int32) at_776 rfl rfl ?_
    refine g_iload cx o (pc' := 779) at_777 rfl rfl ?_
    refine g_iload cx o (pc' := 781) at_779 rfl rfl ?_
    refine g_dload cx o (pc' := 783) at_781 rfl rfl ?_
    refine g_dload cx o (pc' := 785) at_783 rfl rfl ?_
    refine g_dload cx o (pc' := 787) at_785 rfl rfl ?_
    refine g_iload cx o (pc' := 789) at_787 rfl rfl ?_
    obtain ⟨bv2, g2, h2⟩ := cf 2 (by decide)
    refine g_static cx o (pc' := 792) (y := (⟨"com/example/cachesmith/cachesmith/solver/CholeskyForwardPinLaw", "okB", "([DIIIDDDI)Z"⟩ : MethodName)) (hw _ (List.mem_of_getElem? (i := 18) rfl)) (hw _ (List.mem_of_getElem? (i := 19) rfl)) (hw _ (List.mem_of_getElem? (i := 3) rfl)) (hw _ (List.mem_of_getElem? (i := 20) rfl)) (rmOk l Z a0 hw br _ 2 M 0 (by decide) hM (by decide) x0 x1 x2 p5 bv2 _ 0 rfl g2 h2)  rfl pd_6 rfl (by decide) rfl 0 (Nat.le_of_eq rfl) (by decide) (by decide) (by decide) (by decide) at_789 rfl (fun T v L hQ o => ?_)
    obtain ⟨rfl, rfl⟩ := hQ
    simp only [Option.toList_some, Option.toList_none, List.cons_append, List.nil_append]
    refine g_if_eq cx o (pc' := 884) (pc2 := 795) at_792 (by decide) (by decide) rfl (fun c792 => absurd c792 (by decide)) (fun c792 => ?_)
    refine g_aload cx o (pc' := 797) at_795 rfl rfl rfl ?_
    refine g_iconst cx o (pc' := 798) (3 : Int32) at_797 rfl rfl ?_
    refine g_iload cx o (pc' := 800) at_798 rfl rfl ?_
    refine g_iload cx o (pc' := 802) at_800 rfl rfl ?_
    refine g_dload cx o (pc' := 804) at_802 rfl rfl ?_
    refine g_dload cx o (pc' := 806) at_804 rfl rfl ?_
    refine g_dload cx o (pc' := 808) at_806 rfl rfl ?_
    refine g_iload cx o (pc' := 810) at_808 rfl rfl ?_
    obtain ⟨bv3, g3, h3⟩ := cf 3 (by decide)
    refine g_static cx o (pc' := 813) (y := (⟨"com/example/cachesmith/cachesmith/solver/CholeskyForwardPinLaw", "okB", "([DIIIDDDI)Z"⟩ : MethodName)) (hw _ (List.mem_of_getElem? (i := 18) rfl)) (hw _ (List.mem_of_getElem? (i := 19) rfl)) (hw _ (List.mem_of_getElem? (i := 3) rfl)) (hw _ (List.mem_of_getElem? (i := 20) rfl)) (rmOk l Z a0 hw br _ 3 M 0 (by decide) hM (by decide) x0 x1 x2 p5 bv3 _ 0 rfl g3 h3)  rfl pd_6 rfl (by decide) rfl 0 (Nat.le_of_eq rfl) (by decide) (by decide) (by decide) (by decide) at_810 rfl (fun T v L hQ o => ?_)
    obtain ⟨rfl, rfl⟩ := hQ
    simp only [Option.toList_some, Option.toList_none, List.cons_append, List.nil_append]
    refine g_if_eq cx o (pc' := 884) (pc2 := 816) at_813 (by decide) (by decide) rfl (fun c813 => absurd c813 (by decide)) (fun c813 => ?_)
    refine g_aload cx o (pc' := 818) at_816 rfl rfl rfl ?_
    refine g_iconst cx o (pc' := 819) (4 : Int32) at_818 rfl rfl ?_
    refine g_iload cx o (pc' := 821) at_819 rfl rfl ?_
    refine g_iload cx o (pc' := 823) at_821 rfl rfl ?_
    refine g_dload cx o (pc' := 825) at_823 rfl rfl ?_
    refine g_dload cx o (pc' := 827) at_825 rfl rfl ?_
    refine g_dload cx o (pc' := 829) at_827 rfl rfl ?_
    refine g_iload cx o (pc' := 831) at_829 rfl rfl ?_
    obtain ⟨bv4, g4, h4⟩ := cf 4 (by decide)
    refine g_static cx o (pc' := 834) (y := (⟨"com/example/cachesmith/cachesmith/solver/CholeskyForwardPinLaw", "okB", "([DIIIDDDI)Z"⟩ : MethodName)) (hw _ (List.mem_of_getElem? (i := 18) rfl)) (hw _ (List.mem_of_getElem? (i := 19) rfl)) (hw _ (List.mem_of_getElem? (i := 3) rfl)) (hw _ (List.mem_of_getElem? (i := 20) rfl)) (rmOk l Z a0 hw br _ 4 M 0 (by decide) hM (by decide) x0 x1 x2 p5 bv4 _ 0 rfl g4 h4)  rfl pd_6 rfl (by decide) rfl 0 (Nat.le_of_eq rfl) (by decide) (by decide) (by decide) (by decide) at_831 rfl (fun T v L hQ o => ?_)
    obtain ⟨rfl, rfl⟩ := hQ
    simp only [Option.toList_some, Option.toList_none, List.cons_append, List.nil_append]
    refine g_if_eq cx o (pc' := 884) (pc2 := 837) at_834 (by decide) (by decide) rfl (fun c834 => absurd c834 (by decide)) (fun c834 => ?_)
    refine g_aload cx o (pc' := 839) at_837 rfl rfl rfl ?_
    refine g_iconst cx o (pc' := 840) (5 : Int32) at_839 rfl rfl ?_
    refine g_iload cx o (pc' := 842) at_840 rfl rfl ?_
    refine g_iload cx o (pc' := 844) at_842 rfl rfl ?_
    refine g_dload cx o (pc' := 846) at_844 rfl rfl ?_
    refine g_dload cx o (pc' := 848) at_846 rfl rfl ?_
    refine g_dload cx o (pc' := 850) at_848 rfl rfl ?_
    refine g_iload cx o (pc' := 852) at_850 rfl rfl ?_
    obtain ⟨bv5, g5, h5⟩ := cf 5 (by decide)
    refine g_static cx o (pc' := 855) (y := (⟨"com/example/cachesmith/cachesmith/solver/CholeskyForwardPinLaw", "okB", "([DIIIDDDI)Z"⟩ : MethodName)) (hw _ (List.mem_of_getElem? (i := 18) rfl)) (hw _ (List.mem_of_getElem? (i := 19) rfl)) (hw _ (List.mem_of_getElem? (i := 3) rfl)) (hw _ (List.mem_of_getElem? (i := 20) rfl)) (rmOk l Z a0 hw br _ 5 M 0 (by decide) hM (by decide) x0 x1 x2 p5 bv5 _ 0 rfl g5 h5)  rfl pd_6 rfl (by decide) rfl 0 (Nat.le_of_eq rfl) (by decide) (by decide) (by decide) (by decide) at_852 rfl (fun T v L hQ o => ?_)
    obtain ⟨rfl, rfl⟩ := hQ
    simp only [Option.toList_some, Option.toList_none, List.cons_append, List.nil_append]
    refine g_if_eq cx o (pc' := 884) (pc2 := 858) at_855 (by decide) (by decide) rfl (fun c855 => absurd c855 (by decide)) (fun c855 => ?_)
    refine g_aload cx o (pc' := 860) at_858 rfl rfl rfl ?_
    refine g_bipush cx o (pc' := 862) (6 : Int32) at_860 rfl (by decide) ?_
    refine g_iload cx o (pc' := 864) at_862 rfl rfl ?_
    refine g_iload cx o (pc' := 866) at_864 rfl rfl ?_
    refine g_dload cx o (pc' := 868) at_866 rfl rfl ?_
    refine g_dload cx o (pc' := 870) at_868 rfl rfl ?_
    refine g_dload cx o (pc' := 872) at_870 rfl rfl ?_
    refine g_iload cx o (pc' := 874) at_872 rfl rfl ?_
    obtain ⟨bv6, g6, h6⟩ := cf 6 (by decide)
    refine g_static cx o (pc' := 877) (y := (⟨"com/example/cachesmith/cachesmith/solver/CholeskyForwardPinLaw", "okB", "([DIIIDDDI)Z"⟩ : MethodName)) (hw _ (List.mem_of_getElem? (i := 18) rfl)) (hw _ (List.mem_of_getElem? (i := 19) rfl)) (hw _ (List.mem_of_getElem? (i := 3) rfl)) (hw _ (List.mem_of_getElem? (i := 20) rfl)) (rmOk l Z a0 hw br _ 6 M 0 (by decide) hM (by decide) x0 x1 x2 p5 bv6 _ 0 rfl g6 h6)  rfl pd_6 rfl (by decide) rfl 0 (Nat.le_of_eq rfl) (by decide) (by decide) (by decide) (by decide) at_874 rfl (fun T v L hQ o => ?_)
    obtain ⟨rfl, rfl⟩ := hQ
    simp only [Option.toList_some, Option.toList_none, List.cons_append, List.nil_append]
    refine g_if_eq cx o (pc' := 884) (pc2 := 880) at_877 (by decide) (by decide) rfl (fun c877 => absurd c877 (by decide)) (fun c877 => ?_)
    refine g_iconst cx o (pc' := 881) (1 : Int32) at_880 rfl rfl ?_
    refine g_goto cx o (pc' := 885) at_881 (by decide) (by decide) ?_
    exact g_ireturnZ cx o at_885 (by decide) (by decide) (by decide) rfl
  · refine g_iload cx o (pc' := 300) at_298 rfl rfl ?_
    refine g_iconst cx o (pc' := 301) (1 : Int32) at_300 rfl rfl ?_
    refine g_icmp_lt cx o (pc' := 321) (pc2 := 304) at_301 (by decide) (by decide) rfl (fun c301 => absurd c301 (by decide)) (fun c301 => ?_)
    refine g_aload cx o (pc' := 306) at_304 rfl rfl rfl ?_
    refine g_iload cx o (pc' := 308) at_306 rfl rfl ?_
    refine g_dload cx o (pc' := 310) at_308 rfl rfl ?_
    refine g_dastore cx o (pc' := 311) 1 O rfl rfl (by simp only [List.length_set, List.length_cons, List.length_nil]; omega) at_310 rfl (fun T o => ?_)
    simp only [List.set_cons_zero, List.set_cons_succ] at o
    refine g_aload cx o (pc' := 313) at_311 rfl rfl rfl ?_
    refine g_iload cx o (pc' := 315) at_313 rfl rfl ?_
    refine g_dload cx o (pc' := 317) at_315 rfl rfl ?_
    refine g_dload cx o (pc' := 319) at_317 rfl rfl ?_
    refine g_dmul cx o (pc' := 320) at_319 rfl P00.nn ?_
    refine g_dastore cx o (pc' := 321) 0 M rfl rfl (by simp only [List.length_set, List.length_cons, List.length_nil]; omega) at_320 rfl (fun T o => ?_)
    simp only [List.set_cons_zero, List.set_cons_succ] at o
    refine g_iload cx o (pc' := 323) at_321 rfl rfl ?_
    refine g_iconst cx o (pc' := 324) (2 : Int32) at_323 rfl rfl ?_
    refine g_icmp_lt cx o (pc' := 367) (pc2 := 327) at_324 (by decide) (by decide) rfl (fun c324 => ?_) (fun c324 => absurd (by decide) c324)
    refine g_iload cx o (pc' := 369) at_367 rfl rfl ?_
    refine g_iconst cx o (pc' := 370) (3 : Int32) at_369 rfl rfl ?_
    refine g_icmp_lt cx o (pc' := 437) (pc2 := 373) at_370 (by decide) (by decide) rfl (fun c370 => ?_) (fun c370 => absurd (by decide) c370)
    have la : oAll 12 ([.double ga0, .double ga1, .double ga2, .double ga3, .double ga4, .double ga5, .double ga6, .double ga7, .double ga8, .double ga9, .double ga10, .double ga11].set O (.double d0)) := (la0.set _ R_d0.nn)
    have L00 : (([.double ga0, .double ga1, .double ga2, .double ga3, .double ga4, .double ga5, .double ga6, .double ga7, .double ga8, .double ga9, .double ga10, .double ga11].set O (.double d0)) : List Value)[O + 0]? = some (.double d0) := (o_setat (by omega) (by simp only [List.length_set, List.length_cons, List.length_nil]; omega))
    have B0 : (([.double gb0, .double gb1, .double gb2, .double gb3, .double gb4, .double gb5, .double gb6].set M (.double (FP.dmul d0 x0))) : List Value)[M + 0]? = some (.double (FP.dmul d0 x0)) := (o_setat (by omega) (by simp only [List.length_set, List.length_cons, List.length_nil]; omega))
    have bo : ∀ i, i < 7 → i ≠ M + 0 → ∃ d, (([.double gb0, .double gb1, .double gb2, .double gb3, .double gb4, .double gb5, .double gb6].set M (.double (FP.dmul d0 x0))) : List Value)[i]? = some (.double d) ∧ NoNaN64 d ∧ d = (FP.i2d ((XT.ushr p5 (Int32.ofNat i) &&& (15 : Int32)) - (7 : Int32))) := by
      intro i hi q0
      rw [List.getElem?_set_ne (show M ≠ i from Ne.symm q0)]
      exact bo0 i hi
    have bl : (([.double gb0, .double gb1, .double gb2, .double gb3, .double gb4, .double gb5, .double gb6].set M (.double (FP.dmul d0 x0))) : List Value).length = 7 := by simp only [List.length_set, List.length_cons, List.length_nil]
    generalize hlv : (([.double ga0, .double ga1, .double ga2, .double ga3, .double ga4, .double ga5, .double ga6, .double ga7, .double ga8, .double ga9, .double ga10, .double ga11].set O (.double d0)) : List Value) = lv at o la L00
    generalize hbv : (([.double gb0, .double gb1, .double gb2, .double gb3, .double gb4, .double gb5, .double gb6].set M (.double (FP.dmul d0 x0))) : List Value) = bs at o bl bo B0
    obtain ⟨e0, ge0, ne0⟩ := la 0 (by decide)
    obtain ⟨e1, ge1, ne1⟩ := la 1 (by decide)
    obtain ⟨e2, ge2, ne2⟩ := la 2 (by decide)
    obtain ⟨e3, ge3, ne3⟩ := la 3 (by decide)
    obtain ⟨e4, ge4, ne4⟩ := la 4 (by decide)
    obtain ⟨e5, ge5, ne5⟩ := la 5 (by decide)
    obtain ⟨e6, ge6, ne6⟩ := la 6 (by decide)
    obtain ⟨e7, ge7, ne7⟩ := la 7 (by decide)
    obtain ⟨e8, ge8, ne8⟩ := la 8 (by decide)
    obtain ⟨e9, ge9, ne9⟩ := la 9 (by decide)
    obtain ⟨e10, ge10, ne10⟩ := la 10 (by decide)
    obtain ⟨e11, ge11, ne11⟩ := la 11 (by decide)
    refine g_bipush cx o (pc' := 439) (12 : Int32) at_437 rfl (by decide) ?_
    refine g_newarray cx o (pc' := 441) (vs := [.double (0 : UInt64), .double (0 : UInt64), .double (0 : UInt64), .double (0 : UInt64), .double (0 : UInt64), .double (0 : UInt64), .double (0 : UInt64), .double (0 : UInt64), .double (0 : UInt64), .double (0 : UInt64), .double (0 : UInt64), .double (0 : UInt64)]) (hw _ (List.mem_of_getElem? (i := 0) rfl)) rfl 12 12 rfl rfl (by decide) (by decide) (by decide) (by decide) at_439 rfl (fun T lc o => ?_)
    refine g_astore cx o (pc' := 443) (l' := #[.val (.int p0), .val (.int p1), .val (.int p2), .val (.int p3), .val (.int p4), .val (.int p5), .val (.int (1 : Int32)), .val (.int (Int32.ofNat O)), .val (.int (Int32.ofNat M)), .val (.ref lr), .val (.ref br), .val (.double d0), .second, .val (.double d1), .second, .val (.double d2), .second, .val (.double a10), .second, .val (.double a20), .second, .val (.double a21), .second, .val (.double x0), .second, .val (.double x1), .second, .val (.double x2), .second, .val (.ref lc), .unset]) at_441 rfl rfl rfl ?_
    refine g_aload cx o (pc' := 445) at_443 rfl rfl rfl ?_
    refine g_iconst cx o (pc' := 446) (0 : Int32) at_445 rfl rfl ?_
    refine g_aload cx o (pc' := 448) at_446 rfl rfl rfl ?_
    refine g_iconst cx o (pc' := 449) (0 : Int32) at_448 rfl rfl ?_
    refine g_daload cx o (pc' := 450)  2 0 rfl (by decide) ge0 at_449 rfl ?_
    refine g_dastore cx o (pc' := 451) 0 0 rfl (by decide) (Nat.le_of_ble_eq_true rfl) at_450 rfl (fun T o => ?_)
    simp only [List.set_cons_zero, List.set_cons_succ] at o
    refine g_aload cx o (pc' := 453) at_451 rfl rfl rfl ?_
    refine g_iconst cx o (pc' := 454) (1 : Int32) at_453 rfl rfl ?_
    refine g_aload cx o (pc' := 456) at_454 rfl rfl rfl ?_
    refine g_iconst cx o (pc' := 457) (1 : Int32) at_456 rfl rfl ?_
    refine g_daload cx o (pc' := 458)  2 1 rfl (by decide) ge1 at_457 rfl ?_
    refine g_dastore cx o (pc' := 459) 0 1 rfl (by decide) (Nat.le_of_ble_eq_true rfl) at_458 rfl (fun T o => ?_)
    simp only [List.set_cons_zero, List.set_cons_succ] at o
    refine g_aload cx o (pc' := 461) at_459 rfl rfl rfl ?_
    refine g_iconst cx o (pc' := 462) (2 : Int32) at_461 rfl rfl ?_
    refine g_aload cx o (pc' := 464) at_462 rfl rfl rfl ?_
    refine g_iconst cx o (pc' := 465) (2 : Int32) at_464 rfl rfl ?_
    refine g_daload cx o (pc' := 466)  2 2 rfl (by decide) ge2 at_465 rfl ?_
    refine g_dastore cx o (pc' := 467) 0 2 rfl (by decide) (Nat.le_of_ble_eq_true rfl) at_466 rfl (fun T o => ?_)
    simp only [List.set_cons_zero, List.set_cons_succ] at o
    refine g_aload cx o (pc' := 469) at_467 rfl rfl rfl ?_
    refine g_iconst cx o (pc' := 470) (3 : Int32) at_469 rfl rfl ?_
    refine g_aload cx o (pc' := 472) at_470 rfl rfl rfl ?_
    refine g_iconst cx o (pc' := 473) (3 : Int32) at_472 rfl rfl ?_
    refine g_daload cx o (pc' := 474)  2 3 rfl (by decide) ge3 at_473 rfl ?_
    refine g_dastore cx o (pc' := 475) 0 3 rfl (by decide) (Nat.le_of_ble_eq_true rfl) at_474 rfl (fun T o => ?_)
    simp only [List.set_cons_zero, List.set_cons_succ] at o
    refine g_aload cx o (pc' := 477) at_475 rfl rfl rfl ?_
    refine g_iconst cx o (pc' := 478) (4 : Int32) at_477 rfl rfl ?_
    refine g_aload cx o (pc' := 480) at_478 rfl rfl rfl ?_
    refine g_iconst cx o (pc' := 481) (4 : Int32) at_480 rfl rfl ?_
    refine g_daload cx o (pc' := 482)  2 4 rfl (by decide) ge4 at_481 rfl ?_
    refine g_dastore cx o (pc' := 483) 0 4 rfl (by decide) (Nat.le_of_ble_eq_true rfl) at_482 rfl (fun T o => ?_)
    simp only [List.set_cons_zero, List.set_cons_succ] at o
    refine g_aload cx o (pc' := 485) at_483 rfl rfl rfl ?_
    refine g_iconst cx o (pc' := 486) (5 : Int32) at_485 rfl rfl ?_
    refine g_aload cx o (pc' := 488) at_486 rfl rfl rfl ?_
    refine g_iconst cx o (pc' := 489) (5 : Int32) at_488 rfl rfl ?_
    refine g_daload cx o (pc' := 490)  2 5 rfl (by decide) ge5 at_489 rfl ?_
    refine g_dastore cx o (pc' := 491) 0 5 rfl (by decide) (Nat.le_of_ble_eq_true rfl) at_490 rfl (fun T o => ?_)
    simp only [List.set_cons_zero, List.set_cons_succ] at o
    refine g_aload cx o (pc' := 493) at_491 rfl rfl rfl ?_
    refine g_bipush cx o (pc' := 495) (6 : Int32) at_493 rfl (by decide) ?_
    refine g_aload cx o (pc' := 497) at_495 rfl rfl rfl ?_
    refine g_bipush cx o (pc' := 499) (6 : Int32) at_497 rfl (by decide) ?_
    refine g_daload cx o (pc' := 500)  2 6 rfl (by decide) ge6 at_499 rfl ?_
    refine g_dastore cx o (pc' := 501) 0 6 rfl (by decide) (Nat.le_of_ble_eq_true rfl) at_500 rfl (fun T o => ?_)
    simp only [List.set_cons_zero, List.set_cons_succ] at o
    refine g_aload cx o (pc' := 503) at_501 rfl rfl rfl ?_
    refine g_bipush cx o (pc' := 505) (7 : Int32) at_503 rfl (by decide) ?_
    refine g_aload cx o (pc' := 507) at_505 rfl rfl rfl ?_
    refine g_bipush cx o (pc' := 509) (7 : Int32) at_507 rfl (by decide) ?_
    refine g_daload cx o (pc' := 510)  2 7 rfl (by decide) ge7 at_509 rfl ?_
    refine g_dastore cx o (pc' := 511) 0 7 rfl (by decide) (Nat.le_of_ble_eq_true rfl) at_510 rfl (fun T o => ?_)
    simp only [List.set_cons_zero, List.set_cons_succ] at o
    refine g_aload cx o (pc' := 513) at_511 rfl rfl rfl ?_
    refine g_bipush cx o (pc' := 515) (8 : Int32) at_513 rfl (by decide) ?_
    refine g_aload cx o (pc' := 517) at_515 rfl rfl rfl ?_
    refine g_bipush cx o (pc' := 519) (8 : Int32) at_517 rfl (by decide) ?_
    refine g_daload cx o (pc' := 520)  2 8 rfl (by decide) ge8 at_519 rfl ?_
    refine g_dastore cx o (pc' := 521) 0 8 rfl (by decide) (Nat.le_of_ble_eq_true rfl) at_520 rfl (fun T o => ?_)
    simp only [List.set_cons_zero, List.set_cons_succ] at o
    refine g_aload cx o (pc' := 523) at_521 rfl rfl rfl ?_
    refine g_bipush cx o (pc' := 525) (9 : Int32) at_523 rfl (by decide) ?_
    refine g_aload cx o (pc' := 527) at_525 rfl rfl rfl ?_
    refine g_bipush cx o (pc' := 529) (9 : Int32) at_527 rfl (by decide) ?_
    refine g_daload cx o (pc' := 530)  2 9 rfl (by decide) ge9 at_529 rfl ?_
    refine g_dastore cx o (pc' := 531) 0 9 rfl (by decide) (Nat.le_of_ble_eq_true rfl) at_530 rfl (fun T o => ?_)
    simp only [List.set_cons_zero, List.set_cons_succ] at o
    refine g_aload cx o (pc' := 533) at_531 rfl rfl rfl ?_
    refine g_bipush cx o (pc' := 535) (10 : Int32) at_533 rfl (by decide) ?_
    refine g_aload cx o (pc' := 537) at_535 rfl rfl rfl ?_
    refine g_bipush cx o (pc' := 539) (10 : Int32) at_537 rfl (by decide) ?_
    refine g_daload cx o (pc' := 540)  2 10 rfl (by decide) ge10 at_539 rfl ?_
    refine g_dastore cx o (pc' := 541) 0 10 rfl (by decide) (Nat.le_of_ble_eq_true rfl) at_540 rfl (fun T o => ?_)
    simp only [List.set_cons_zero, List.set_cons_succ] at o
    refine g_aload cx o (pc' := 543) at_541 rfl rfl rfl ?_
    refine g_bipush cx o (pc' := 545) (11 : Int32) at_543 rfl (by decide) ?_
    refine g_aload cx o (pc' := 547) at_545 rfl rfl rfl ?_
    refine g_bipush cx o (pc' := 549) (11 : Int32) at_547 rfl (by decide) ?_
    refine g_daload cx o (pc' := 550)  2 11 rfl (by decide) ge11 at_549 rfl ?_
    refine g_dastore cx o (pc' := 551) 0 11 rfl (by decide) (Nat.le_of_ble_eq_true rfl) at_550 rfl (fun T o => ?_)
    simp only [List.set_cons_zero, List.set_cons_succ] at o
    refine g_aload cx o (pc' := 553) at_551 rfl rfl rfl ?_
    refine g_iload cx o (pc' := 555) at_553 rfl rfl ?_
    refine g_iload cx o (pc' := 557) at_555 rfl rfl ?_
    refine g_aload cx o (pc' := 559) at_557 rfl rfl rfl ?_
    refine g_iload cx o (pc' := 561) at_559 rfl rfl ?_
    have o := (o.front 2 rfl)
    simp only [List.eraseIdx_cons_zero, List.eraseIdx_cons_succ] at o
    have o := (o.front 2 rfl)
    simp only [List.eraseIdx_cons_zero, List.eraseIdx_cons_succ] at o
    have W0 : oR zx0 0 (FP.ddiv (FP.dmul d0 x0) d0) := P00.div (j := 0) R_d0 (o_nz k_d0) (by simp only [Nat.pow_zero, Int.natCast_one, Int.mul_one]; exact Int.mul_comm _ _) (Nat.le_trans k_x0 (by decide)) (by decide) (by decide)
    refine g_static cx o (pc' := 564) (y := (⟨"com/example/cachesmith/cachesmith/solver/Cholesky", "forward", "([DII[DI)V"⟩ : MethodName)) (hw _ (List.mem_of_getElem? (i := 14) rfl)) (hw _ (List.mem_of_getElem? (i := 15) rfl)) (hw _ (List.mem_of_getElem? (i := 16) rfl)) (hw _ (List.mem_of_getElem? (i := 17) rfl)) (fo1 l Z a0 hw lr br lv bs O M _ (by rw [bl]; omega) _ _ L00 B0 W0.nn)  rfl pd_5 rfl (by decide) rfl 0 (Nat.le_of_eq rfl) (by decide) (by decide) (by decide) (by decide) at_561 rfl (fun T v L hQ o => ?_)
    obtain ⟨rfl, rfl⟩ := hQ
    simp only [Option.toList_some, Option.toList_none, List.cons_append, List.nil_append]
    have cf : ∀ i, i < 7 → ∃ bv, ((bs.set (M + 0) (.double (FP.ddiv (FP.dmul d0 x0) d0))) : List Value)[i]? = some (.double bv) ∧ ((i = M ∧ 0 < 1 ∧ cmpValue (FP.dcmp bv x0) .l = 0) ∨ (i = M + 1 ∧ 1 < 1 ∧ cmpValue (FP.dcmp bv x1) .l = 0) ∨ (i = M + 2 ∧ 2 < 1 ∧ cmpValue (FP.dcmp bv x2) .l = 0) ∨ (¬ (M ≤ i ∧ i < M + 1) ∧ cmpValue (FP.dcmp bv (FP.i2d ((XT.ushr p5 (Int32.ofNat i) &&& (15 : Int32)) - (7 : Int32)))) .l = 0)) := by
      intro i hi
      by_cases q0 : i = M + 0
      · rw [q0]
        exact ⟨_, (o_setat (by omega) (by simp only [List.length_set, bl]; omega)), Or.inl ⟨rfl, by decide, W0.eq0 R_x0 rfl⟩⟩
      obtain ⟨d, gd, nd, ed⟩ := bo i hi q0
      exact ⟨d, (o_setne gd (Ne.symm q0)), Or.inr (Or.inr (Or.inr ⟨by omega, by rw [← ed]; exact dcmpV_self nd _⟩))⟩
    refine g_aload cx o (pc' := 566) at_564 rfl rfl rfl ?_
    refine g_iconst cx o (pc' := 567) (0 : Int32) at_566 rfl rfl ?_
    refine g_daload cx o (pc' := 568)  1 0 rfl (by decide) ge0 at_567 rfl ?_
    refine g_aload cx o (pc' := 570) at_568 rfl rfl rfl ?_
    refine g_iconst cx o (pc' := 571) (0 : Int32) at_570 rfl rfl ?_
    refine g_daload cx o (pc' := 572)  2 0 rfl (by decide) rfl at_571 rfl ?_
    refine g_dcmp cx o (pc' := 573) at_572 rfl ?_
    refine g_if_ne cx o (pc' := 724) (pc2 := 576) at_573 (by decide) (by decide) rfl (fun c573 => absurd (dcmpV_self ne0 _) c573) (fun c573 => ?_)
    refine g_aload cx o (pc' := 578) at_576 rfl rfl rfl ?_
    refine g_iconst cx o (pc' := 579) (1 : Int32) at_578 rfl rfl ?_
    refine g_daload cx o (pc' := 580)  1 1 rfl (by decide) ge1 at_579 rfl ?_
    refine g_aload cx o (pc' := 582) at_580 rfl rfl rfl ?_
    refine g_iconst cx o (pc' := 583) (1 : Int32) at_582 rfl rfl ?_
    refine g_daload cx o (pc' := 584)  2 1 rfl (by decide) rfl at_583 rfl ?_
    refine g_dcmp cx o (pc' := 585) at_584 rfl ?_
    refine g_if_ne cx o (pc' := 724) (pc2 := 588) at_585 (by decide) (by decide) rfl (fun c585 => absurd (dcmpV_self ne1 _) c585) (fun c585 => ?_)
    refine g_aload cx o (pc' := 590) at_588 rfl rfl rfl ?_
    refine g_iconst cx o (pc' := 591) (2 : Int32) at_590 rfl rfl ?_
    refine g_daload cx o (pc' := 592)  1 2 rfl (by decide) ge2 at_591 rfl ?_
    refine g_aload cx o (pc' := 594) at_592 rfl rfl rfl ?_
    refine g_iconst cx o (pc' := 595) (2 : Int32) at_594 rfl rfl ?_
    refine g_daload cx o (pc' := 596)  2 2 rfl (by decide) rfl at_595 rfl ?_
    refine g_dcmp cx o (pc' := 597) at_596 rfl ?_
    refine g_if_ne cx o (pc' := 724) (pc2 := 600) at_597 (by decide) (by decide) rfl (fun c597 => absurd (dcmpV_self ne2 _) c597) (fun c597 => ?_)
    refine g_aload cx o (pc' := 602) at_600 rfl rfl rfl ?_
    refine g_iconst cx o (pc' := 603) (3 : Int32) at_602 rfl rfl ?_
    refine g_daload cx o (pc' := 604)  1 3 rfl (by decide) ge3 at_603 rfl ?_
    refine g_aload cx o (pc' := 606) at_604 rfl rfl rfl ?_
    refine g_iconst cx o (pc' := 607) (3 : Int32) at_606 rfl rfl ?_
    refine g_daload cx o (pc' := 608)  2 3 rfl (by decide) rfl at_607 rfl ?_
    refine g_dcmp cx o (pc' := 609) at_608 rfl ?_
    refine g_if_ne cx o (pc' := 724) (pc2 := 612) at_609 (by decide) (by decide) rfl (fun c609 => absurd (dcmpV_self ne3 _) c609) (fun c609 => ?_)
    refine g_aload cx o (pc' := 614) at_612 rfl rfl rfl ?_
    refine g_iconst cx o (pc' := 615) (4 : Int32) at_614 rfl rfl ?_
    refine g_daload cx o (pc' := 616)  1 4 rfl (by decide) ge4 at_615 rfl ?_
    refine g_aload cx o (pc' := 618) at_616 rfl rfl rfl ?_
    refine g_iconst cx o (pc' := 619) (4 : Int32) at_618 rfl rfl ?_
    refine g_daload cx o (pc' := 620)  2 4 rfl (by decide) rfl at_619 rfl ?_
    refine g_dcmp cx o (pc' := 621) at_620 rfl ?_
    refine g_if_ne cx o (pc' := 724) (pc2 := 624) at_621 (by decide) (by decide) rfl (fun c621 => absurd (dcmpV_self ne4 _) c621) (fun c621 => ?_)
    refine g_aload cx o (pc' := 626) at_624 rfl rfl rfl ?_
    refine g_iconst cx o (pc' := 627) (5 : Int32) at_626 rfl rfl ?_
    refine g_daload cx o (pc' := 628)  1 5 rfl (by decide) ge5 at_627 rfl ?_
    refine g_aload cx o (pc' := 630) at_628 rfl rfl rfl ?_
    refine g_iconst cx o (pc' := 631) (5 : Int32) at_630 rfl rfl ?_
    refine g_daload cx o (pc' := 632)  2 5 rfl (by decide) rfl at_631 rfl ?_
    refine g_dcmp cx o (pc' := 633) at_632 rfl ?_
    refine g_if_ne cx o (pc' := 724) (pc2 := 636) at_633 (by decide) (by decide) rfl (fun c633 => absurd (dcmpV_self ne5 _) c633) (fun c633 => ?_)
    refine g_aload cx o (pc' := 638) at_636 rfl rfl rfl ?_
    refine g_bipush cx o (pc' := 640) (6 : Int32) at_638 rfl (by decide) ?_
    refine g_daload cx o (pc' := 641)  1 6 rfl (by decide) ge6 at_640 rfl ?_
    refine g_aload cx o (pc' := 643) at_641 rfl rfl rfl ?_
    refine g_bipush cx o (pc' := 645) (6 : Int32) at_643 rfl (by decide) ?_
    refine g_daload cx o (pc' := 646)  2 6 rfl (by decide) rfl at_645 rfl ?_
    refine g_dcmp cx o (pc' := 647) at_646 rfl ?_
    refine g_if_ne cx o (pc' := 724) (pc2 := 650) at_647 (by decide) (by decide) rfl (fun c647 => absurd (dcmpV_self ne6 _) c647) (fun c647 => ?_)
    refine g_aload cx o (pc' := 652) at_650 rfl rfl rfl ?_
    refine g_bipush cx o (pc' := 654) (7 : Int32) at_652 rfl (by decide) ?_
    refine g_daload cx o (pc' := 655)  1 7 rfl (by decide) ge7 at_654 rfl ?_
    refine g_aload cx o (pc' := 657) at_655 rfl rfl rfl ?_
    refine g_bipush cx o (pc' := 659) (7 : Int32) at_657 rfl (by decide) ?_
    refine g_daload cx o (pc' := 660)  2 7 rfl (by decide) rfl at_659 rfl ?_
    refine g_dcmp cx o (pc' := 661) at_660 rfl ?_
    refine g_if_ne cx o (pc' := 724) (pc2 := 664) at_661 (by decide) (by decide) rfl (fun c661 => absurd (dcmpV_self ne7 _) c661) (fun c661 => ?_)
    refine g_aload cx o (pc' := 666) at_664 rfl rfl rfl ?_
    refine g_bipush cx o (pc' := 668) (8 : Int32) at_666 rfl (by decide) ?_
    refine g_daload cx o (pc' := 669)  1 8 rfl (by decide) ge8 at_668 rfl ?_
    refine g_aload cx o (pc' := 671) at_669 rfl rfl rfl ?_
    refine g_bipush cx o (pc' := 673) (8 : Int32) at_671 rfl (by decide) ?_
    refine g_daload cx o (pc' := 674)  2 8 rfl (by decide) rfl at_673 rfl ?_
    refine g_dcmp cx o (pc' := 675) at_674 rfl ?_
    refine g_if_ne cx o (pc' := 724) (pc2 := 678) at_675 (by decide) (by decide) rfl (fun c675 => absurd (dcmpV_self ne8 _) c675) (fun c675 => ?_)
    refine g_aload cx o (pc' := 680) at_678 rfl rfl rfl ?_
    refine g_bipush cx o (pc' := 682) (9 : Int32) at_680 rfl (by decide) ?_
    refine g_daload cx o (pc' := 683)  1 9 rfl (by decide) ge9 at_682 rfl ?_
    refine g_aload cx o (pc' := 685) at_683 rfl rfl rfl ?_
    refine g_bipush cx o (pc' := 687) (9 : Int32) at_685 rfl (by decide) ?_
    refine g_daload cx o (pc' := 688)  2 9 rfl (by decide) rfl at_687 rfl ?_
    refine g_dcmp cx o (pc' := 689) at_688 rfl ?_
    refine g_if_ne cx o (pc' := 724) (pc2 := 692) at_689 (by decide) (by decide) rfl (fun c689 => absurd (dcmpV_self ne9 _) c689) (fun c689 => ?_)
    refine g_aload cx o (pc' := 694) at_692 rfl rfl rfl ?_
    refine g_bipush cx o (pc' := 696) (10 : Int32) at_694 rfl (by decide) ?_
    refine g_daload cx o (pc' := 697)  1 10 rfl (by decide) ge10 at_696 rfl ?_
    refine g_aload cx o (pc' := 699) at_697 rfl rfl rfl ?_
    refine g_bipush cx o (pc' := 701) (10 : Int32) at_699 rfl (by decide) ?_
    refine g_daload cx o (pc' := 702)  2 10 rfl (by decide) rfl at_701 rfl ?_
    refine g_dcmp cx o (pc' := 703) at_702 rfl ?_
    refine g_if_ne cx o (pc' := 724) (pc2 := 706) at_703 (by decide) (by decide) rfl (fun c703 => absurd (dcmpV_self ne10 _) c703) (fun c703 => ?_)
    refine g_aload cx o (pc' := 708) at_706 rfl rfl rfl ?_
    refine g_bipush cx o (pc' := 710) (11 : Int32) at_708 rfl (by decide) ?_
    refine g_daload cx o (pc' := 711)  1 11 rfl (by decide) ge11 at_710 rfl ?_
    refine g_aload cx o (pc' := 713) at_711 rfl rfl rfl ?_
    refine g_bipush cx o (pc' := 715) (11 : Int32) at_713 rfl (by decide) ?_
    refine g_daload cx o (pc' := 716)  2 11 rfl (by decide) rfl at_715 rfl ?_
    refine g_dcmp cx o (pc' := 717) at_716 rfl ?_
    refine g_if_ne cx o (pc' := 724) (pc2 := 720) at_717 (by decide) (by decide) rfl (fun c717 => absurd (dcmpV_self ne11 _) c717) (fun c717 => ?_)
    refine g_iconst cx o (pc' := 721) (1 : Int32) at_720 rfl rfl ?_
    refine g_goto cx o (pc' := 725) at_721 (by decide) (by decide) ?_
    refine g_istore cx o (pc' := 727) (l' := #[.val (.int p0), .val (.int p1), .val (.int p2), .val (.int p3), .val (.int p4), .val (.int p5), .val (.int (1 : Int32)), .val (.int (Int32.ofNat O)), .val (.int (Int32.ofNat M)), .val (.ref lr), .val (.ref br), .val (.double d0), .second, .val (.double d1), .second, .val (.double d2), .second, .val (.double a10), .second, .val (.double a20), .second, .val (.double a21), .second, .val (.double x0), .second, .val (.double x1), .second, .val (.double x2), .second, .val (.ref lc), .val (.int (1 : Int32))]) at_725 rfl rfl ?_
    refine g_iload cx o (pc' := 729) at_727 rfl rfl ?_
    refine g_if_eq cx o (pc' := 884) (pc2 := 732) at_729 (by decide) (by decide) rfl (fun c729 => absurd c729 (by decide)) (fun c729 => ?_)
    refine g_aload cx o (pc' := 734) at_732 rfl rfl rfl ?_
    refine g_iconst cx o (pc' := 735) (0 : Int32) at_734 rfl rfl ?_
    refine g_iload cx o (pc' := 737) at_735 rfl rfl ?_
    refine g_iload cx o (pc' := 739) at_737 rfl rfl ?_
    refine g_dload cx o (pc' := 741) at_739 rfl rfl ?_
    refine g_dload cx o (pc' := 743) at_741 rfl rfl ?_
    refine g_dload cx o (pc' := 745) at_743 rfl rfl ?_
    refine g_iload cx o (pc' := 747) at_745 rfl rfl ?_
    obtain ⟨bv0, g0, h0⟩ := cf 0 (by decide)
    refine g_static cx o (pc' := 750) (y := (⟨"com/example/cachesmith/cachesmith/solver/CholeskyForwardPinLaw", "okB", "([DIIIDDDI)Z"⟩ : MethodName)) (hw _ (List.mem_of_getElem? (i := 18) rfl)) (hw _ (List.mem_of_getElem? (i := 19) rfl)) (hw _ (List.mem_of_getElem? (i := 3) rfl)) (hw _ (List.mem_of_getElem? (i := 20) rfl)) (rmOk l Z a0 hw br _ 0 M 1 (by decide) hM (by decide) x0 x1 x2 p5 bv0 _ 0 rfl g0 h0)  rfl pd_6 rfl (by decide) rfl 0 (Nat.le_of_eq rfl) (by decide) (by decide) (by decide) (by decide) at_747 rfl (fun T v L hQ o => ?_)
    obtain ⟨rfl, rfl⟩ := hQ
    simp only [Option.toList_some, Option.toList_none, List.cons_append, List.nil_append]
    refine g_if_eq cx o (pc' := 884) (pc2 := 753) at_750 (by decide) (by decide) rfl (fun c750 => absurd c750 (by decide)) (fun c750 => ?_)
    refine g_aload cx o (pc' := 755) at_753 rfl rfl rfl ?_
    refine g_iconst cx o (pc' := 756) (1 : Int32) at_755 rfl rfl ?_
    refine g_iload cx o (pc' := 758) at_756 rfl rfl ?_
    refine g_iload cx o (pc' := 760) at_758 rfl rfl ?_
    refine g_dload cx o (pc' := 762) at_760 rfl rfl ?_
    refine g_dload cx o (pc' := 764) at_762 rfl rfl ?_
    refine g_dload cx o (pc' := 766) at_764 rfl rfl ?_
    refine g_iload cx o (pc' := 768) at_766 rfl rfl ?_
    obtain ⟨bv1, g1, h1⟩ := cf 1 (by decide)
    refine g_static cx o (pc' := 771) (y := (⟨"com/example/cachesmith/cachesmith/solver/CholeskyForwardPinLaw", "okB", "([DIIIDDDI)Z"⟩ : MethodName)) (hw _ (List.mem_of_getElem? (i := 18) rfl)) (hw _ (List.mem_of_getElem? (i := 19) rfl)) (hw _ (List.mem_of_getElem? (i := 3) rfl)) (hw _ (List.mem_of_getElem? (i := 20) rfl)) (rmOk l Z a0 hw br _ 1 M 1 (by decide) hM (by decide) x0 x1 x2 p5 bv1 _ 0 rfl g1 h1)  rfl pd_6 rfl (by decide) rfl 0 (Nat.le_of_eq rfl) (by decide) (by decide) (by decide) (by decide) at_768 rfl (fun T v L hQ o => ?_)
    obtain ⟨rfl, rfl⟩ := hQ
    simp only [Option.toList_some, Option.toList_none, List.cons_append, List.nil_append]
    refine g_if_eq cx o (pc' := 884) (pc2 := 774) at_771 (by decide) (by decide) rfl (fun c771 => absurd c771 (by decide)) (fun c771 => ?_)
    refine g_aload cx o (pc' := 776) at_774 rfl rfl rfl ?_
    refine g_iconst cx o (pc' := 777) (2 : Int32) at_776 rfl rfl ?_
    refine g_iload cx o (pc' := 779) at_777 rfl rfl ?_
    refine g_iload cx o (pc' := 781) at_779 rfl rfl ?_
    refine g_dload cx o (pc' := 783) at_781 rfl rfl ?_
    refine g_dload cx o (pc' := 785) at_783 rfl rfl ?_
    refine g_dload cx o (pc' := 787) at_785 rfl rfl ?_
    refine g_iload cx o (pc' := 789) at_787 rfl rfl ?_
    obtain ⟨bv2, g2, h2⟩ := cf 2 (by decide)
    refine g_static cx o (pc' := 792) (y := (⟨"com/example/cachesmith/cachesmith/solver/CholeskyForwardPinLaw", "okB", "([DIIIDDDI)Z"⟩ : MethodName)) (hw _ (List.mem_of_getElem? (i := 18) rfl)) (hw _ (List.mem_of_getElem? (i := 19) rfl)) (hw _ (List.mem_of_getElem? (i := 3) rfl)) (hw _ (List.mem_of_getElem? (i := 20) rfl)) (rmOk l Z a0 hw br _ 2 M 1 (by decide) hM (by decide) x0 x1 x2 p5 bv2 _ 0 rfl g2 h2)  rfl pd_6 rfl (by decide) rfl 0 (Nat.le_of_eq rfl) (by decide) (by decide) (by decide) (by decide) at_789 rfl (fun T v L hQ o => ?_)
    obtain ⟨rfl, rfl⟩ := hQ
    simp only [Option.toList_some, Option.toList_none, List.cons_append, List.nil_append]
    refine g_if_eq cx o (pc' := 884) (pc2 := 795) at_792 (by decide) (by decide) rfl (fun c792 => absurd c792 (by decide)) (fun c792 => ?_)
    refine g_aload cx o (pc' := 797) at_795 rfl rfl rfl ?_
    refine g_iconst cx o (pc' := 798) (3 : Int32) at_797 rfl rfl ?_
    refine g_iload cx o (pc' := 800) at_798 rfl rfl ?_
    refine g_iload cx o (pc' := 802) at_800 rfl rfl ?_
    refine g_dload cx o (pc' := 804) at_802 rfl rfl ?_
    refine g_dload cx o (pc' := 806) at_804 rfl rfl ?_
    refine g_dload cx o (pc' := 808) at_806 rfl rfl ?_
    refine g_iload cx o (pc' := 810) at_808 rfl rfl ?_
    obtain ⟨bv3, g3, h3⟩ := cf 3 (by decide)
    refine g_static cx o (pc' := 813) (y := (⟨"com/example/cachesmith/cachesmith/solver/CholeskyForwardPinLaw", "okB", "([DIIIDDDI)Z"⟩ : MethodName)) (hw _ (List.mem_of_getElem? (i := 18) rfl)) (hw _ (List.mem_of_getElem? (i := 19) rfl)) (hw _ (List.mem_of_getElem? (i := 3) rfl)) (hw _ (List.mem_of_getElem? (i := 20) rfl)) (rmOk l Z a0 hw br _ 3 M 1 (by decide) hM (by decide) x0 x1 x2 p5 bv3 _ 0 rfl g3 h3)  rfl pd_6 rfl (by decide) rfl 0 (Nat.le_of_eq rfl) (by decide) (by decide) (by decide) (by decide) at_810 rfl (fun T v L hQ o => ?_)
    obtain ⟨rfl, rfl⟩ := hQ
    simp only [Option.toList_some, Option.toList_none, List.cons_append, List.nil_append]
    refine g_if_eq cx o (pc' := 884) (pc2 := 816) at_813 (by decide) (by decide) rfl (fun c813 => absurd c813 (by decide)) (fun c813 => ?_)
    refine g_aload cx o (pc' := 818) at_816 rfl rfl rfl ?_
    refine g_iconst cx o (pc' := 819) (4 : Int32) at_818 rfl rfl ?_
    refine g_iload cx o (pc' := 821) at_819 rfl rfl ?_
    refine g_iload cx o (pc' := 823) at_821 rfl rfl ?_
    refine g_dload cx o (pc' := 825) at_823 rfl rfl ?_
    refine g_dload cx o (pc' := 827) at_825 rfl rfl ?_
    refine g_dload cx o (pc' := 829) at_827 rfl rfl ?_
    refine g_iload cx o (pc' := 831) at_829 rfl rfl ?_
    obtain ⟨bv4, g4, h4⟩ := cf 4 (by decide)
    refine g_static cx o (pc' := 834) (y := (⟨"com/example/cachesmith/cachesmith/solver/CholeskyForwardPinLaw", "okB", "([DIIIDDDI)Z"⟩ : MethodName)) (hw _ (List.mem_of_getElem? (i := 18) rfl)) (hw _ (List.mem_of_getElem? (i := 19) rfl)) (hw _ (List.mem_of_getElem? (i := 3) rfl)) (hw _ (List.mem_of_getElem? (i := 20) rfl)) (rmOk l Z a0 hw br _ 4 M 1 (by decide) hM (by decide) x0 x1 x2 p5 bv4 _ 0 rfl g4 h4)  rfl pd_6 rfl (by decide) rfl 0 (Nat.le_of_eq rfl) (by decide) (by decide) (by decide) (by decide) at_831 rfl (fun T v L hQ o => ?_)
    obtain ⟨rfl, rfl⟩ := hQ
    simp only [Option.toList_some, Option.toList_none, List.cons_append, List.nil_append]
    refine g_if_eq cx o (pc' := 884) (pc2 := 837) at_834 (by decide) (by decide) rfl (fun c834 => absurd c834 (by decide)) (fun c834 => ?_)
    refine g_aload cx o (pc' := 839) at_837 rfl rfl rfl ?_
    refine g_iconst cx o (pc' := 840) (5 : Int32) at_839 rfl rfl ?_
    refine g_iload cx o (pc' := 842) at_840 rfl rfl ?_
    refine g_iload cx o (pc' := 844) at_842 rfl rfl ?_
    refine g_dload cx o (pc' := 846) at_844 rfl rfl ?_
    refine g_dload cx o (pc' := 848) at_846 rfl rfl ?_
    refine g_dload cx o (pc' := 850) at_848 rfl rfl ?_
    refine g_iload cx o (pc' := 852) at_850 rfl rfl ?_
    obtain ⟨bv5, g5, h5⟩ := cf 5 (by decide)
    refine g_static cx o (pc' := 855) (y := (⟨"com/example/cachesmith/cachesmith/solver/CholeskyForwardPinLaw", "okB", "([DIIIDDDI)Z"⟩ : MethodName)) (hw _ (List.mem_of_getElem? (i := 18) rfl)) (hw _ (List.mem_of_getElem? (i := 19) rfl)) (hw _ (List.mem_of_getElem? (i := 3) rfl)) (hw _ (List.mem_of_getElem? (i := 20) rfl)) (rmOk l Z a0 hw br _ 5 M 1 (by decide) hM (by decide) x0 x1 x2 p5 bv5 _ 0 rfl g5 h5)  rfl pd_6 rfl (by decide) rfl 0 (Nat.le_of_eq rfl) (by decide) (by decide) (by decide) (by decide) at_852 rfl (fun T v L hQ o => ?_)
    obtain ⟨rfl, rfl⟩ := hQ
    simp only [Option.toList_some, Option.toList_none, List.cons_append, List.nil_append]
    refine g_if_eq cx o (pc' := 884) (pc2 := 858) at_855 (by decide) (by decide) rfl (fun c855 => absurd c855 (by decide)) (fun c855 => ?_)
    refine g_aload cx o (pc' := 860) at_858 rfl rfl rfl ?_
    refine g_bipush cx o (pc' := 862) (6 : Int32) at_860 rfl (by decide) ?_
    refine g_iload cx o (pc' := 864) at_862 rfl rfl ?_
    refine g_iload cx o (pc' := 866) at_864 rfl rfl ?_
    refine g_dload cx o (pc' := 868) at_866 rfl rfl ?_
    refine g_dload cx o (pc' := 870) at_868 rfl rfl ?_
    refine g_dload cx o (pc' := 872) at_870 rfl rfl ?_
    refine g_iload cx o (pc' := 874) at_872 rfl rfl ?_
    obtain ⟨bv6, g6, h6⟩ := cf 6 (by decide)
    refine g_static cx o (pc' := 877) (y := (⟨"com/example/cachesmith/cachesmith/solver/CholeskyForwardPinLaw", "okB", "([DIIIDDDI)Z"⟩ : MethodName)) (hw _ (List.mem_of_getElem? (i := 18) rfl)) (hw _ (List.mem_of_getElem? (i := 19) rfl)) (hw _ (List.mem_of_getElem? (i := 3) rfl)) (hw _ (List.mem_of_getElem? (i := 20) rfl)) (rmOk l Z a0 hw br _ 6 M 1 (by decide) hM (by decide) x0 x1 x2 p5 bv6 _ 0 rfl g6 h6)  rfl pd_6 rfl (by decide) rfl 0 (Nat.le_of_eq rfl) (by decide) (by decide) (by decide) (by decide) at_874 rfl (fun T v L hQ o => ?_)
    obtain ⟨rfl, rfl⟩ := hQ
    simp only [Option.toList_some, Option.toList_none, List.cons_append, List.nil_append]
    refine g_if_eq cx o (pc' := 884) (pc2 := 880) at_877 (by decide) (by decide) rfl (fun c877 => absurd c877 (by decide)) (fun c877 => ?_)
    refine g_iconst cx o (pc' := 881) (1 : Int32) at_880 rfl rfl ?_
    refine g_goto cx o (pc' := 885) at_881 (by decide) (by decide) ?_
    exact g_ireturnZ cx o at_885 (by decide) (by decide) (by decide) rfl
  · refine g_iload cx o (pc' := 300) at_298 rfl rfl ?_
    refine g_iconst cx o (pc' := 301) (1 : Int32) at_300 rfl rfl ?_
    refine g_icmp_lt cx o (pc' := 321) (pc2 := 304) at_301 (by decide) (by decide) rfl (fun c301 => absurd c301 (by decide)) (fun c301 => ?_)
    refine g_aload cx o (pc' := 306) at_304 rfl rfl rfl ?_
    refine g_iload cx o (pc' := 308) at_306 rfl rfl ?_
    refine g_dload cx o (pc' := 310) at_308 rfl rfl ?_
    refine g_dastore cx o (pc' := 311) 1 O rfl rfl (by simp only [List.length_set, List.length_cons, List.length_nil]; omega) at_310 rfl (fun T o => ?_)
    simp only [List.set_cons_zero, List.set_cons_succ] at o
    refine g_aload cx o (pc' := 313) at_311 rfl rfl rfl ?_
    refine g_iload cx o (pc' := 315) at_313 rfl rfl ?_
    refine g_dload cx o (pc' := 317) at_315 rfl rfl ?_
    refine g_dload cx o (pc' := 319) at_317 rfl rfl ?_
    refine g_dmul cx o (pc' := 320) at_319 rfl P00.nn ?_
    refine g_dastore cx o (pc' := 321) 0 M rfl rfl (by simp only [List.length_set, List.length_cons, List.length_nil]; omega) at_320 rfl (fun T o => ?_)
    simp only [List.set_cons_zero, List.set_cons_succ] at o
    refine g_iload cx o (pc' := 323) at_321 rfl rfl ?_
    refine g_iconst cx o (pc' := 324) (2 : Int32) at_323 rfl rfl ?_
    refine g_icmp_lt cx o (pc' := 367) (pc2 := 327) at_324 (by decide) (by decide) rfl (fun c324 => absurd c324 (by decide)) (fun c324 => ?_)
    refine g_aload cx o (pc' := 329) at_327 rfl rfl rfl ?_
    refine g_iload cx o (pc' := 331) at_329 rfl rfl ?_
    refine g_iload cx o (pc' := 333) at_331 rfl rfl ?_
    refine g_iadd cx o (pc' := 334) at_333 rfl ?_
    refine g_dload cx o (pc' := 336) at_334 rfl rfl ?_
    refine g_dastore cx o (pc' := 337) 1 (O + 2) rfl (o_of1 O 2) (by simp only [List.length_set, List.length_cons, List.length_nil]; omega) at_336 rfl (fun T o => ?_)
    simp only [List.set_cons_zero, List.set_cons_succ] at o
    refine g_aload cx o (pc' := 339) at_337 rfl rfl rfl ?_
    refine g_iload cx o (pc' := 341) at_339 rfl rfl ?_
    refine g_iload cx o (pc' := 343) at_341 rfl rfl ?_
    refine g_iadd cx o (pc' := 344) at_343 rfl ?_
    refine g_iconst cx o (pc' := 345) (1 : Int32) at_344 rfl rfl ?_
    refine g_iadd cx o (pc' := 346) at_345 rfl ?_
    refine g_dload cx o (pc' := 348) at_346 rfl rfl ?_
    refine g_dastore cx o (pc' := 349) 1 (O + 2 + 1) rfl (o_of2 O 2 1) (by simp only [List.length_set, List.length_cons, List.length_nil]; omega) at_348 rfl (fun T o => ?_)
    simp only [List.set_cons_zero, List.set_cons_succ] at o
    refine g_aload cx o (pc' := 351) at_349 rfl rfl rfl ?_
    refine g_iload cx o (pc' := 353) at_351 rfl rfl ?_
    refine g_iconst cx o (pc' := 354) (1 : Int32) at_353 rfl rfl ?_
    refine g_iadd cx o (pc' := 355) at_354 rfl ?_
    refine g_dload cx o (pc' := 357) at_355 rfl rfl ?_
    refine g_dload cx o (pc' := 359) at_357 rfl rfl ?_
    refine g_dmul cx o (pc' := 360) at_359 rfl P10.nn ?_
    refine g_dload cx o (pc' := 362) at_360 rfl rfl ?_
    refine g_dload cx o (pc' := 364) at_362 rfl rfl ?_
    refine g_dmul cx o (pc' := 365) at_364 rfl P11.nn ?_
    refine g_dadd cx o (pc' := 366) at_365 rfl S1.nn ?_
    refine g_dastore cx o (pc' := 367) 0 (M + 1) rfl (o_of1 M 1) (by simp only [List.length_set, List.length_cons, List.length_nil]; omega) at_366 rfl (fun T o => ?_)
    simp only [List.set_cons_zero, List.set_cons_succ] at o
    refine g_iload cx o (pc' := 369) at_367 rfl rfl ?_
    refine g_iconst cx o (pc' := 370) (3 : Int32) at_369 rfl rfl ?_
    refine g_icmp_lt cx o (pc' := 437) (pc2 := 373) at_370 (by decide) (by decide) rfl (fun c370 => ?_) (fun c370 => absurd (by decide) c370)
    have la : oAll 12 ((([.double ga0, .double ga1, .double ga2, .double ga3, .double ga4, .double ga5, .double ga6, .double ga7, .double ga8, .double ga9, .double ga10, .double ga11].set O (.double d0)).set (O + 2) (.double a10)).set (O + 2 + 1) (.double d1)) := (((la0.set _ R_d0.nn).set _ R_a10.nn).set _ R_d1.nn)
    have L00 : (((([.double ga0, .double ga1, .double ga2, .double ga3, .double ga4, .double ga5, .double ga6, .double ga7, .double ga8, .double ga9, .double ga10, .double ga11].set O (.double d0)).set (O + 2) (.double a10)).set (O + 2 + 1) (.double d1)) : List Value)[O + 0]? = some (.double d0) := (o_setne (o_setne (o_setat (by omega) (by simp only [List.length_set, List.length_cons, List.length_nil]; omega)) (by omega)) (by omega))
    have L10 : (((([.double ga0, .double ga1, .double ga2, .double ga3, .double ga4, .double ga5, .double ga6, .double ga7, .double ga8, .double ga9, .double ga10, .double ga11].set O (.double d0)).set (O + 2) (.double a10)).set (O + 2 + 1) (.double d1)) : List Value)[O + 2]? = some (.double a10) := (o_setne (o_setat (by omega) (by simp only [List.length_set, List.length_cons, List.length_nil]; omega)) (by omega))
    have L11 : (((([.double ga0, .double ga1, .double ga2, .double ga3, .double ga4, .double ga5, .double ga6, .double ga7, .double ga8, .double ga9, .double ga10, .double ga11].set O (.double d0)).set (O + 2) (.double a10)).set (O + 2 + 1) (.double d1)) : List Value)[O + 3]? = some (.double d1) := (o_setat (by omega) (by simp only [List.length_set, List.length_cons, List.length_nil]; omega))
    have B0 : ((([.double gb0, .double gb1, .double gb2, .double gb3, .double gb4, .double gb5, .double gb6].set M (.double (FP.dmul d0 x0))).set (M + 1) (.double (FP.dadd (FP.dmul a10 x0) (FP.dmul d1 x1)))) : List Value)[M + 0]? = some (.double (FP.dmul d0 x0)) := (o_setne (o_setat (by omega) (by simp only [List.length_set, List.length_cons, List.length_nil]; omega)) (by omega))
    have B1 : ((([.double gb0, .double gb1, .double gb2, .double gb3, .double gb4, .double gb5, .double gb6].set M (.double (FP.dmul d0 x0))).set (M + 1) (.double (FP.dadd (FP.dmul a10 x0) (FP.dmul d1 x1)))) : List Value)[M + 1]? = some (.double (FP.dadd (FP.dmul a10 x0) (FP.dmul d1 x1))) := (o_setat (by omega) (by simp only [List.length_set, List.length_cons, List.length_nil]; omega))
    have bo : ∀ i, i < 7 → i ≠ M + 0 → i ≠ M + 1 → ∃ d, ((([.double gb0, .double gb1, .double gb2, .double gb3, .double gb4, .double gb5, .double gb6].set M (.double (FP.dmul d0 x0))).set (M + 1) (.double (FP.dadd (FP.dmul a10 x0) (FP.dmul d1 x1)))) : List Value)[i]? = some (.double d) ∧ NoNaN64 d ∧ d = (FP.i2d ((XT.ushr p5 (Int32.ofNat i) &&& (15 : Int32)) - (7 : Int32))) := by
      intro i hi q0 q1
      rw [List.getElem?_set_ne (show M + 1 ≠ i from Ne.symm q1), List.getElem?_set_ne (show M ≠ i from Ne.symm q0)]
      exact bo0 i hi
    have bl : ((([.double gb0, .double gb1, .double gb2, .double gb3, .double gb4, .double gb5, .double gb6].set M (.double (FP.dmul d0 x0))).set (M + 1) (.double (FP.dadd (FP.dmul a10 x0) (FP.dmul d1 x1)))) : List Value).length = 7 := by simp only [List.length_set, List.length_cons, List.length_nil]
    generalize hlv : (((([.double ga0, .double ga1, .double ga2, .double ga3, .double ga4, .double ga5, .double ga6, .double ga7, .double ga8, .double ga9, .double ga10, .double ga11].set O (.double d0)).set (O + 2) (.double a10)).set (O + 2 + 1) (.double d1)) : List Value) = lv at o la L00 L10 L11
    generalize hbv : ((([.double gb0, .double gb1, .double gb2, .double gb3, .double gb4, .double gb5, .double gb6].set M (.double (FP.dmul d0 x0))).set (M + 1) (.double (FP.dadd (FP.dmul a10 x0) (FP.dmul d1 x1)))) : List Value) = bs at o bl bo B0 B1
    obtain ⟨e0, ge0, ne0⟩ := la 0 (by decide)
    obtain ⟨e1, ge1, ne1⟩ := la 1 (by decide)
    obtain ⟨e2, ge2, ne2⟩ := la 2 (by decide)
    obtain ⟨e3, ge3, ne3⟩ := la 3 (by decide)
    obtain ⟨e4, ge4, ne4⟩ := la 4 (by decide)
    obtain ⟨e5, ge5, ne5⟩ := la 5 (by decide)
    obtain ⟨e6, ge6, ne6⟩ := la 6 (by decide)
    obtain ⟨e7, ge7, ne7⟩ := la 7 (by decide)
    obtain ⟨e8, ge8, ne8⟩ := la 8 (by decide)
    obtain ⟨e9, ge9, ne9⟩ := la 9 (by decide)
    obtain ⟨e10, ge10, ne10⟩ := la 10 (by decide)
    obtain ⟨e11, ge11, ne11⟩ := la 11 (by decide)
    refine g_bipush cx o (pc' := 439) (12 : Int32) at_437 rfl (by decide) ?_
    refine g_newarray cx o (pc' := 441) (vs := [.double (0 : UInt64), .double (0 : UInt64), .double (0 : UInt64), .double (0 : UInt64), .double (0 : UInt64), .double (0 : UInt64), .double (0 : UInt64), .double (0 : UInt64), .double (0 : UInt64), .double (0 : UInt64), .double (0 : UInt64), .double (0 : UInt64)]) (hw _ (List.mem_of_getElem? (i := 0) rfl)) rfl 12 12 rfl rfl (by decide) (by decide) (by decide) (by decide) at_439 rfl (fun T lc o => ?_)
    refine g_astore cx o (pc' := 443) (l' := #[.val (.int p0), .val (.int p1), .val (.int p2), .val (.int p3), .val (.int p4), .val (.int p5), .val (.int (2 : Int32)), .val (.int (Int32.ofNat O)), .val (.int (Int32.ofNat M)), .val (.ref lr), .val (.ref br), .val (.double d0), .second, .val (.double d1), .second, .val (.double d2), .second, .val (.double a10), .second, .val (.double a20), .second, .val (.double a21), .second, .val (.double x0), .second, .val (.double x1), .second, .val (.double x2), .second, .val (.ref lc), .unset]) at_441 rfl rfl rfl ?_
    refine g_aload cx o (pc' := 445) at_443 rfl rfl rfl ?_
    refine g_iconst cx o (pc' := 446) (0 : Int32) at_445 rfl rfl ?_
    refine g_aload cx o (pc' := 448) at_446 rfl rfl rfl ?_
    refine g_iconst cx o (pc' := 449) (0 : Int32) at_448 rfl rfl ?_
    refine g_daload cx o (pc' := 450)  2 0 rfl (by decide) ge0 at_449 rfl ?_
    refine g_dastore cx o (pc' := 451) 0 0 rfl (by decide) (Nat.le_of_ble_eq_true rfl) at_450 rfl (fun T o => ?_)
    simp only [List.set_cons_zero, List.set_cons_succ] at o
    refine g_aload cx o (pc' := 453) at_451 rfl rfl rfl ?_
    refine g_iconst cx o (pc' := 454) (1 : Int32) at_453 rfl rfl ?_
    refine g_aload cx o (pc' := 456) at_454 rfl rfl rfl ?_
    refine g_iconst cx o (pc' := 457) (1 : Int32) at_456 rfl rfl ?_
    refine g_daload cx o (pc' := 458)  2 1 rfl (by decide) ge1 at_457 rfl ?_
    refine g_dastore cx o (pc' := 459) 0 1 rfl (by decide) (Nat.le_of_ble_eq_true rfl) at_458 rfl (fun T o => ?_)
    simp only [List.set_cons_zero, List.set_cons_succ] at o
    refine g_aload cx o (pc' := 461) at_459 rfl rfl rfl ?_
    refine g_iconst cx o (pc' := 462) (2 : Int32) at_461 rfl rfl ?_
    refine g_aload cx o (pc' := 464) at_462 rfl rfl rfl ?_
    refine g_iconst cx o (pc' := 465) (2 : Int32) at_464 rfl rfl ?_
    refine g_daload cx o (pc' := 466)  2 2 rfl (by decide) ge2 at_465 rfl ?_
    refine g_dastore cx o (pc' := 467) 0 2 rfl (by decide) (Nat.le_of_ble_eq_true rfl) at_466 rfl (fun T o => ?_)
    simp only [List.set_cons_zero, List.set_cons_succ] at o
    refine g_aload cx o (pc' := 469) at_467 rfl rfl rfl ?_
    refine g_iconst cx o (pc' := 470) (3 : Int32) at_469 rfl rfl ?_
    refine g_aload cx o (pc' := 472) at_470 rfl rfl rfl ?_
    refine g_iconst cx o (pc' := 473) (3 : Int32) at_472 rfl rfl ?_
    refine g_daload cx o (pc' := 474)  2 3 rfl (by decide) ge3 at_473 rfl ?_
    refine g_dastore cx o (pc' := 475) 0 3 rfl (by decide) (Nat.le_of_ble_eq_true rfl) at_474 rfl (fun T o => ?_)
    simp only [List.set_cons_zero, List.set_cons_succ] at o
    refine g_aload cx o (pc' := 477) at_475 rfl rfl rfl ?_
    refine g_iconst cx o (pc' := 478) (4 : Int32) at_477 rfl rfl ?_
    refine g_aload cx o (pc' := 480) at_478 rfl rfl rfl ?_
    refine g_iconst cx o (pc' := 481) (4 : Int32) at_480 rfl rfl ?_
    refine g_daload cx o (pc' := 482)  2 4 rfl (by decide) ge4 at_481 rfl ?_
    refine g_dastore cx o (pc' := 483) 0 4 rfl (by decide) (Nat.le_of_ble_eq_true rfl) at_482 rfl (fun T o => ?_)
    simp only [List.set_cons_zero, List.set_cons_succ] at o
    refine g_aload cx o (pc' := 485) at_483 rfl rfl rfl ?_
    refine g_iconst cx o (pc' := 486) (5 : Int32) at_485 rfl rfl ?_
    refine g_aload cx o (pc' := 488) at_486 rfl rfl rfl ?_
    refine g_iconst cx o (pc' := 489) (5 : Int32) at_488 rfl rfl ?_
    refine g_daload cx o (pc' := 490)  2 5 rfl (by decide) ge5 at_489 rfl ?_
    refine g_dastore cx o (pc' := 491) 0 5 rfl (by decide) (Nat.le_of_ble_eq_true rfl) at_490 rfl (fun T o => ?_)
    simp only [List.set_cons_zero, List.set_cons_succ] at o
    refine g_aload cx o (pc' := 493) at_491 rfl rfl rfl ?_
    refine g_bipush cx o (pc' := 495) (6 : Int32) at_493 rfl (by decide) ?_
    refine g_aload cx o (pc' := 497) at_495 rfl rfl rfl ?_
    refine g_bipush cx o (pc' := 499) (6 : Int32) at_497 rfl (by decide) ?_
    refine g_daload cx o (pc' := 500)  2 6 rfl (by decide) ge6 at_499 rfl ?_
    refine g_dastore cx o (pc' := 501) 0 6 rfl (by decide) (Nat.le_of_ble_eq_true rfl) at_500 rfl (fun T o => ?_)
    simp only [List.set_cons_zero, List.set_cons_succ] at o
    refine g_aload cx o (pc' := 503) at_501 rfl rfl rfl ?_
    refine g_bipush cx o (pc' := 505) (7 : Int32) at_503 rfl (by decide) ?_
    refine g_aload cx o (pc' := 507) at_505 rfl rfl rfl ?_
    refine g_bipush cx o (pc' := 509) (7 : Int32) at_507 rfl (by decide) ?_
    refine g_daload cx o (pc' := 510)  2 7 rfl (by decide) ge7 at_509 rfl ?_
    refine g_dastore cx o (pc' := 511) 0 7 rfl (by decide) (Nat.le_of_ble_eq_true rfl) at_510 rfl (fun T o => ?_)
    simp only [List.set_cons_zero, List.set_cons_succ] at o
    refine g_aload cx o (pc' := 513) at_511 rfl rfl rfl ?_
    refine g_bipush cx o (pc' := 515) (8 : Int32) at_513 rfl (by decide) ?_
    refine g_aload cx o (pc' := 517) at_515 rfl rfl rfl ?_
    refine g_bipush cx o (pc' := 519) (8 : Int32) at_517 rfl (by decide) ?_
    refine g_daload cx o (pc' := 520)  2 8 rfl (by decide) ge8 at_519 rfl ?_
    refine g_dastore cx o (pc' := 521) 0 8 rfl (by decide) (Nat.le_of_ble_eq_true rfl) at_520 rfl (fun T o => ?_)
    simp only [List.set_cons_zero, List.set_cons_succ] at o
    refine g_aload cx o (pc' := 523) at_521 rfl rfl rfl ?_
    refine g_bipush cx o (pc' := 525) (9 : Int32) at_523 rfl (by decide) ?_
    refine g_aload cx o (pc' := 527) at_525 rfl rfl rfl ?_
    refine g_bipush cx o (pc' := 529) (9 : Int32) at_527 rfl (by decide) ?_
    refine g_daload cx o (pc' := 530)  2 9 rfl (by decide) ge9 at_529 rfl ?_
    refine g_dastore cx o (pc' := 531) 0 9 rfl (by decide) (Nat.le_of_ble_eq_true rfl) at_530 rfl (fun T o => ?_)
    simp only [List.set_cons_zero, List.set_cons_succ] at o
    refine g_aload cx o (pc' := 533) at_531 rfl rfl rfl ?_
    refine g_bipush cx o (pc' := 535) (10 : Int32) at_533 rfl (by decide) ?_
    refine g_aload cx o (pc' := 537) at_535 rfl rfl rfl ?_
    refine g_bipush cx o (pc' := 539) (10 : Int32) at_537 rfl (by decide) ?_
    refine g_daload cx o (pc' := 540)  2 10 rfl (by decide) ge10 at_539 rfl ?_
    refine g_dastore cx o (pc' := 541) 0 10 rfl (by decide) (Nat.le_of_ble_eq_true rfl) at_540 rfl (fun T o => ?_)
    simp only [List.set_cons_zero, List.set_cons_succ] at o
    refine g_aload cx o (pc' := 543) at_541 rfl rfl rfl ?_
    refine g_bipush cx o (pc' := 545) (11 : Int32) at_543 rfl (by decide) ?_
    refine g_aload cx o (pc' := 547) at_545 rfl rfl rfl ?_
    refine g_bipush cx o (pc' := 549) (11 : Int32) at_547 rfl (by decide) ?_
    refine g_daload cx o (pc' := 550)  2 11 rfl (by decide) ge11 at_549 rfl ?_
    refine g_dastore cx o (pc' := 551) 0 11 rfl (by decide) (Nat.le_of_ble_eq_true rfl) at_550 rfl (fun T o => ?_)
    simp only [List.set_cons_zero, List.set_cons_succ] at o
    refine g_aload cx o (pc' := 553) at_551 rfl rfl rfl ?_
    refine g_iload cx o (pc' := 555) at_553 rfl rfl ?_
    refine g_iload cx o (pc' := 557) at_555 rfl rfl ?_
    refine g_aload cx o (pc' := 559) at_557 rfl rfl rfl ?_
    refine g_iload cx o (pc' := 561) at_559 rfl rfl ?_
    have o := (o.front 2 rfl)
    simp only [List.eraseIdx_cons_zero, List.eraseIdx_cons_succ] at o
    have o := (o.front 2 rfl)
    simp only [List.eraseIdx_cons_zero, List.eraseIdx_cons_succ] at o
    have W0 : oR zx0 0 (FP.ddiv (FP.dmul d0 x0) d0) := P00.div (j := 0) R_d0 (o_nz k_d0) (by simp only [Nat.pow_zero, Int.natCast_one, Int.mul_one]; exact Int.mul_comm _ _) (Nat.le_trans k_x0 (by decide)) (by decide) (by decide)
    have W1 : oR (za10 * zx0) 0 (FP.dmul a10 (FP.ddiv (FP.dmul d0 x0) d0)) := R_a10.mul W0 (Nat.le_trans qP10 (by decide)) (by decide)
    have W2 : oR ((za10 * zx0 + zd1 * zx1) - za10 * zx0) 0 (FP.dsub (FP.dadd (FP.dmul a10 x0) (FP.dmul d1 x1)) (FP.dmul a10 (FP.ddiv (FP.dmul d0 x0) d0))) := S1.sub W1 (Nat.le_trans (o_subn (o_addn qP10 qP11) qP10) (by decide)) (by decide)
    have W3 : oR zx1 0 (FP.ddiv (FP.dsub (FP.dadd (FP.dmul a10 x0) (FP.dmul d1 x1)) (FP.dmul a10 (FP.ddiv (FP.dmul d0 x0) d0))) d1) := W2.div (j := 0) R_d1 (o_nz k_d1) (by simp only [Nat.pow_zero, Int.natCast_one, Int.mul_one]; exact (o_e1 _ _).trans (Int.mul_comm _ _)) (Nat.le_trans k_x1 (by decide)) (by decide) (by decide)
    refine g_static cx o (pc' := 564) (y := (⟨"com/example/cachesmith/cachesmith/solver/Cholesky", "forward", "([DII[DI)V"⟩ : MethodName)) (hw _ (List.mem_of_getElem? (i := 14) rfl)) (hw _ (List.mem_of_getElem? (i := 15) rfl)) (hw _ (List.mem_of_getElem? (i := 16) rfl)) (hw _ (List.mem_of_getElem? (i := 17) rfl)) (fo2 l Z a0 hw lr br lv bs O M _ (by rw [bl]; omega) _ _ _ _ _ L00 L10 L11 B0 B1 W0.nn W1.nn W2.nn W3.nn)  rfl pd_5 rfl (by decide) rfl 0 (Nat.le_of_eq rfl) (by decide) (by decide) (by decide) (by decide) at_561 rfl (fun T v L hQ o => ?_)
    obtain ⟨rfl, rfl⟩ := hQ
    simp only [Option.toList_some, Option.toList_none, List.cons_append, List.nil_append]
    have cf : ∀ i, i < 7 → ∃ bv, (((bs.set (M + 0) (.double (FP.ddiv (FP.dmul d0 x0) d0))).set (M + 1) (.double (FP.ddiv (FP.dsub (FP.dadd (FP.dmul a10 x0) (FP.dmul d1 x1)) (FP.dmul a10 (FP.ddiv (FP.dmul d0 x0) d0))) d1))) : List Value)[i]? = some (.double bv) ∧ ((i = M ∧ 0 < 2 ∧ cmpValue (FP.dcmp bv x0) .l = 0) ∨ (i = M + 1 ∧ 1 < 2 ∧ cmpValue (FP.dcmp bv x1) .l = 0) ∨ (i = M + 2 ∧ 2 < 2 ∧ cmpValue (FP.dcmp bv x2) .l = 0) ∨ (¬ (M ≤ i ∧ i < M + 2) ∧ cmpValue (FP.dcmp bv (FP.i2d ((XT.ushr p5 (Int32.ofNat i) &&& (15 : Int32)) - (7 : Int32)))) .l = 0)) := by
      intro i hi
      by_cases q0 : i = M + 0
      · rw [q0]
        exact ⟨_, (o_setne (o_setat (by omega) (by simp only [List.length_set, bl]; omega)) (by omega)), Or.inl ⟨rfl, by decide, W0.eq0 R_x0 rfl⟩⟩
      by_cases q1 : i = M + 1
      · rw [q1]
        exact ⟨_, (o_setat (by omega) (by simp only [List.length_set, bl]; omega)), Or.inr (Or.inl ⟨rfl, by decide, W3.eq0 R_x1 rfl⟩)⟩
      obtain ⟨d, gd, nd, ed⟩ := bo i hi q0 q1
      exact ⟨d, (o_setne (o_setne gd (Ne.symm q0)) (Ne.symm q1)), Or.inr (Or.inr (Or.inr ⟨by omega, by rw [← ed]; exact dcmpV_self nd _⟩))⟩
    refine g_aload cx o (pc' := 566) at_564 rfl rfl rfl ?_
    refine g_iconst cx o (pc' := 567) (0 : Int32) at_566 rfl rfl ?_
    refine g_daload cx o (pc' := 568)  1 0 rfl (by decide) ge0 at_567 rfl ?_
    refine g_aload cx o (pc' := 570) at_568 rfl rfl rfl ?_
    refine g_iconst cx o (pc' := 571) (0 : Int32) at_570 rfl rfl ?_
    refine g_daload cx o (pc' := 572)  2 0 rfl (by decide) rfl at_571 rfl ?_
    refine g_dcmp cx o (pc' := 573) at_572 rfl ?_
    refine g_if_ne cx o (pc' := 724) (pc2 := 576) at_573 (by decide) (by decide) rfl (fun c573 => absurd (dcmpV_self ne0 _) c573) (fun c573 => ?_)
    refine g_aload cx o (pc' := 578) at_576 rfl rfl rfl ?_
    refine g_iconst cx o (pc' := 579) (1 : Int32) at_578 rfl rfl ?_
    refine g_daload cx o (pc' := 580)  1 1 rfl (by decide) ge1 at_579 rfl ?_
    refine g_aload cx o (pc' := 582) at_580 rfl rfl rfl ?_
    refine g_iconst cx o (pc' := 583) (1 : Int32) at_582 rfl rfl ?_
    refine g_daload cx o (pc' := 584)  2 1 rfl (by decide) rfl at_583 rfl ?_
    refine g_dcmp cx o (pc' := 585) at_584 rfl ?_
    refine g_if_ne cx o (pc' := 724) (pc2 := 588) at_585 (by decide) (by decide) rfl (fun c585 => absurd (dcmpV_self ne1 _) c585) (fun c585 => ?_)
    refine g_aload cx o (pc' := 590) at_588 rfl rfl rfl ?_
    refine g_iconst cx o (pc' := 591) (2 : Int32) at_590 rfl rfl ?_
    refine g_daload cx o (pc' := 592)  1 2 rfl (by decide) ge2 at_591 rfl ?_
    refine g_aload cx o (pc' := 594) at_592 rfl rfl rfl ?_
    refine g_iconst cx o (pc' := 595) (2 : Int32) at_594 rfl rfl ?_
    refine g_daload cx o (pc' := 596)  2 2 rfl (by decide) rfl at_595 rfl ?_
    refine g_dcmp cx o (pc' := 597) at_596 rfl ?_
    refine g_if_ne cx o (pc' := 724) (pc2 := 600) at_597 (by decide) (by decide) rfl (fun c597 => absurd (dcmpV_self ne2 _) c597) (fun c597 => ?_)
    refine g_aload cx o (pc' := 602) at_600 rfl rfl rfl ?_
    refine g_iconst cx o (pc' := 603) (3 : Int32) at_602 rfl rfl ?_
    refine g_daload cx o (pc' := 604)  1 3 rfl (by decide) ge3 at_603 rfl ?_
    refine g_aload cx o (pc' := 606) at_604 rfl rfl rfl ?_
    refine g_iconst cx o (pc' := 607) (3 : Int32) at_606 rfl rfl ?_
    refine g_daload cx o (pc' := 608)  2 3 rfl (by decide) rfl at_607 rfl ?_
    refine g_dcmp cx o (pc' := 609) at_608 rfl ?_
    refine g_if_ne cx o (pc' := 724) (pc2 := 612) at_609 (by decide) (by decide) rfl (fun c609 => absurd (dcmpV_self ne3 _) c609) (fun c609 => ?_)
    refine g_aload cx o (pc' := 614) at_612 rfl rfl rfl ?_
    refine g_iconst cx o (pc' := 615) (4 : Int32) at_614 rfl rfl ?_
    refine g_daload cx o (pc' := 616)  1 4 rfl (by decide) ge4 at_615 rfl ?_
    refine g_aload cx o (pc' := 618) at_616 rfl rfl rfl ?_
    refine g_iconst cx o (pc' := 619) (4 : Int32) at_618 rfl rfl ?_
    refine g_daload cx o (pc' := 620)  2 4 rfl (by decide) rfl at_619 rfl ?_
    refine g_dcmp cx o (pc' := 621) at_620 rfl ?_
    refine g_if_ne cx o (pc' := 724) (pc2 := 624) at_621 (by decide) (by decide) rfl (fun c621 => absurd (dcmpV_self ne4 _) c621) (fun c621 => ?_)
    refine g_aload cx o (pc' := 626) at_624 rfl rfl rfl ?_
    refine g_iconst cx o (pc' := 627) (5 : Int32) at_626 rfl rfl ?_
    refine g_daload cx o (pc' := 628)  1 5 rfl (by decide) ge5 at_627 rfl ?_
    refine g_aload cx o (pc' := 630) at_628 rfl rfl rfl ?_
    refine g_iconst cx o (pc' := 631) (5 : Int32) at_630 rfl rfl ?_
    refine g_daload cx o (pc' := 632)  2 5 rfl (by decide) rfl at_631 rfl ?_
    refine g_dcmp cx o (pc' := 633) at_632 rfl ?_
    refine g_if_ne cx o (pc' := 724) (pc2 := 636) at_633 (by decide) (by decide) rfl (fun c633 => absurd (dcmpV_self ne5 _) c633) (fun c633 => ?_)
    refine g_aload cx o (pc' := 638) at_636 rfl rfl rfl ?_
    refine g_bipush cx o (pc' := 640) (6 : Int32) at_638 rfl (by decide) ?_
    refine g_daload cx o (pc' := 641)  1 6 rfl (by decide) ge6 at_640 rfl ?_
    refine g_aload cx o (pc' := 643) at_641 rfl rfl rfl ?_
    refine g_bipush cx o (pc' := 645) (6 : Int32) at_643 rfl (by decide) ?_
    refine g_daload cx o (pc' := 646)  2 6 rfl (by decide) rfl at_645 rfl ?_
    refine g_dcmp cx o (pc' := 647) at_646 rfl ?_
    refine g_if_ne cx o (pc' := 724) (pc2 := 650) at_647 (by decide) (by decide) rfl (fun c647 => absurd (dcmpV_self ne6 _) c647) (fun c647 => ?_)
    refine g_aload cx o (pc' := 652) at_650 rfl rfl rfl ?_
    refine g_bipush cx o (pc' := 654) (7 : Int32) at_652 rfl (by decide) ?_
    refine g_daload cx o (pc' := 655)  1 7 rfl (by decide) ge7 at_654 rfl ?_
    refine g_aload cx o (pc' := 657) at_655 rfl rfl rfl ?_
    refine g_bipush cx o (pc' := 659) (7 : Int32) at_657 rfl (by decide) ?_
    refine g_daload cx o (pc' := 660)  2 7 rfl (by decide) rfl at_659 rfl ?_
    refine g_dcmp cx o (pc' := 661) at_660 rfl ?_
    refine g_if_ne cx o (pc' := 724) (pc2 := 664) at_661 (by decide) (by decide) rfl (fun c661 => absurd (dcmpV_self ne7 _) c661) (fun c661 => ?_)
    refine g_aload cx o (pc' := 666) at_664 rfl rfl rfl ?_
    refine g_bipush cx o (pc' := 668) (8 : Int32) at_666 rfl (by decide) ?_
    refine g_daload cx o (pc' := 669)  1 8 rfl (by decide) ge8 at_668 rfl ?_
    refine g_aload cx o (pc' := 671) at_669 rfl rfl rfl ?_
    refine g_bipush cx o (pc' := 673) (8 : Int32) at_671 rfl (by decide) ?_
    refine g_daload cx o (pc' := 674)  2 8 rfl (by decide) rfl at_673 rfl ?_
    refine g_dcmp cx o (pc' := 675) at_674 rfl ?_
    refine g_if_ne cx o (pc' := 724) (pc2 := 678) at_675 (by decide) (by decide) rfl (fun c675 => absurd (dcmpV_self ne8 _) c675) (fun c675 => ?_)
    refine g_aload cx o (pc' := 680) at_678 rfl rfl rfl ?_
    refine g_bipush cx o (pc' := 682) (9 : Int32) at_680 rfl (by decide) ?_
    refine g_daload cx o (pc' := 683)  1 9 rfl (by decide) ge9 at_682 rfl ?_
    refine g_aload cx o (pc' := 685) at_683 rfl rfl rfl ?_
    refine g_bipush cx o (pc' := 687) (9 : Int32) at_685 rfl (by decide) ?_
    refine g_daload cx o (pc' := 688)  2 9 rfl (by decide) rfl at_687 rfl ?_
    refine g_dcmp cx o (pc' := 689) at_688 rfl ?_
    refine g_if_ne cx o (pc' := 724) (pc2 := 692) at_689 (by decide) (by decide) rfl (fun c689 => absurd (dcmpV_self ne9 _) c689) (fun c689 => ?_)
    refine g_aload cx o (pc' := 694) at_692 rfl rfl rfl ?_
    refine g_bipush cx o (pc' := 696) (10 : Int32) at_694 rfl (by decide) ?_
    refine g_daload cx o (pc' := 697)  1 10 rfl (by decide) ge10 at_696 rfl ?_
    refine g_aload cx o (pc' := 699) at_697 rfl rfl rfl ?_
    refine g_bipush cx o (pc' := 701) (10 : Int32) at_699 rfl (by decide) ?_
    refine g_daload cx o (pc' := 702)  2 10 rfl (by decide) rfl at_701 rfl ?_
    refine g_dcmp cx o (pc' := 703) at_702 rfl ?_
    refine g_if_ne cx o (pc' := 724) (pc2 := 706) at_703 (by decide) (by decide) rfl (fun c703 => absurd (dcmpV_self ne10 _) c703) (fun c703 => ?_)
    refine g_aload cx o (pc' := 708) at_706 rfl rfl rfl ?_
    refine g_bipush cx o (pc' := 710) (11 : Int32) at_708 rfl (by decide) ?_
    refine g_daload cx o (pc' := 711)  1 11 rfl (by decide) ge11 at_710 rfl ?_
    refine g_aload cx o (pc' := 713) at_711 rfl rfl rfl ?_
    refine g_bipush cx o (pc' := 715) (11 : Int32) at_713 rfl (by decide) ?_
    refine g_daload cx o (pc' := 716)  2 11 rfl (by decide) rfl at_715 rfl ?_
    refine g_dcmp cx o (pc' := 717) at_716 rfl ?_
    refine g_if_ne cx o (pc' := 724) (pc2 := 720) at_717 (by decide) (by decide) rfl (fun c717 => absurd (dcmpV_self ne11 _) c717) (fun c717 => ?_)
    refine g_iconst cx o (pc' := 721) (1 : Int32) at_720 rfl rfl ?_
    refine g_goto cx o (pc' := 725) at_721 (by decide) (by decide) ?_
    refine g_istore cx o (pc' := 727) (l' := #[.val (.int p0), .val (.int p1), .val (.int p2), .val (.int p3), .val (.int p4), .val (.int p5), .val (.int (2 : Int32)), .val (.int (Int32.ofNat O)), .val (.int (Int32.ofNat M)), .val (.ref lr), .val (.ref br), .val (.double d0), .second, .val (.double d1), .second, .val (.double d2), .second, .val (.double a10), .second, .val (.double a20), .second, .val (.double a21), .second, .val (.double x0), .second, .val (.double x1), .second, .val (.double x2), .second, .val (.ref lc), .val (.int (1 : Int32))]) at_725 rfl rfl ?_
    refine g_iload cx o (pc' := 729) at_727 rfl rfl ?_
    refine g_if_eq cx o (pc' := 884) (pc2 := 732) at_729 (by decide) (by decide) rfl (fun c729 => absurd c729 (by decide)) (fun c729 => ?_)
    refine g_aload cx o (pc' := 734) at_732 rfl rfl rfl ?_
    refine g_iconst cx o (pc' := 735) (0 : Int32) at_734 rfl rfl ?_
    refine g_iload cx o (pc' := 737) at_735 rfl rfl ?_
    refine g_iload cx o (pc' := 739) at_737 rfl rfl ?_
    refine g_dload cx o (pc' := 741) at_739 rfl rfl ?_
    refine g_dload cx o (pc' := 743) at_741 rfl rfl ?_
    refine g_dload cx o (pc' := 745) at_743 rfl rfl ?_
    refine g_iload cx o (pc' := 747) at_745 rfl rfl ?_
    obtain ⟨bv0, g0, h0⟩ := cf 0 (by decide)
    refine g_static cx o (pc' := 750) (y := (⟨"com/example/cachesmith/cachesmith/solver/CholeskyForwardPinLaw", "okB", "([DIIIDDDI)Z"⟩ : MethodName)) (hw _ (List.mem_of_getElem? (i := 18) rfl)) (hw _ (List.mem_of_getElem? (i := 19) rfl)) (hw _ (List.mem_of_getElem? (i := 3) rfl)) (hw _ (List.mem_of_getElem? (i := 20) rfl)) (rmOk l Z a0 hw br _ 0 M 2 (by decide) hM (by decide) x0 x1 x2 p5 bv0 _ 0 rfl g0 h0)  rfl pd_6 rfl (by decide) rfl 0 (Nat.le_of_eq rfl) (by decide) (by decide) (by decide) (by decide) at_747 rfl (fun T v L hQ o => ?_)
    obtain ⟨rfl, rfl⟩ := hQ
    simp only [Option.toList_some, Option.toList_none, List.cons_append, List.nil_append]
    refine g_if_eq cx o (pc' := 884) (pc2 := 753) at_750 (by decide) (by decide) rfl (fun c750 => absurd c750 (by decide)) (fun c750 => ?_)
    refine g_aload cx o (pc' := 755) at_753 rfl rfl rfl ?_
    refine g_iconst cx o (pc' := 756) (1 : Int32) at_755 rfl rfl ?_
    refine g_iload cx o (pc' := 758) at_756 rfl rfl ?_
    refine g_iload cx o (pc' := 760) at_758 rfl rfl ?_
    refine g_dload cx o (pc' := 762) at_760 rfl rfl ?_
    refine g_dload cx o (pc' := 764) at_762 rfl rfl ?_
    refine g_dload cx o (pc' := 766) at_764 rfl rfl ?_
    refine g_iload cx o (pc' := 768) at_766 rfl rfl ?_
    obtain ⟨bv1, g1, h1⟩ := cf 1 (by decide)
    refine g_static cx o (pc' := 771) (y := (⟨"com/example/cachesmith/cachesmith/solver/CholeskyForwardPinLaw", "okB", "([DIIIDDDI)Z"⟩ : MethodName)) (hw _ (List.mem_of_getElem? (i := 18) rfl)) (hw _ (List.mem_of_getElem? (i := 19) rfl)) (hw _ (List.mem_of_getElem? (i := 3) rfl)) (hw _ (List.mem_of_getElem? (i := 20) rfl)) (rmOk l Z a0 hw br _ 1 M 2 (by decide) hM (by decide) x0 x1 x2 p5 bv1 _ 0 rfl g1 h1)  rfl pd_6 rfl (by decide) rfl 0 (Nat.le_of_eq rfl) (by decide) (by decide) (by decide) (by decide) at_768 rfl (fun T v L hQ o => ?_)
    obtain ⟨rfl, rfl⟩ := hQ
    simp only [Option.toList_some, Option.toList_none, List.cons_append, List.nil_append]
    refine g_if_eq cx o (pc' := 884) (pc2 := 774) at_771 (by decide) (by decide) rfl (fun c771 => absurd c771 (by decide)) (fun c771 => ?_)
    refine g_aload cx o (pc' := 776) at_774 rfl rfl rfl ?_
    refine g_iconst cx o (pc' := 777) (2 : Int32) at_776 rfl rfl ?_
    refine g_iload cx o (pc' := 779) at_777 rfl rfl ?_
    refine g_iload cx o (pc' := 781) at_779 rfl rfl ?_
    refine g_dload cx o (pc' := 783) at_781 rfl rfl ?_
    refine g_dload cx o (pc' := 785) at_783 rfl rfl ?_
    refine g_dload cx o (pc' := 787) at_785 rfl rfl ?_
    refine g_iload cx o (pc' := 789) at_787 rfl rfl ?_
    obtain ⟨bv2, g2, h2⟩ := cf 2 (by decide)
    refine g_static cx o (pc' := 792) (y := (⟨"com/example/cachesmith/cachesmith/solver/CholeskyForwardPinLaw", "okB", "([DIIIDDDI)Z"⟩ : MethodName)) (hw _ (List.mem_of_getElem? (i := 18) rfl)) (hw _ (List.mem_of_getElem? (i := 19) rfl)) (hw _ (List.mem_of_getElem? (i := 3) rfl)) (hw _ (List.mem_of_getElem? (i := 20) rfl)) (rmOk l Z a0 hw br _ 2 M 2 (by decide) hM (by decide) x0 x1 x2 p5 bv2 _ 0 rfl g2 h2)  rfl pd_6 rfl (by decide) rfl 0 (Nat.le_of_eq rfl) (by decide) (by decide) (by decide) (by decide) at_789 rfl (fun T v L hQ o => ?_)
    obtain ⟨rfl, rfl⟩ := hQ
    simp only [Option.toList_some, Option.toList_none, List.cons_append, List.nil_append]
    refine g_if_eq cx o (pc' := 884) (pc2 := 795) at_792 (by decide) (by decide) rfl (fun c792 => absurd c792 (by decide)) (fun c792 => ?_)
    refine g_aload cx o (pc' := 797) at_795 rfl rfl rfl ?_
    refine g_iconst cx o (pc' := 798) (3 : Int32) at_797 rfl rfl ?_
    refine g_iload cx o (pc' := 800) at_798 rfl rfl ?_
    refine g_iload cx o (pc' := 802) at_800 rfl rfl ?_
    refine g_dload cx o (pc' := 804) at_802 rfl rfl ?_
    refine g_dload cx o (pc' := 806) at_804 rfl rfl ?_
    refine g_dload cx o (pc' := 808) at_806 rfl rfl ?_
    refine g_iload cx o (pc' := 810) at_808 rfl rfl ?_
    obtain ⟨bv3, g3, h3⟩ := cf 3 (by decide)
    refine g_static cx o (pc' := 813) (y := (⟨"com/example/cachesmith/cachesmith/solver/CholeskyForwardPinLaw", "okB", "([DIIIDDDI)Z"⟩ : MethodName)) (hw _ (List.mem_of_getElem? (i := 18) rfl)) (hw _ (List.mem_of_getElem? (i := 19) rfl)) (hw _ (List.mem_of_getElem? (i := 3) rfl)) (hw _ (List.mem_of_getElem? (i := 20) rfl)) (rmOk l Z a0 hw br _ 3 M 2 (by decide) hM (by decide) x0 x1 x2 p5 bv3 _ 0 rfl g3 h3)  rfl pd_6 rfl (by decide) rfl 0 (Nat.le_of_eq rfl) (by decide) (by decide) (by decide) (by decide) at_810 rfl (fun T v L hQ o => ?_)
    obtain ⟨rfl, rfl⟩ := hQ
    simp only [Option.toList_some, Option.toList_none, List.cons_append, List.nil_append]
    refine g_if_eq cx o (pc' := 884) (pc2 := 816) at_813 (by decide) (by decide) rfl (fun c813 => absurd c813 (by decide)) (fun c813 => ?_)
    refine g_aload cx o (pc' := 818) at_816 rfl rfl rfl ?_
    refine g_iconst cx o (pc' := 819) (4 : Int32) at_818 rfl rfl ?_
    refine g_iload cx o (pc' := 821) at_819 rfl rfl ?_
    refine g_iload cx o (pc' := 823) at_821 rfl rfl ?_
    refine g_dload cx o (pc' := 825) at_823 rfl rfl ?_
    refine g_dload cx o (pc' := 827) at_825 rfl rfl ?_
    refine g_dload cx o (pc' := 829) at_827 rfl rfl ?_
    refine g_iload cx o (pc' := 831) at_829 rfl rfl ?_
    obtain ⟨bv4, g4, h4⟩ := cf 4 (by decide)
    refine g_static cx o (pc' := 834) (y := (⟨"com/example/cachesmith/cachesmith/solver/CholeskyForwardPinLaw", "okB", "([DIIIDDDI)Z"⟩ : MethodName)) (hw _ (List.mem_of_getElem? (i := 18) rfl)) (hw _ (List.mem_of_getElem? (i := 19) rfl)) (hw _ (List.mem_of_getElem? (i := 3) rfl)) (hw _ (List.mem_of_getElem? (i := 20) rfl)) (rmOk l Z a0 hw br _ 4 M 2 (by decide) hM (by decide) x0 x1 x2 p5 bv4 _ 0 rfl g4 h4)  rfl pd_6 rfl (by decide) rfl 0 (Nat.le_of_eq rfl) (by decide) (by decide) (by decide) (by decide) at_831 rfl (fun T v L hQ o => ?_)
    obtain ⟨rfl, rfl⟩ := hQ
    simp only [Option.toList_some, Option.toList_none, List.cons_append, List.nil_append]
    refine g_if_eq cx o (pc' := 884) (pc2 := 837) at_834 (by decide) (by decide) rfl (fun c834 => absurd c834 (by decide)) (fun c834 => ?_)
    refine g_aload cx o (pc' := 839) at_837 rfl rfl rfl ?_
    refine g_iconst cx o (pc' := 840) (5 : Int32) at_839 rfl rfl ?_
    refine g_iload cx o (pc' := 842) at_840 rfl rfl ?_
    refine g_iload cx o (pc' := 844) at_842 rfl rfl ?_
    refine g_dload cx o (pc' := 846) at_844 rfl rfl ?_
    refine g_dload cx o (pc' := 848) at_846 rfl rfl ?_
    refine g_dload cx o (pc' := 850) at_848 rfl rfl ?_
    refine g_iload cx o (pc' := 852) at_850 rfl rfl ?_
    obtain ⟨bv5, g5, h5⟩ := cf 5 (by decide)
    refine g_static cx o (pc' := 855) (y := (⟨"com/example/cachesmith/cachesmith/solver/CholeskyForwardPinLaw", "okB", "([DIIIDDDI)Z"⟩ : MethodName)) (hw _ (List.mem_of_getElem? (i := 18) rfl)) (hw _ (List.mem_of_getElem? (i := 19) rfl)) (hw _ (List.mem_of_getElem? (i := 3) rfl)) (hw _ (List.mem_of_getElem? (i := 20) rfl)) (rmOk l Z a0 hw br _ 5 M 2 (by decide) hM (by decide) x0 x1 x2 p5 bv5 _ 0 rfl g5 h5)  rfl pd_6 rfl (by decide) rfl 0 (Nat.le_of_eq rfl) (by decide) (by decide) (by decide) (by decide) at_852 rfl (fun T v L hQ o => ?_)
    obtain ⟨rfl, rfl⟩ := hQ
    simp only [Option.toList_some, Option.toList_none, List.cons_append, List.nil_append]
    refine g_if_eq cx o (pc' := 884) (pc2 := 858) at_855 (by decide) (by decide) rfl (fun c855 => absurd c855 (by decide)) (fun c855 => ?_)
    refine g_aload cx o (pc' := 860) at_858 rfl rfl rfl ?_
    refine g_bipush cx o (pc' := 862) (6 : Int32) at_860 rfl (by decide) ?_
    refine g_iload cx o (pc' := 864) at_862 rfl rfl ?_
    refine g_iload cx o (pc' := 866) at_864 rfl rfl ?_
    refine g_dload cx o (pc' := 868) at_866 rfl rfl ?_
    refine g_dload cx o (pc' := 870) at_868 rfl rfl ?_
    refine g_dload cx o (pc' := 872) at_870 rfl rfl ?_
    refine g_iload cx o (pc' := 874) at_872 rfl rfl ?_
    obtain ⟨bv6, g6, h6⟩ := cf 6 (by decide)
    refine g_static cx o (pc' := 877) (y := (⟨"com/example/cachesmith/cachesmith/solver/CholeskyForwardPinLaw", "okB", "([DIIIDDDI)Z"⟩ : MethodName)) (hw _ (List.mem_of_getElem? (i := 18) rfl)) (hw _ (List.mem_of_getElem? (i := 19) rfl)) (hw _ (List.mem_of_getElem? (i := 3) rfl)) (hw _ (List.mem_of_getElem? (i := 20) rfl)) (rmOk l Z a0 hw br _ 6 M 2 (by decide) hM (by decide) x0 x1 x2 p5 bv6 _ 0 rfl g6 h6)  rfl pd_6 rfl (by decide) rfl 0 (Nat.le_of_eq rfl) (by decide) (by decide) (by decide) (by decide) at_874 rfl (fun T v L hQ o => ?_)
    obtain ⟨rfl, rfl⟩ := hQ
    simp only [Option.toList_some, Option.toList_none, List.cons_append, List.nil_append]
    refine g_if_eq cx o (pc' := 884) (pc2 := 880) at_877 (by decide) (by decide) rfl (fun c877 => absurd c877 (by decide)) (fun c877 => ?_)
    refine g_iconst cx o (pc' := 881) (1 : Int32) at_880 rfl rfl ?_
    refine g_goto cx o (pc' := 885) at_881 (by decide) (by decide) ?_
    exact g_ireturnZ cx o at_885 (by decide) (by decide) (by decide) rfl
  · refine g_iload cx o (pc' := 300) at_298 rfl rfl ?_
    refine g_iconst cx o (pc' := 301) (1 : Int32) at_300 rfl rfl ?_
    refine g_icmp_lt cx o (pc' := 321) (pc2 := 304) at_301 (by decide) (by decide) rfl (fun c301 => absurd c301 (by decide)) (fun c301 => ?_)
    refine g_aload cx o (pc' := 306) at_304 rfl rfl rfl ?_
    refine g_iload cx o (pc' := 308) at_306 rfl rfl ?_
    refine g_dload cx o (pc' := 310) at_308 rfl rfl ?_
    refine g_dastore cx o (pc' := 311) 1 O rfl rfl (by simp only [List.length_set, List.length_cons, List.length_nil]; omega) at_310 rfl (fun T o => ?_)
    simp only [List.set_cons_zero, List.set_cons_succ] at o
    refine g_aload cx o (pc' := 313) at_311 rfl rfl rfl ?_
    refine g_iload cx o (pc' := 315) at_313 rfl rfl ?_
    refine g_dload cx o (pc' := 317) at_315 rfl rfl ?_
    refine g_dload cx o (pc' := 319) at_317 rfl rfl ?_
    refine g_dmul cx o (pc' := 320) at_319 rfl P00.nn ?_
    refine g_dastore cx o (pc' := 321) 0 M rfl rfl (by simp only [List.length_set, List.length_cons, List.length_nil]; omega) at_320 rfl (fun T o => ?_)
    simp only [List.set_cons_zero, List.set_cons_succ] at o
    refine g_iload cx o (pc' := 323) at_321 rfl rfl ?_
    refine g_iconst cx o (pc' := 324) (2 : Int32) at_323 rfl rfl ?_
    refine g_icmp_lt cx o (pc' := 367) (pc2 := 327) at_324 (by decide) (by decide) rfl (fun c324 => absurd c324 (by decide)) (fun c324 => ?_)
    refine g_aload cx o (pc' := 329) at_327 rfl rfl rfl ?_
    refine g_iload cx o (pc' := 331) at_329 rfl rfl ?_
    refine g_iload cx o (pc' := 333) at_331 rfl rfl ?_
    refine g_iadd cx o (pc' := 334) at_333 rfl ?_
    refine g_dload cx o (pc' := 336) at_334 rfl rfl ?_
    refine g_dastore cx o (pc' := 337) 1 (O + 3) rfl (o_of1 O 3) (by simp only [List.length_set, List.length_cons, List.length_nil]; omega) at_336 rfl (fun T o => ?_)
    simp only [List.set_cons_zero, List.set_cons_succ] at o
    refine g_aload cx o (pc' := 339) at_337 rfl rfl rfl ?_
    refine g_iload cx o (pc' := 341) at_339 rfl rfl ?_
    refine g_iload cx o (pc' := 343) at_341 rfl rfl ?_
    refine g_iadd cx o (pc' := 344) at_343 rfl ?_
    refine g_iconst cx o (pc' := 345) (1 : Int32) at_344 rfl rfl ?_
    refine g_iadd cx o (pc' := 346) at_345 rfl ?_
    refine g_dload cx o (pc' := 348) at_346 rfl rfl ?_
    refine g_dastore cx o (pc' := 349) 1 (O + 3 + 1) rfl (o_of2 O 3 1) (by simp only [List.length_set, List.length_cons, List.length_nil]; omega) at_348 rfl (fun T o => ?_)
    simp only [List.set_cons_zero, List.set_cons_succ] at o
    refine g_aload cx o (pc' := 351) at_349 rfl rfl rfl ?_
    refine g_iload cx o (pc' := 353) at_351 rfl rfl ?_
    refine g_iconst cx o (pc' := 354) (1 : Int32) at_353 rfl rfl ?_
    refine g_iadd cx o (pc' := 355) at_354 rfl ?_
    refine g_dload cx o (pc' := 357) at_355 rfl rfl ?_
    refine g_dload cx o (pc' := 359) at_357 rfl rfl ?_
    refine g_dmul cx o (pc' := 360) at_359 rfl P10.nn ?_
    refine g_dload cx o (pc' := 362) at_360 rfl rfl ?_
    refine g_dload cx o (pc' := 364) at_362 rfl rfl ?_
    refine g_dmul cx o (pc' := 365) at_364 rfl P11.nn ?_
    refine g_dadd cx o (pc' := 366) at_365 rfl S1.nn ?_
    refine g_dastore cx o (pc' := 367) 0 (M + 1) rfl (o_of1 M 1) (by simp only [List.length_set, List.length_cons, List.length_nil]; omega) at_366 rfl (fun T o => ?_)
    simp only [List.set_cons_zero, List.set_cons_succ] at o
    refine g_iload cx o (pc' := 369) at_367 rfl rfl ?_
    refine g_iconst cx o (pc' := 370) (3 : Int32) at_369 rfl rfl ?_
    refine g_icmp_lt cx o (pc' := 437) (pc2 := 373) at_370 (by decide) (by decide) rfl (fun c370 => absurd c370 (by decide)) (fun c370 => ?_)
    refine g_aload cx o (pc' := 375) at_373 rfl rfl rfl ?_
    refine g_iload cx o (pc' := 377) at_375 rfl rfl ?_
    refine g_iconst cx o (pc' := 378) (2 : Int32) at_377 rfl rfl ?_
    refine g_iload cx o (pc' := 380) at_378 rfl rfl ?_
    refine g_imul cx o (pc' := 381) at_380 rfl ?_
    refine g_iadd cx o (pc' := 382) at_381 rfl ?_
    refine g_dload cx o (pc' := 384) at_382 rfl rfl ?_
    refine g_dastore cx o (pc' := 385) 1 (O + 6) rfl (o_of1 O 6) (by simp only [List.length_set, List.length_cons, List.length_nil]; omega) at_384 rfl (fun T o => ?_)
    simp only [List.set_cons_zero, List.set_cons_succ] at o
    refine g_aload cx o (pc' := 387) at_385 rfl rfl rfl ?_
    refine g_iload cx o (pc' := 389) at_387 rfl rfl ?_
    refine g_iconst cx o (pc' := 390) (2 : Int32) at_389 rfl rfl ?_
    refine g_iload cx o (pc' := 392) at_390 rfl rfl ?_
    refine g_imul cx o (pc' := 393) at_392 rfl ?_
    refine g_iadd cx o (pc' := 394) at_393 rfl ?_
    refine g_iconst cx o (pc' := 395) (1 : Int32) at_394 rfl rfl ?_
    refine g_iadd cx o (pc' := 396) at_395 rfl ?_
    refine g_dload cx o (pc' := 398) at_396 rfl rfl ?_
    refine g_dastore cx o (pc' := 399) 1 (O + 6 + 1) rfl (o_of2 O 6 1) (by simp only [List.length_set, List.length_cons, List.length_nil]; omega) at_398 rfl (fun T o => ?_)
    simp only [List.set_cons_zero, List.set_cons_succ] at o
    refine g_aload cx o (pc' := 401) at_399 rfl rfl rfl ?_
    refine g_iload cx o (pc' := 403) at_401 rfl rfl ?_
    refine g_iconst cx o (pc' := 404) (2 : Int32) at_403 rfl rfl ?_
    refine g_iload cx o (pc' := 406) at_404 rfl rfl ?_
    refine g_imul cx o (pc' := 407) at_406 rfl ?_
    refine g_iadd cx o (pc' := 408) at_407 rfl ?_
    refine g_iconst cx o (pc' := 409) (2 : Int32) at_408 rfl rfl ?_
    refine g_iadd cx o (pc' := 410) at_409 rfl ?_
    refine g_dload cx o (pc' := 412) at_410 rfl rfl ?_
    refine g_dastore cx o (pc' := 413) 1 (O + 6 + 2) rfl (o_of2 O 6 2) (by simp only [List.length_set, List.length_cons, List.length_nil]; omega) at_412 rfl (fun T o => ?_)
    simp only [List.set_cons_zero, List.set_cons_succ] at o
    refine g_aload cx o (pc' := 415) at_413 rfl rfl rfl ?_
    refine g_iload cx o (pc' := 417) at_415 rfl rfl ?_
    refine g_iconst cx o (pc' := 418) (2 : Int32) at_417 rfl rfl ?_
    refine g_iadd cx o (pc' := 419) at_418 rfl ?_
    refine g_dload cx o (pc' := 421) at_419 rfl rfl ?_
    refine g_dload cx o (pc' := 423) at_421 rfl rfl ?_
    refine g_dmul cx o (pc' := 424) at_423 rfl P20.nn ?_
    refine g_dload cx o (pc' := 426) at_424 rfl rfl ?_
    refine g_dload cx o (pc' := 428) at_426 rfl rfl ?_
    refine g_dmul cx o (pc' := 429) at_428 rfl P21.nn ?_
    refine g_dadd cx o (pc' := 430) at_429 rfl S2a.nn ?_
    refine g_dload cx o (pc' := 432) at_430 rfl rfl ?_
    refine g_dload cx o (pc' := 434) at_432 rfl rfl ?_
    refine g_dmul cx o (pc' := 435) at_434 rfl P22.nn ?_
    refine g_dadd cx o (pc' := 436) at_435 rfl S2.nn ?_
    refine g_dastore cx o (pc' := 437) 0 (M + 2) rfl (o_of1 M 2) (by simp only [List.length_set, List.length_cons, List.length_nil]; omega) at_436 rfl (fun T o => ?_)
    simp only [List.set_cons_zero, List.set_cons_succ] at o
    have la : oAll 12 (((((([.double ga0, .double ga1, .double ga2, .double ga3, .double ga4, .double ga5, .double ga6, .double ga7, .double ga8, .double ga9, .double ga10, .double ga11].set O (.double d0)).set (O + 3) (.double a10)).set (O + 3 + 1) (.double d1)).set (O + 6) (.double a20)).set (O + 6 + 1) (.double a21)).set (O + 6 + 2) (.double d2)) := ((((((la0.set _ R_d0.nn).set _ R_a10.nn).set _ R_d1.nn).set _ R_a20.nn).set _ R_a21.nn).set _ R_d2.nn)
    have L00 : ((((((([.double ga0, .double ga1, .double ga2, .double ga3, .double ga4, .double ga5, .double ga6, .double ga7, .double ga8, .double ga9, .double ga10, .double ga11].set O (.double d0)).set (O + 3) (.double a10)).set (O + 3 + 1) (.double d1)).set (O + 6) (.double a20)).set (O + 6 + 1) (.double a21)).set (O + 6 + 2) (.double d2)) : List Value)[O + 0]? = some (.double d0) := (o_setne (o_setne (o_setne (o_setne (o_setne (o_setat (by omega) (by simp only [List.length_set, List.length_cons, List.length_nil]; omega)) (by omega)) (by omega)) (by omega)) (by omega)) (by omega))
    have L10 : ((((((([.double ga0, .double ga1, .double ga2, .double ga3, .double ga4, .double ga5, .double ga6, .double ga7, .double ga8, .double ga9, .double ga10, .double ga11].set O (.double d0)).set (O + 3) (.double a10)).set (O + 3 + 1) (.double d1)).set (O + 6) (.double a20)).set (O + 6 + 1) (.double a21)).set (O + 6 + 2) (.double d2)) : List Value)[O + 3]? = some (.double a10) := (o_setne (o_setne (o_setne (o_setne (o_setat (by omega) (by simp only [List.length_set, List.length_cons, List.length_nil]; omega)) (by omega)) (by omega)) (by omega)) (by omega))
    have L11 : ((((((([.double ga0, .double ga1, .double ga2, .double ga3, .double ga4, .double ga5, .double ga6, .double ga7, .double ga8, .double ga9, .double ga10, .double ga11].set O (.double d0)).set (O + 3) (.double a10)).set (O + 3 + 1) (.double d1)).set (O + 6) (.double a20)).set (O + 6 + 1) (.double a21)).set (O + 6 + 2) (.double d2)) : List Value)[O + 4]? = some (.double d1) := (o_setne (o_setne (o_setne (o_setat (by omega) (by simp only [List.length_set, List.length_cons, List.length_nil]; omega)) (by omega)) (by omega)) (by omega))
    have L20 : ((((((([.double ga0, .double ga1, .double ga2, .double ga3, .double ga4, .double ga5, .double ga6, .double ga7, .double ga8, .double ga9, .double ga10, .double ga11].set O (.double d0)).set (O + 3) (.double a10)).set (O + 3 + 1) (.double d1)).set (O + 6) (.double a20)).set (O + 6 + 1) (.double a21)).set (O + 6 + 2) (.double d2)) : List Value)[O + 6]? = some (.double a20) := (o_setne (o_setne (o_setat (by omega) (by simp only [List.length_set, List.length_cons, List.length_nil]; omega)) (by omega)) (by omega))
    have L21 : ((((((([.double ga0, .double ga1, .double ga2, .double ga3, .double ga4, .double ga5, .double ga6, .double ga7, .double ga8, .double ga9, .double ga10, .double ga11].set O (.double d0)).set (O + 3) (.double a10)).set (O + 3 + 1) (.double d1)).set (O + 6) (.double a20)).set (O + 6 + 1) (.double a21)).set (O + 6 + 2) (.double d2)) : List Value)[O + 7]? = some (.double a21) := (o_setne (o_setat (by omega) (by simp only [List.length_set, List.length_cons, List.length_nil]; omega)) (by omega))
    have L22 : ((((((([.double ga0, .double ga1, .double ga2, .double ga3, .double ga4, .double ga5, .double ga6, .double ga7, .double ga8, .double ga9, .double ga10, .double ga11].set O (.double d0)).set (O + 3) (.double a10)).set (O + 3 + 1) (.double d1)).set (O + 6) (.double a20)).set (O + 6 + 1) (.double a21)).set (O + 6 + 2) (.double d2)) : List Value)[O + 8]? = some (.double d2) := (o_setat (by omega) (by simp only [List.length_set, List.length_cons, List.length_nil]; omega))
    have B0 : (((([.double gb0, .double gb1, .double gb2, .double gb3, .double gb4, .double gb5, .double gb6].set M (.double (FP.dmul d0 x0))).set (M + 1) (.double (FP.dadd (FP.dmul a10 x0) (FP.dmul d1 x1)))).set (M + 2) (.double (FP.dadd (FP.dadd (FP.dmul a20 x0) (FP.dmul a21 x1)) (FP.dmul d2 x2)))) : List Value)[M + 0]? = some (.double (FP.dmul d0 x0)) := (o_setne (o_setne (o_setat (by omega) (by simp only [List.length_set, List.length_cons, List.length_nil]; omega)) (by omega)) (by omega))
    have B1 : (((([.double gb0, .double gb1, .double gb2, .double gb3, .double gb4, .double gb5, .double gb6].set M (.double (FP.dmul d0 x0))).set (M + 1) (.double (FP.dadd (FP.dmul a10 x0) (FP.dmul d1 x1)))).set (M + 2) (.double (FP.dadd (FP.dadd (FP.dmul a20 x0) (FP.dmul a21 x1)) (FP.dmul d2 x2)))) : List Value)[M + 1]? = some (.double (FP.dadd (FP.dmul a10 x0) (FP.dmul d1 x1))) := (o_setne (o_setat (by omega) (by simp only [List.length_set, List.length_cons, List.length_nil]; omega)) (by omega))
    have B2 : (((([.double gb0, .double gb1, .double gb2, .double gb3, .double gb4, .double gb5, .double gb6].set M (.double (FP.dmul d0 x0))).set (M + 1) (.double (FP.dadd (FP.dmul a10 x0) (FP.dmul d1 x1)))).set (M + 2) (.double (FP.dadd (FP.dadd (FP.dmul a20 x0) (FP.dmul a21 x1)) (FP.dmul d2 x2)))) : List Value)[M + 2]? = some (.double (FP.dadd (FP.dadd (FP.dmul a20 x0) (FP.dmul a21 x1)) (FP.dmul d2 x2))) := (o_setat (by omega) (by simp only [List.length_set, List.length_cons, List.length_nil]; omega))
    have bo : ∀ i, i < 7 → i ≠ M + 0 → i ≠ M + 1 → i ≠ M + 2 → ∃ d, (((([.double gb0, .double gb1, .double gb2, .double gb3, .double gb4, .double gb5, .double gb6].set M (.double (FP.dmul d0 x0))).set (M + 1) (.double (FP.dadd (FP.dmul a10 x0) (FP.dmul d1 x1)))).set (M + 2) (.double (FP.dadd (FP.dadd (FP.dmul a20 x0) (FP.dmul a21 x1)) (FP.dmul d2 x2)))) : List Value)[i]? = some (.double d) ∧ NoNaN64 d ∧ d = (FP.i2d ((XT.ushr p5 (Int32.ofNat i) &&& (15 : Int32)) - (7 : Int32))) := by
      intro i hi q0 q1 q2
      rw [List.getElem?_set_ne (show M + 2 ≠ i from Ne.symm q2), List.getElem?_set_ne (show M + 1 ≠ i from Ne.symm q1), List.getElem?_set_ne (show M ≠ i from Ne.symm q0)]
      exact bo0 i hi
    have bl : (((([.double gb0, .double gb1, .double gb2, .double gb3, .double gb4, .double gb5, .double gb6].set M (.double (FP.dmul d0 x0))).set (M + 1) (.double (FP.dadd (FP.dmul a10 x0) (FP.dmul d1 x1)))).set (M + 2) (.double (FP.dadd (FP.dadd (FP.dmul a20 x0) (FP.dmul a21 x1)) (FP.dmul d2 x2)))) : List Value).length = 7 := by simp only [List.length_set, List.length_cons, List.length_nil]
    generalize hlv : ((((((([.double ga0, .double ga1, .double ga2, .double ga3, .double ga4, .double ga5, .double ga6, .double ga7, .double ga8, .double ga9, .double ga10, .double ga11].set O (.double d0)).set (O + 3) (.double a10)).set (O + 3 + 1) (.double d1)).set (O + 6) (.double a20)).set (O + 6 + 1) (.double a21)).set (O + 6 + 2) (.double d2)) : List Value) = lv at o la L00 L10 L11 L20 L21 L22
    generalize hbv : (((([.double gb0, .double gb1, .double gb2, .double gb3, .double gb4, .double gb5, .double gb6].set M (.double (FP.dmul d0 x0))).set (M + 1) (.double (FP.dadd (FP.dmul a10 x0) (FP.dmul d1 x1)))).set (M + 2) (.double (FP.dadd (FP.dadd (FP.dmul a20 x0) (FP.dmul a21 x1)) (FP.dmul d2 x2)))) : List Value) = bs at o bl bo B0 B1 B2
    obtain ⟨e0, ge0, ne0⟩ := la 0 (by decide)
    obtain ⟨e1, ge1, ne1⟩ := la 1 (by decide)
    obtain ⟨e2, ge2, ne2⟩ := la 2 (by decide)
    obtain ⟨e3, ge3, ne3⟩ := la 3 (by decide)
    obtain ⟨e4, ge4, ne4⟩ := la 4 (by decide)
    obtain ⟨e5, ge5, ne5⟩ := la 5 (by decide)
    obtain ⟨e6, ge6, ne6⟩ := la 6 (by decide)
    obtain ⟨e7, ge7, ne7⟩ := la 7 (by decide)
    obtain ⟨e8, ge8, ne8⟩ := la 8 (by decide)
    obtain ⟨e9, ge9, ne9⟩ := la 9 (by decide)
    obtain ⟨e10, ge10, ne10⟩ := la 10 (by decide)
    obtain ⟨e11, ge11, ne11⟩ := la 11 (by decide)
    refine g_bipush cx o (pc' := 439) (12 : Int32) at_437 rfl (by decide) ?_
    refine g_newarray cx o (pc' := 441) (vs := [.double (0 : UInt64), .double (0 : UInt64), .double (0 : UInt64), .double (0 : UInt64), .double (0 : UInt64), .double (0 : UInt64), .double (0 : UInt64), .double (0 : UInt64), .double (0 : UInt64), .double (0 : UInt64), .double (0 : UInt64), .double (0 : UInt64)]) (hw _ (List.mem_of_getElem? (i := 0) rfl)) rfl 12 12 rfl rfl (by decide) (by decide) (by decide) (by decide) at_439 rfl (fun T lc o => ?_)
    refine g_astore cx o (pc' := 443) (l' := #[.val (.int p0), .val (.int p1), .val (.int p2), .val (.int p3), .val (.int p4), .val (.int p5), .val (.int (3 : Int32)), .val (.int (Int32.ofNat O)), .val (.int (Int32.ofNat M)), .val (.ref lr), .val (.ref br), .val (.double d0), .second, .val (.double d1), .second, .val (.double d2), .second, .val (.double a10), .second, .val (.double a20), .second, .val (.double a21), .second, .val (.double x0), .second, .val (.double x1), .second, .val (.double x2), .second, .val (.ref lc), .unset]) at_441 rfl rfl rfl ?_
    refine g_aload cx o (pc' := 445) at_443 rfl rfl rfl ?_
    refine g_iconst cx o (pc' := 446) (0 : Int32) at_445 rfl rfl ?_
    refine g_aload cx o (pc' := 448) at_446 rfl rfl rfl ?_
    refine g_iconst cx o (pc' := 449) (0 : Int32) at_448 rfl rfl ?_
    refine g_daload cx o (pc' := 450)  2 0 rfl (by decide) ge0 at_449 rfl ?_
    refine g_dastore cx o (pc' := 451) 0 0 rfl (by decide) (Nat.le_of_ble_eq_true rfl) at_450 rfl (fun T o => ?_)
    simp only [List.set_cons_zero, List.set_cons_succ] at o
    refine g_aload cx o (pc' := 453) at_451 rfl rfl rfl ?_
    refine g_iconst cx o (pc' := 454) (1 : Int32) at_453 rfl rfl ?_
    refine g_aload cx o (pc' := 456) at_454 rfl rfl rfl ?_
    refine g_iconst cx o (pc' := 457) (1 : Int32) at_456 rfl rfl ?_
    refine g_daload cx o (pc' := 458)  2 1 rfl (by decide) ge1 at_457 rfl ?_
    refine g_dastore cx o (pc' := 459) 0 1 rfl (by decide) (Nat.le_of_ble_eq_true rfl) at_458 rfl (fun T o => ?_)
    simp only [List.set_cons_zero, List.set_cons_succ] at o
    refine g_aload cx o (pc' := 461) at_459 rfl rfl rfl ?_
    refine g_iconst cx o (pc' := 462) (2 : Int32) at_461 rfl rfl ?_
    refine g_aload cx o (pc' := 464) at_462 rfl rfl rfl ?_
    refine g_iconst cx o (pc' := 465) (2 : Int32) at_464 rfl rfl ?_
    refine g_daload cx o (pc' := 466)  2 2 rfl (by decide) ge2 at_465 rfl ?_
    refine g_dastore cx o (pc' := 467) 0 2 rfl (by decide) (Nat.le_of_ble_eq_true rfl) at_466 rfl (fun T o => ?_)
    simp only [List.set_cons_zero, List.set_cons_succ] at o
    refine g_aload cx o (pc' := 469) at_467 rfl rfl rfl ?_
    refine g_iconst cx o (pc' := 470) (3 : Int32) at_469 rfl rfl ?_
    refine g_aload cx o (pc' := 472) at_470 rfl rfl rfl ?_
    refine g_iconst cx o (pc' := 473) (3 : Int32) at_472 rfl rfl ?_
    refine g_daload cx o (pc' := 474)  2 3 rfl (by decide) ge3 at_473 rfl ?_
    refine g_dastore cx o (pc' := 475) 0 3 rfl (by decide) (Nat.le_of_ble_eq_true rfl) at_474 rfl (fun T o => ?_)
    simp only [List.set_cons_zero, List.set_cons_succ] at o
    refine g_aload cx o (pc' := 477) at_475 rfl rfl rfl ?_
    refine g_iconst cx o (pc' := 478) (4 : Int32) at_477 rfl rfl ?_
    refine g_aload cx o (pc' := 480) at_478 rfl rfl rfl ?_
    refine g_iconst cx o (pc' := 481) (4 : Int32) at_480 rfl rfl ?_
    refine g_daload cx o (pc' := 482)  2 4 rfl (by decide) ge4 at_481 rfl ?_
    refine g_dastore cx o (pc' := 483) 0 4 rfl (by decide) (Nat.le_of_ble_eq_true rfl) at_482 rfl (fun T o => ?_)
    simp only [List.set_cons_zero, List.set_cons_succ] at o
    refine g_aload cx o (pc' := 485) at_483 rfl rfl rfl ?_
    refine g_iconst cx o (pc' := 486) (5 : Int32) at_485 rfl rfl ?_
    refine g_aload cx o (pc' := 488) at_486 rfl rfl rfl ?_
    refine g_iconst cx o (pc' := 489) (5 : Int32) at_488 rfl rfl ?_
    refine g_daload cx o (pc' := 490)  2 5 rfl (by decide) ge5 at_489 rfl ?_
    refine g_dastore cx o (pc' := 491) 0 5 rfl (by decide) (Nat.le_of_ble_eq_true rfl) at_490 rfl (fun T o => ?_)
    simp only [List.set_cons_zero, List.set_cons_succ] at o
    refine g_aload cx o (pc' := 493) at_491 rfl rfl rfl ?_
    refine g_bipush cx o (pc' := 495) (6 : Int32) at_493 rfl (by decide) ?_
    refine g_aload cx o (pc' := 497) at_495 rfl rfl rfl ?_
    refine g_bipush cx o (pc' := 499) (6 : Int32) at_497 rfl (by decide) ?_
    refine g_daload cx o (pc' := 500)  2 6 rfl (by decide) ge6 at_499 rfl ?_
    refine g_dastore cx o (pc' := 501) 0 6 rfl (by decide) (Nat.le_of_ble_eq_true rfl) at_500 rfl (fun T o => ?_)
    simp only [List.set_cons_zero, List.set_cons_succ] at o
    refine g_aload cx o (pc' := 503) at_501 rfl rfl rfl ?_
    refine g_bipush cx o (pc' := 505) (7 : Int32) at_503 rfl (by decide) ?_
    refine g_aload cx o (pc' := 507) at_505 rfl rfl rfl ?_
    refine g_bipush cx o (pc' := 509) (7 : Int32) at_507 rfl (by decide) ?_
    refine g_daload cx o (pc' := 510)  2 7 rfl (by decide) ge7 at_509 rfl ?_
    refine g_dastore cx o (pc' := 511) 0 7 rfl (by decide) (Nat.le_of_ble_eq_true rfl) at_510 rfl (fun T o => ?_)
    simp only [List.set_cons_zero, List.set_cons_succ] at o
    refine g_aload cx o (pc' := 513) at_511 rfl rfl rfl ?_
    refine g_bipush cx o (pc' := 515) (8 : Int32) at_513 rfl (by decide) ?_
    refine g_aload cx o (pc' := 517) at_515 rfl rfl rfl ?_
    refine g_bipush cx o (pc' := 519) (8 : Int32) at_517 rfl (by decide) ?_
    refine g_daload cx o (pc' := 520)  2 8 rfl (by decide) ge8 at_519 rfl ?_
    refine g_dastore cx o (pc' := 521) 0 8 rfl (by decide) (Nat.le_of_ble_eq_true rfl) at_520 rfl (fun T o => ?_)
    simp only [List.set_cons_zero, List.set_cons_succ] at o
    refine g_aload cx o (pc' := 523) at_521 rfl rfl rfl ?_
    refine g_bipush cx o (pc' := 525) (9 : Int32) at_523 rfl (by decide) ?_
    refine g_aload cx o (pc' := 527) at_525 rfl rfl rfl ?_
    refine g_bipush cx o (pc' := 529) (9 : Int32) at_527 rfl (by decide) ?_
    refine g_daload cx o (pc' := 530)  2 9 rfl (by decide) ge9 at_529 rfl ?_
    refine g_dastore cx o (pc' := 531) 0 9 rfl (by decide) (Nat.le_of_ble_eq_true rfl) at_530 rfl (fun T o => ?_)
    simp only [List.set_cons_zero, List.set_cons_succ] at o
    refine g_aload cx o (pc' := 533) at_531 rfl rfl rfl ?_
    refine g_bipush cx o (pc' := 535) (10 : Int32) at_533 rfl (by decide) ?_
    refine g_aload cx o (pc' := 537) at_535 rfl rfl rfl ?_
    refine g_bipush cx o (pc' := 539) (10 : Int32) at_537 rfl (by decide) ?_
    refine g_daload cx o (pc' := 540)  2 10 rfl (by decide) ge10 at_539 rfl ?_
    refine g_dastore cx o (pc' := 541) 0 10 rfl (by decide) (Nat.le_of_ble_eq_true rfl) at_540 rfl (fun T o => ?_)
    simp only [List.set_cons_zero, List.set_cons_succ] at o
    refine g_aload cx o (pc' := 543) at_541 rfl rfl rfl ?_
    refine g_bipush cx o (pc' := 545) (11 : Int32) at_543 rfl (by decide) ?_
    refine g_aload cx o (pc' := 547) at_545 rfl rfl rfl ?_
    refine g_bipush cx o (pc' := 549) (11 : Int32) at_547 rfl (by decide) ?_
    refine g_daload cx o (pc' := 550)  2 11 rfl (by decide) ge11 at_549 rfl ?_
    refine g_dastore cx o (pc' := 551) 0 11 rfl (by decide) (Nat.le_of_ble_eq_true rfl) at_550 rfl (fun T o => ?_)
    simp only [List.set_cons_zero, List.set_cons_succ] at o
    refine g_aload cx o (pc' := 553) at_551 rfl rfl rfl ?_
    refine g_iload cx o (pc' := 555) at_553 rfl rfl ?_
    refine g_iload cx o (pc' := 557) at_555 rfl rfl ?_
    refine g_aload cx o (pc' := 559) at_557 rfl rfl rfl ?_
    refine g_iload cx o (pc' := 561) at_559 rfl rfl ?_
    have o := (o.front 2 rfl)
    simp only [List.eraseIdx_cons_zero, List.eraseIdx_cons_succ] at o
    have o := (o.front 2 rfl)
    simp only [List.eraseIdx_cons_zero, List.eraseIdx_cons_succ] at o
    have W0 : oR zx0 0 (FP.ddiv (FP.dmul d0 x0) d0) := P00.div (j := 0) R_d0 (o_nz k_d0) (by simp only [Nat.pow_zero, Int.natCast_one, Int.mul_one]; exact Int.mul_comm _ _) (Nat.le_trans k_x0 (by decide)) (by decide) (by decide)
    have W1 : oR (za10 * zx0) 0 (FP.dmul a10 (FP.ddiv (FP.dmul d0 x0) d0)) := R_a10.mul W0 (Nat.le_trans qP10 (by decide)) (by decide)
    have W2 : oR ((za10 * zx0 + zd1 * zx1) - za10 * zx0) 0 (FP.dsub (FP.dadd (FP.dmul a10 x0) (FP.dmul d1 x1)) (FP.dmul a10 (FP.ddiv (FP.dmul d0 x0) d0))) := S1.sub W1 (Nat.le_trans (o_subn (o_addn qP10 qP11) qP10) (by decide)) (by decide)
    have W3 : oR zx1 0 (FP.ddiv (FP.dsub (FP.dadd (FP.dmul a10 x0) (FP.dmul d1 x1)) (FP.dmul a10 (FP.ddiv (FP.dmul d0 x0) d0))) d1) := W2.div (j := 0) R_d1 (o_nz k_d1) (by simp only [Nat.pow_zero, Int.natCast_one, Int.mul_one]; exact (o_e1 _ _).trans (Int.mul_comm _ _)) (Nat.le_trans k_x1 (by decide)) (by decide) (by decide)
    have W4 : oR (za20 * zx0) 0 (FP.dmul a20 (FP.ddiv (FP.dmul d0 x0) d0)) := R_a20.mul W0 (Nat.le_trans qP20 (by decide)) (by decide)
    have W5 : oR ((za20 * zx0 + za21 * zx1 + zd2 * zx2) - za20 * zx0) 0 (FP.dsub (FP.dadd (FP.dadd (FP.dmul a20 x0) (FP.dmul a21 x1)) (FP.dmul d2 x2)) (FP.dmul a20 (FP.ddiv (FP.dmul d0 x0) d0))) := S2.sub W4 (Nat.le_trans (o_subn (o_addn (o_addn qP20 qP21) qP22) qP20) (by decide)) (by decide)
    have W6 : oR (za21 * zx1) 0 (FP.dmul a21 (FP.ddiv (FP.dsub (FP.dadd (FP.dmul a10 x0) (FP.dmul d1 x1)) (FP.dmul a10 (FP.ddiv (FP.dmul d0 x0) d0))) d1)) := R_a21.mul W3 (Nat.le_trans qP21 (by decide)) (by decide)
    have W7 : oR (((za20 * zx0 + za21 * zx1 + zd2 * zx2) - za20 * zx0) - za21 * zx1) 0 (FP.dsub (FP.dsub (FP.dadd (FP.dadd (FP.dmul a20 x0) (FP.dmul a21 x1)) (FP.dmul d2 x2)) (FP.dmul a20 (FP.ddiv (FP.dmul d0 x0) d0))) (FP.dmul a21 (FP.ddiv (FP.dsub (FP.dadd (FP.dmul a10 x0) (FP.dmul d1 x1)) (FP.dmul a10 (FP.ddiv (FP.dmul d0 x0) d0))) d1))) := W5.sub W6 (Nat.le_trans (o_subn (o_subn (o_addn (o_addn qP20 qP21) qP22) qP20) qP21) (by decide)) (by decide)
    have W8 : oR zx2 0 (FP.ddiv (FP.dsub (FP.dsub (FP.dadd (FP.dadd (FP.dmul a20 x0) (FP.dmul a21 x1)) (FP.dmul d2 x2)) (FP.dmul a20 (FP.ddiv (FP.dmul d0 x0) d0))) (FP.dmul a21 (FP.ddiv (FP.dsub (FP.dadd (FP.dmul a10 x0) (FP.dmul d1 x1)) (FP.dmul a10 (FP.ddiv (FP.dmul d0 x0) d0))) d1))) d2) := W7.div (j := 0) R_d2 (o_nz k_d2) (by simp only [Nat.pow_zero, Int.natCast_one, Int.mul_one]; exact (o_e2 _ _ _).trans (Int.mul_comm _ _)) (Nat.le_trans k_x2 (by decide)) (by decide) (by decide)
    refine g_static cx o (pc' := 564) (y := (⟨"com/example/cachesmith/cachesmith/solver/Cholesky", "forward", "([DII[DI)V"⟩ : MethodName)) (hw _ (List.mem_of_getElem? (i := 14) rfl)) (hw _ (List.mem_of_getElem? (i := 15) rfl)) (hw _ (List.mem_of_getElem? (i := 16) rfl)) (hw _ (List.mem_of_getElem? (i := 17) rfl)) (fo3 l Z a0 hw lr br lv bs O M _ (by rw [bl]; omega) _ _ _ _ _ _ _ _ _ L00 L10 L11 L20 L21 L22 B0 B1 B2 W0.nn W1.nn W2.nn W3.nn W4.nn W5.nn W6.nn W7.nn W8.nn)  rfl pd_5 rfl (by decide) rfl 0 (Nat.le_of_eq rfl) (by decide) (by decide) (by decide) (by decide) at_561 rfl (fun T v L hQ o => ?_)
    obtain ⟨rfl, rfl⟩ := hQ
    simp only [Option.toList_some, Option.toList_none, List.cons_append, List.nil_append]
    have cf : ∀ i, i < 7 → ∃ bv, ((((bs.set (M + 0) (.double (FP.ddiv (FP.dmul d0 x0) d0))).set (M + 1) (.double (FP.ddiv (FP.dsub (FP.dadd (FP.dmul a10 x0) (FP.dmul d1 x1)) (FP.dmul a10 (FP.ddiv (FP.dmul d0 x0) d0))) d1))).set (M + 2) (.double (FP.ddiv (FP.dsub (FP.dsub (FP.dadd (FP.dadd (FP.dmul a20 x0) (FP.dmul a21 x1)) (FP.dmul d2 x2)) (FP.dmul a20 (FP.ddiv (FP.dmul d0 x0) d0))) (FP.dmul a21 (FP.ddiv (FP.dsub (FP.dadd (FP.dmul a10 x0) (FP.dmul d1 x1)) (FP.dmul a10 (FP.ddiv (FP.dmul d0 x0) d0))) d1))) d2))) : List Value)[i]? = some (.double bv) ∧ ((i = M ∧ 0 < 3 ∧ cmpValue (FP.dcmp bv x0) .l = 0) ∨ (i = M + 1 ∧ 1 < 3 ∧ cmpValue (FP.dcmp bv x1) .l = 0) ∨ (i = M + 2 ∧ 2 < 3 ∧ cmpValue (FP.dcmp bv x2) .l = 0) ∨ (¬ (M ≤ i ∧ i < M + 3) ∧ cmpValue (FP.dcmp bv (FP.i2d ((XT.ushr p5 (Int32.ofNat i) &&& (15 : Int32)) - (7 : Int32)))) .l = 0)) := by
      intro i hi
      by_cases q0 : i = M + 0
      · rw [q0]
        exact ⟨_, (o_setne (o_setne (o_setat (by omega) (by simp only [List.length_set, bl]; omega)) (by omega)) (by omega)), Or.inl ⟨rfl, by decide, W0.eq0 R_x0 rfl⟩⟩
      by_cases q1 : i = M + 1
      · rw [q1]
        exact ⟨_, (o_setne (o_setat (by omega) (by simp only [List.length_set, bl]; omega)) (by omega)), Or.inr (Or.inl ⟨rfl, by decide, W3.eq0 R_x1 rfl⟩)⟩
      by_cases q2 : i = M + 2
      · rw [q2]
        exact ⟨_, (o_setat (by omega) (by simp only [List.length_set, bl]; omega)), Or.inr (Or.inr (Or.inl ⟨rfl, by decide, W8.eq0 R_x2 rfl⟩))⟩
      obtain ⟨d, gd, nd, ed⟩ := bo i hi q0 q1 q2
      exact ⟨d, (o_setne (o_setne (o_setne gd (Ne.symm q0)) (Ne.symm q1)) (Ne.symm q2)), Or.inr (Or.inr (Or.inr ⟨by omega, by rw [← ed]; exact dcmpV_self nd _⟩))⟩
    refine g_aload cx o (pc' := 566) at_564 rfl rfl rfl ?_
    refine g_iconst cx o (pc' := 567) (0 : Int32) at_566 rfl rfl ?_
    refine g_daload cx o (pc' := 568)  1 0 rfl (by decide) ge0 at_567 rfl ?_
    refine g_aload cx o (pc' := 570) at_568 rfl rfl rfl ?_
    refine g_iconst cx o (pc' := 571) (0 : Int32) at_570 rfl rfl ?_
    refine g_daload cx o (pc' := 572)  2 0 rfl (by decide) rfl at_571 rfl ?_
    refine g_dcmp cx o (pc' := 573) at_572 rfl ?_
    refine g_if_ne cx o (pc' := 724) (pc2 := 576) at_573 (by decide) (by decide) rfl (fun c573 => absurd (dcmpV_self ne0 _) c573) (fun c573 => ?_)
    refine g_aload cx o (pc' := 578) at_576 rfl rfl rfl ?_
    refine g_iconst cx o (pc' := 579) (1 : Int32) at_578 rfl rfl ?_
    refine g_daload cx o (pc' := 580)  1 1 rfl (by decide) ge1 at_579 rfl ?_
    refine g_aload cx o (pc' := 582) at_580 rfl rfl rfl ?_
    refine g_iconst cx o (pc' := 583) (1 : Int32) at_582 rfl rfl ?_
    refine g_daload cx o (pc' := 584)  2 1 rfl (by decide) rfl at_583 rfl ?_
    refine g_dcmp cx o (pc' := 585) at_584 rfl ?_
    refine g_if_ne cx o (pc' := 724) (pc2 := 588) at_585 (by decide) (by decide) rfl (fun c585 => absurd (dcmpV_self ne1 _) c585) (fun c585 => ?_)
    refine g_aload cx o (pc' := 590) at_588 rfl rfl rfl ?_
    refine g_iconst cx o (pc' := 591) (2 : Int32) at_590 rfl rfl ?_
    refine g_daload cx o (pc' := 592)  1 2 rfl (by decide) ge2 at_591 rfl ?_
    refine g_aload cx o (pc' := 594) at_592 rfl rfl rfl ?_
    refine g_iconst cx o (pc' := 595) (2 : Int32) at_594 rfl rfl ?_
    refine g_daload cx o (pc' := 596)  2 2 rfl (by decide) rfl at_595 rfl ?_
    refine g_dcmp cx o (pc' := 597) at_596 rfl ?_
    refine g_if_ne cx o (pc' := 724) (pc2 := 600) at_597 (by decide) (by decide) rfl (fun c597 => absurd (dcmpV_self ne2 _) c597) (fun c597 => ?_)
    refine g_aload cx o (pc' := 602) at_600 rfl rfl rfl ?_
    refine g_iconst cx o (pc' := 603) (3 : Int32) at_602 rfl rfl ?_
    refine g_daload cx o (pc' := 604)  1 3 rfl (by decide) ge3 at_603 rfl ?_
    refine g_aload cx o (pc' := 606) at_604 rfl rfl rfl ?_
    refine g_iconst cx o (pc' := 607) (3 : Int32) at_606 rfl rfl ?_
    refine g_daload cx o (pc' := 608)  2 3 rfl (by decide) rfl at_607 rfl ?_
    refine g_dcmp cx o (pc' := 609) at_608 rfl ?_
    refine g_if_ne cx o (pc' := 724) (pc2 := 612) at_609 (by decide) (by decide) rfl (fun c609 => absurd (dcmpV_self ne3 _) c609) (fun c609 => ?_)
    refine g_aload cx o (pc' := 614) at_612 rfl rfl rfl ?_
    refine g_iconst cx o (pc' := 615) (4 : Int32) at_614 rfl rfl ?_
    refine g_daload cx o (pc' := 616)  1 4 rfl (by decide) ge4 at_615 rfl ?_
    refine g_aload cx o (pc' := 618) at_616 rfl rfl rfl ?_
    refine g_iconst cx o (pc' := 619) (4 : Int32) at_618 rfl rfl ?_
    refine g_daload cx o (pc' := 620)  2 4 rfl (by decide) rfl at_619 rfl ?_
    refine g_dcmp cx o (pc' := 621) at_620 rfl ?_
    refine g_if_ne cx o (pc' := 724) (pc2 := 624) at_621 (by decide) (by decide) rfl (fun c621 => absurd (dcmpV_self ne4 _) c621) (fun c621 => ?_)
    refine g_aload cx o (pc' := 626) at_624 rfl rfl rfl ?_
    refine g_iconst cx o (pc' := 627) (5 : Int32) at_626 rfl rfl ?_
    refine g_daload cx o (pc' := 628)  1 5 rfl (by decide) ge5 at_627 rfl ?_
    refine g_aload cx o (pc' := 630) at_628 rfl rfl rfl ?_
    refine g_iconst cx o (pc' := 631) (5 : Int32) at_630 rfl rfl ?_
    refine g_daload cx o (pc' := 632)  2 5 rfl (by decide) rfl at_631 rfl ?_
    refine g_dcmp cx o (pc' := 633) at_632 rfl ?_
    refine g_if_ne cx o (pc' := 724) (pc2 := 636) at_633 (by decide) (by decide) rfl (fun c633 => absurd (dcmpV_self ne5 _) c633) (fun c633 => ?_)
    refine g_aload cx o (pc' := 638) at_636 rfl rfl rfl ?_
    refine g_bipush cx o (pc' := 640) (6 : Int32) at_638 rfl (by decide) ?_
    refine g_daload cx o (pc' := 641)  1 6 rfl (by decide) ge6 at_640 rfl ?_
    refine g_aload cx o (pc' := 643) at_641 rfl rfl rfl ?_
    refine g_bipush cx o (pc' := 645) (6 : Int32) at_643 rfl (by decide) ?_
    refine g_daload cx o (pc' := 646)  2 6 rfl (by decide) rfl at_645 rfl ?_
    refine g_dcmp cx o (pc' := 647) at_646 rfl ?_
    refine g_if_ne cx o (pc' := 724) (pc2 := 650) at_647 (by decide) (by decide) rfl (fun c647 => absurd (dcmpV_self ne6 _) c647) (fun c647 => ?_)
    refine g_aload cx o (pc' := 652) at_650 rfl rfl rfl ?_
    refine g_bipush cx o (pc' := 654) (7 : Int32) at_652 rfl (by decide) ?_
    refine g_daload cx o (pc' := 655)  1 7 rfl (by decide) ge7 at_654 rfl ?_
    refine g_aload cx o (pc' := 657) at_655 rfl rfl rfl ?_
    refine g_bipush cx o (pc' := 659) (7 : Int32) at_657 rfl (by decide) ?_
    refine g_daload cx o (pc' := 660)  2 7 rfl (by decide) rfl at_659 rfl ?_
    refine g_dcmp cx o (pc' := 661) at_660 rfl ?_
    refine g_if_ne cx o (pc' := 724) (pc2 := 664) at_661 (by decide) (by decide) rfl (fun c661 => absurd (dcmpV_self ne7 _) c661) (fun c661 => ?_)
    refine g_aload cx o (pc' := 666) at_664 rfl rfl rfl ?_
    refine g_bipush cx o (pc' := 668) (8 : Int32) at_666 rfl (by decide) ?_
    refine g_daload cx o (pc' := 669)  1 8 rfl (by decide) ge8 at_668 rfl ?_
    refine g_aload cx o (pc' := 671) at_669 rfl rfl rfl ?_
    refine g_bipush cx o (pc' := 673) (8 : Int32) at_671 rfl (by decide) ?_
    refine g_daload cx o (pc' := 674)  2 8 rfl (by decide) rfl at_673 rfl ?_
    refine g_dcmp cx o (pc' := 675) at_674 rfl ?_
    refine g_if_ne cx o (pc' := 724) (pc2 := 678) at_675 (by decide) (by decide) rfl (fun c675 => absurd (dcmpV_self ne8 _) c675) (fun c675 => ?_)
    refine g_aload cx o (pc' := 680) at_678 rfl rfl rfl ?_
    refine g_bipush cx o (pc' := 682) (9 : Int32) at_680 rfl (by decide) ?_
    refine g_daload cx o (pc' := 683)  1 9 rfl (by decide) ge9 at_682 rfl ?_
    refine g_aload cx o (pc' := 685) at_683 rfl rfl rfl ?_
    refine g_bipush cx o (pc' := 687) (9 : Int32) at_685 rfl (by decide) ?_
    refine g_daload cx o (pc' := 688)  2 9 rfl (by decide) rfl at_687 rfl ?_
    refine g_dcmp cx o (pc' := 689) at_688 rfl ?_
    refine g_if_ne cx o (pc' := 724) (pc2 := 692) at_689 (by decide) (by decide) rfl (fun c689 => absurd (dcmpV_self ne9 _) c689) (fun c689 => ?_)
    refine g_aload cx o (pc' := 694) at_692 rfl rfl rfl ?_
    refine g_bipush cx o (pc' := 696) (10 : Int32) at_694 rfl (by decide) ?_
    refine g_daload cx o (pc' := 697)  1 10 rfl (by decide) ge10 at_696 rfl ?_
    refine g_aload cx o (pc' := 699) at_697 rfl rfl rfl ?_
    refine g_bipush cx o (pc' := 701) (10 : Int32) at_699 rfl (by decide) ?_
    refine g_daload cx o (pc' := 702)  2 10 rfl (by decide) rfl at_701 rfl ?_
    refine g_dcmp cx o (pc' := 703) at_702 rfl ?_
    refine g_if_ne cx o (pc' := 724) (pc2 := 706) at_703 (by decide) (by decide) rfl (fun c703 => absurd (dcmpV_self ne10 _) c703) (fun c703 => ?_)
    refine g_aload cx o (pc' := 708) at_706 rfl rfl rfl ?_
    refine g_bipush cx o (pc' := 710) (11 : Int32) at_708 rfl (by decide) ?_
    refine g_daload cx o (pc' := 711)  1 11 rfl (by decide) ge11 at_710 rfl ?_
    refine g_aload cx o (pc' := 713) at_711 rfl rfl rfl ?_
    refine g_bipush cx o (pc' := 715) (11 : Int32) at_713 rfl (by decide) ?_
    refine g_daload cx o (pc' := 716)  2 11 rfl (by decide) rfl at_715 rfl ?_
    refine g_dcmp cx o (pc' := 717) at_716 rfl ?_
    refine g_if_ne cx o (pc' := 724) (pc2 := 720) at_717 (by decide) (by decide) rfl (fun c717 => absurd (dcmpV_self ne11 _) c717) (fun c717 => ?_)
    refine g_iconst cx o (pc' := 721) (1 : Int32) at_720 rfl rfl ?_
    refine g_goto cx o (pc' := 725) at_721 (by decide) (by decide) ?_
    refine g_istore cx o (pc' := 727) (l' := #[.val (.int p0), .val (.int p1), .val (.int p2), .val (.int p3), .val (.int p4), .val (.int p5), .val (.int (3 : Int32)), .val (.int (Int32.ofNat O)), .val (.int (Int32.ofNat M)), .val (.ref lr), .val (.ref br), .val (.double d0), .second, .val (.double d1), .second, .val (.double d2), .second, .val (.double a10), .second, .val (.double a20), .second, .val (.double a21), .second, .val (.double x0), .second, .val (.double x1), .second, .val (.double x2), .second, .val (.ref lc), .val (.int (1 : Int32))]) at_725 rfl rfl ?_
    refine g_iload cx o (pc' := 729) at_727 rfl rfl ?_
    refine g_if_eq cx o (pc' := 884) (pc2 := 732) at_729 (by decide) (by decide) rfl (fun c729 => absurd c729 (by decide)) (fun c729 => ?_)
    refine g_aload cx o (pc' := 734) at_732 rfl rfl rfl ?_
    refine g_iconst cx o (pc' := 735) (0 : Int32) at_734 rfl rfl ?_
    refine g_iload cx o (pc' := 737) at_735 rfl rfl ?_
    refine g_iload cx o (pc' := 739) at_737 rfl rfl ?_
    refine g_dload cx o (pc' := 741) at_739 rfl rfl ?_
    refine g_dload cx o (pc' := 743) at_741 rfl rfl ?_
    refine g_dload cx o (pc' := 745) at_743 rfl rfl ?_
    refine g_iload cx o (pc' := 747) at_745 rfl rfl ?_
    obtain ⟨bv0, g0, h0⟩ := cf 0 (by decide)
    refine g_static cx o (pc' := 750) (y := (⟨"com/example/cachesmith/cachesmith/solver/CholeskyForwardPinLaw", "okB", "([DIIIDDDI)Z"⟩ : MethodName)) (hw _ (List.mem_of_getElem? (i := 18) rfl)) (hw _ (List.mem_of_getElem? (i := 19) rfl)) (hw _ (List.mem_of_getElem? (i := 3) rfl)) (hw _ (List.mem_of_getElem? (i := 20) rfl)) (rmOk l Z a0 hw br _ 0 M 3 (by decide) hM (by decide) x0 x1 x2 p5 bv0 _ 0 rfl g0 h0)  rfl pd_6 rfl (by decide) rfl 0 (Nat.le_of_eq rfl) (by decide) (by decide) (by decide) (by decide) at_747 rfl (fun T v L hQ o => ?_)
    obtain ⟨rfl, rfl⟩ := hQ
    simp only [Option.toList_some, Option.toList_none, List.cons_append, List.nil_append]
    refine g_if_eq cx o (pc' := 884) (pc2 := 753) at_750 (by decide) (by decide) rfl (fun c750 => absurd c750 (by decide)) (fun c750 => ?_)
    refine g_aload cx o (pc' := 755) at_753 rfl rfl rfl ?_
    refine g_iconst cx o (pc' := 756) (1 : Int32) at_755 rfl rfl ?_
    refine g_iload cx o (pc' := 758) at_756 rfl rfl ?_
    refine g_iload cx o (pc' := 760) at_758 rfl rfl ?_
    refine g_dload cx o (pc' := 762) at_760 rfl rfl ?_
    refine g_dload cx o (pc' := 764) at_762 rfl rfl ?_
    refine g_dload cx o (pc' := 766) at_764 rfl rfl ?_
    refine g_iload cx o (pc' := 768) at_766 rfl rfl ?_
    obtain ⟨bv1, g1, h1⟩ := cf 1 (by decide)
    refine g_static cx o (pc' := 771) (y := (⟨"com/example/cachesmith/cachesmith/solver/CholeskyForwardPinLaw", "okB", "([DIIIDDDI)Z"⟩ : MethodName)) (hw _ (List.mem_of_getElem? (i := 18) rfl)) (hw _ (List.mem_of_getElem? (i := 19) rfl)) (hw _ (List.mem_of_getElem? (i := 3) rfl)) (hw _ (List.mem_of_getElem? (i := 20) rfl)) (rmOk l Z a0 hw br _ 1 M 3 (by decide) hM (by decide) x0 x1 x2 p5 bv1 _ 0 rfl g1 h1)  rfl pd_6 rfl (by decide) rfl 0 (Nat.le_of_eq rfl) (by decide) (by decide) (by decide) (by decide) at_768 rfl (fun T v L hQ o => ?_)
    obtain ⟨rfl, rfl⟩ := hQ
    simp only [Option.toList_some, Option.toList_none, List.cons_append, List.nil_append]
    refine g_if_eq cx o (pc' := 884) (pc2 := 774) at_771 (by decide) (by decide) rfl (fun c771 => absurd c771 (by decide)) (fun c771 => ?_)
    refine g_aload cx o (pc' := 776) at_774 rfl rfl rfl ?_
    refine g_iconst cx o (pc' := 777) (2 : Int32) at_776 rfl rfl ?_
    refine g_iload cx o (pc' := 779) at_777 rfl rfl ?_
    refine g_iload cx o (pc' := 781) at_779 rfl rfl ?_
    refine g_dload cx o (pc' := 783) at_781 rfl rfl ?_
    refine g_dload cx o (pc' := 785) at_783 rfl rfl ?_
    refine g_dload cx o (pc' := 787) at_785 rfl rfl ?_
    refine g_iload cx o (pc' := 789) at_787 rfl rfl ?_
    obtain ⟨bv2, g2, h2⟩ := cf 2 (by decide)
    refine g_static cx o (pc' := 792) (y := (⟨"com/example/cachesmith/cachesmith/solver/CholeskyForwardPinLaw", "okB", "([DIIIDDDI)Z"⟩ : MethodName)) (hw _ (List.mem_of_getElem? (i := 18) rfl)) (hw _ (List.mem_of_getElem? (i := 19) rfl)) (hw _ (List.mem_of_getElem? (i := 3) rfl)) (hw _ (List.mem_of_getElem? (i := 20) rfl)) (rmOk l Z a0 hw br _ 2 M 3 (by decide) hM (by decide) x0 x1 x2 p5 bv2 _ 0 rfl g2 h2)  rfl pd_6 rfl (by decide) rfl 0 (Nat.le_of_eq rfl) (by decide) (by decide) (by decide) (by decide) at_789 rfl (fun T v L hQ o => ?_)
    obtain ⟨rfl, rfl⟩ := hQ
    simp only [Option.toList_some, Option.toList_none, List.cons_append, List.nil_append]
    refine g_if_eq cx o (pc' := 884) (pc2 := 795) at_792 (by decide) (by decide) rfl (fun c792 => absurd c792 (by decide)) (fun c792 => ?_)
    refine g_aload cx o (pc' := 797) at_795 rfl rfl rfl ?_
    refine g_iconst cx o (pc' := 798) (3 : Int32) at_797 rfl rfl ?_
    refine g_iload cx o (pc' := 800) at_798 rfl rfl ?_
    refine g_iload cx o (pc' := 802) at_800 rfl rfl ?_
    refine g_dload cx o (pc' := 804) at_802 rfl rfl ?_
    refine g_dload cx o (pc' := 806) at_804 rfl rfl ?_
    refine g_dload cx o (pc' := 808) at_806 rfl rfl ?_
    refine g_iload cx o (pc' := 810) at_808 rfl rfl ?_
    obtain ⟨bv3, g3, h3⟩ := cf 3 (by decide)
    refine g_static cx o (pc' := 813) (y := (⟨"com/example/cachesmith/cachesmith/solver/CholeskyForwardPinLaw", "okB", "([DIIIDDDI)Z"⟩ : MethodName)) (hw _ (List.mem_of_getElem? (i := 18) rfl)) (hw _ (List.mem_of_getElem? (i := 19) rfl)) (hw _ (List.mem_of_getElem? (i := 3) rfl)) (hw _ (List.mem_of_getElem? (i := 20) rfl)) (rmOk l Z a0 hw br _ 3 M 3 (by decide) hM (by decide) x0 x1 x2 p5 bv3 _ 0 rfl g3 h3)  rfl pd_6 rfl (by decide) rfl 0 (Nat.le_of_eq rfl) (by decide) (by decide) (by decide) (by decide) at_810 rfl (fun T v L hQ o => ?_)
    obtain ⟨rfl, rfl⟩ := hQ
    simp only [Option.toList_some, Option.toList_none, List.cons_append, List.nil_append]
    refine g_if_eq cx o (pc' := 884) (pc2 := 816) at_813 (by decide) (by decide) rfl (fun c813 => absurd c813 (by decide)) (fun c813 => ?_)
    refine g_aload cx o (pc' := 818) at_816 rfl rfl rfl ?_
    refine g_iconst cx o (pc' := 819) (4 : Int32) at_818 rfl rfl ?_
    refine g_iload cx o (pc' := 821) at_819 rfl rfl ?_
    refine g_iload cx o (pc' := 823) at_821 rfl rfl ?_
    refine g_dload cx o (pc' := 825) at_823 rfl rfl ?_
    refine g_dload cx o (pc' := 827) at_825 rfl rfl ?_
    refine g_dload cx o (pc' := 829) at_827 rfl rfl ?_
    refine g_iload cx o (pc' := 831) at_829 rfl rfl ?_
    obtain ⟨bv4, g4, h4⟩ := cf 4 (by decide)
    refine g_static cx o (pc' := 834) (y := (⟨"com/example/cachesmith/cachesmith/solver/CholeskyForwardPinLaw", "okB", "([DIIIDDDI)Z"⟩ : MethodName)) (hw _ (List.mem_of_getElem? (i := 18) rfl)) (hw _ (List.mem_of_getElem? (i := 19) rfl)) (hw _ (List.mem_of_getElem? (i := 3) rfl)) (hw _ (List.mem_of_getElem? (i := 20) rfl)) (rmOk l Z a0 hw br _ 4 M 3 (by decide) hM (by decide) x0 x1 x2 p5 bv4 _ 0 rfl g4 h4)  rfl pd_6 rfl (by decide) rfl 0 (Nat.le_of_eq rfl) (by decide) (by decide) (by decide) (by decide) at_831 rfl (fun T v L hQ o => ?_)
    obtain ⟨rfl, rfl⟩ := hQ
    simp only [Option.toList_some, Option.toList_none, List.cons_append, List.nil_append]
    refine g_if_eq cx o (pc' := 884) (pc2 := 837) at_834 (by decide) (by decide) rfl (fun c834 => absurd c834 (by decide)) (fun c834 => ?_)
    refine g_aload cx o (pc' := 839) at_837 rfl rfl rfl ?_
    refine g_iconst cx o (pc' := 840) (5 : Int32) at_839 rfl rfl ?_
    refine g_iload cx o (pc' := 842) at_840 rfl rfl ?_
    refine g_iload cx o (pc' := 844) at_842 rfl rfl ?_
    refine g_dload cx o (pc' := 846) at_844 rfl rfl ?_
    refine g_dload cx o (pc' := 848) at_846 rfl rfl ?_
    refine g_dload cx o (pc' := 850) at_848 rfl rfl ?_
    refine g_iload cx o (pc' := 852) at_850 rfl rfl ?_
    obtain ⟨bv5, g5, h5⟩ := cf 5 (by decide)
    refine g_static cx o (pc' := 855) (y := (⟨"com/example/cachesmith/cachesmith/solver/CholeskyForwardPinLaw", "okB", "([DIIIDDDI)Z"⟩ : MethodName)) (hw _ (List.mem_of_getElem? (i := 18) rfl)) (hw _ (List.mem_of_getElem? (i := 19) rfl)) (hw _ (List.mem_of_getElem? (i := 3) rfl)) (hw _ (List.mem_of_getElem? (i := 20) rfl)) (rmOk l Z a0 hw br _ 5 M 3 (by decide) hM (by decide) x0 x1 x2 p5 bv5 _ 0 rfl g5 h5)  rfl pd_6 rfl (by decide) rfl 0 (Nat.le_of_eq rfl) (by decide) (by decide) (by decide) (by decide) at_852 rfl (fun T v L hQ o => ?_)
    obtain ⟨rfl, rfl⟩ := hQ
    simp only [Option.toList_some, Option.toList_none, List.cons_append, List.nil_append]
    refine g_if_eq cx o (pc' := 884) (pc2 := 858) at_855 (by decide) (by decide) rfl (fun c855 => absurd c855 (by decide)) (fun c855 => ?_)
    refine g_aload cx o (pc' := 860) at_858 rfl rfl rfl ?_
    refine g_bipush cx o (pc' := 862) (6 : Int32) at_860 rfl (by decide) ?_
    refine g_iload cx o (pc' := 864) at_862 rfl rfl ?_
    refine g_iload cx o (pc' := 866) at_864 rfl rfl ?_
    refine g_dload cx o (pc' := 868) at_866 rfl rfl ?_
    refine g_dload cx o (pc' := 870) at_868 rfl rfl ?_
    refine g_dload cx o (pc' := 872) at_870 rfl rfl ?_
    refine g_iload cx o (pc' := 874) at_872 rfl rfl ?_
    obtain ⟨bv6, g6, h6⟩ := cf 6 (by decide)
    refine g_static cx o (pc' := 877) (y := (⟨"com/example/cachesmith/cachesmith/solver/CholeskyForwardPinLaw", "okB", "([DIIIDDDI)Z"⟩ : MethodName)) (hw _ (List.mem_of_getElem? (i := 18) rfl)) (hw _ (List.mem_of_getElem? (i := 19) rfl)) (hw _ (List.mem_of_getElem? (i := 3) rfl)) (hw _ (List.mem_of_getElem? (i := 20) rfl)) (rmOk l Z a0 hw br _ 6 M 3 (by decide) hM (by decide) x0 x1 x2 p5 bv6 _ 0 rfl g6 h6)  rfl pd_6 rfl (by decide) rfl 0 (Nat.le_of_eq rfl) (by decide) (by decide) (by decide) (by decide) at_874 rfl (fun T v L hQ o => ?_)
    obtain ⟨rfl, rfl⟩ := hQ
    simp only [Option.toList_some, Option.toList_none, List.cons_append, List.nil_append]
    refine g_if_eq cx o (pc' := 884) (pc2 := 880) at_877 (by decide) (by decide) rfl (fun c877 => absurd c877 (by decide)) (fun c877 => ?_)
    refine g_iconst cx o (pc' := 881) (1 : Int32) at_880 rfl rfl ?_
    refine g_goto cx o (pc' := 885) at_881 (by decide) (by decide) ?_
    exact g_ireturnZ cx o at_885 (by decide) (by decide) (by decide) rfl
set_option maxHeartbeats 40000000 in
theorem comes_1 {Post : Tables → Env → Array Value → State → Outcome → State → Prop} (hpost : ∀ tb e args s v u, (limb_1_1.after args s (.returned v) u = true ∧ limb_1_2.after args s (.returned v) u = true ∧ True) → FrameEnd s (.returned v) u (Jvm.fieldLocs frame_1_writes args s ++ Jvm.arrayLocs frame_1_arrays args s ++ Jvm.staticLocs frame_1_statics s) 16 128 → Post tb e args s (.returned v) u) :
    ArmFor flags0 classFile x code maxLocals ret World_1 tables_1 room_1 Calls_1 rest_1 Pre_1 Post := by
  intro l hfl _ _ p e ha hc hk s m args below hf hA hF happ hP
  obtain ⟨hcalls, hrest, hpre⟩ := hP
  obtain ⟨-, -, -, hnamed, -, -, -, hat⟩ := (Spec.applies_iff hf).mp happ
  obtain ⟨hg, hn⟩ := and_e (Cond.before_iff.mp (show (Jvm.Cond.and given_1 narrow_1).before args s = true from hpre))
  obtain ⟨hg0, hg⟩ := and_e hg
  obtain ⟨w0, w1, w2, w3, w4, w5, rfl⟩ : ∃ w0 w1 w2 w3 w4 w5 : Value, args = #[w0, w1, w2, w3, w4, w5] := by
    have hs : args.size = 6 := by simpa [Cond.value, given_1] using hg0
    obtain ⟨L⟩ := args
    match L, hs with
    | [w0, w1, w2, w3, w4, w5], _ => exact ⟨w0, w1, w2, w3, w4, w5, rfl⟩
  have hw := fun d (hd : d ∈ tables_1) => atoms_spec (ws := Jvm.Cond.code x code maxLocals ret :: tables_1) hat d (List.mem_cons_of_mem _ hd)
  have hfit : Fit s := fun {y c} hc i hi => by
    obtain ⟨ha, rfl⟩ := Array.getElem?_eq_some_iff.mp hc
    have q := List.all_eq_true.mp ((Array.all_eq_true_iff_forall_mem.mp hF) _ (Array.getElem_mem ha)) i (List.mem_range.mpr hi)
    simpa [Array.getElem?_eq_getElem hi] using q
  obtain ⟨g0, hg⟩ := and_e hg
  obtain ⟨p0, e0⟩ := is_v g0
  obtain rfl : w0 = (.int p0) := Option.some.inj e0
  obtain ⟨g1, hg⟩ := and_e hg
  obtain ⟨p1, e1⟩ := is_v g1
  obtain rfl : w1 = (.int p1) := Option.some.inj e1
  obtain ⟨g2, hg⟩ := and_e hg
  obtain ⟨p2, e2⟩ := is_v g2
  obtain rfl : w2 = (.int p2) := Option.some.inj e2
  obtain ⟨g3, hg⟩ := and_e hg
  obtain ⟨p3, e3⟩ := is_v g3
  obtain rfl : w3 = (.int p3) := Option.some.inj e3
  obtain ⟨g4, hg⟩ := and_e hg
  obtain ⟨p4, e4⟩ := is_v g4
  obtain rfl : w4 = (.int p4) := Option.some.inj e4
  have g5 := hg
  obtain ⟨p5, e5⟩ := is_v g5
  obtain rfl : w5 = (.int p5) := Option.some.inj e5
  obtain ⟨n, o, h1, h2, h3, _, L, rfl, ⟨N, L', -, rfl⟩, hq⟩ := rm0 l s _ hw p0 p1 p2 p3 p4 p5 tables_1 s.heap ⟨⟨Nat.le_refl _, fun _ _ q => q⟩, List.nodup_nil, fun _ q => nomatch q⟩ p e ha hc hk s m _ below hf ((Spec.applies_iff_loose hf).mp happ).1 ⟨rfl, State.Warmed39.refl s, rfl⟩ trivial
  refine ⟨n, _, h1, h2, h3, hpost _ _ _ _ _ _ ⟨Cond.after_iff.mpr rfl, Cond.after_iff.mpr (eq_i res_at (Term.int_eval (1)) rfl), trivial⟩ ⟨hq.1, hq.2.1, (hq.2.2.sift fun y hy => Or.inr (N y hy)).mono (by decide) (by decide)⟩⟩
theorem main_1_1 : Claimed_1_1 := comes_1 fun _ _ _ _ _ _ h hF => ⟨h.1, hF⟩
theorem main_1_2 : Claimed_1_2 := comes_1 fun _ _ _ _ _ _ h hF => ⟨h.2.1, hF⟩
end Jvm.Pilot.@@N@@
namespace Jvm.Pilot.@@N@@
open Jvm Jvm.ClassFile Sem Op Lib Jvm.Free Jvm.Stand Jvm.Pilot.@@N@@.Jvm.D
/-! MADE BY PROGRAM (witnessworld.py) out of the Statement's table words and the real class files: 11 classes; the members and pool entries that the words name. The judged class is class 1, her method 6. -/
namespace start1
open Jvm.ClassFile
def u (s : String) : CpInfo := .utf8 (stringToUtf16 s)
/-- a pool by its gaps: so many unusable entries, then the entry; so many at the end -/
def gap : Nat → List CpInfo → List CpInfo
  | 0, r => r
  | n + 1, r => .unusable :: gap n r
def poolList (es : List (Nat × CpInfo)) (last : Nat) : List CpInfo := es.foldr (fun e r => gap e.1 (e.2 :: r)) (gap last [])
def pool (es : List (Nat × CpInfo)) (last : Nat) : Array CpInfo := ⟨poolList es last⟩
def fileOf (pool : Array CpInfo) (this : Nat) (attrs : Array Attribute := #[]) (ms : Array MethodInfo := #[]) (fl : Nat := 33) (sup : Nat := 0) (ifs : Array Nat := #[]) (fds : Array FieldInfo := #[]) : ClassFile where
  minorVersion := 0
  majorVersion := 65
  constantPool := pool
  accessFlags := fl
  thisClass := this
  superClass := sup
  interfaces := ifs
  fields := fds
  methods := ms
  attributes := attrs
def plain (name : String) (sup : Option ClassId) : Class where
  name := name
  kind := .ordinary
  loader := none
  accessFlags := 33
  super := sup
  interfaces := #[]
  cf := none
  fields := #[]
  methods := #[]
  instanceTypes := #[]
  staticTypes := #[]
  resolved := #[]
  callSites := []
  init := .initialized
  statics := none
  mirror := none

def pool0 : Array CpInfo := pool [(5, u "<init>"), (0, u "()V"), (1, .class_ 10), (1, u "java/lang/Object")] 113

def k0m0 : Method := { name := "<init>", desc := "()V", sig := { parameters := [], returnType := none }, accessFlags := 1, code := none }
/-- java/lang/Object -/
def k0 : Class := { plain "java/lang/Object" none with
  accessFlags := 33
  interfaces := #[]
  cf := some (fileOf pool0 8 #[] #[{ accessFlags := 1, nameIndex := 5, descriptorIndex := 6, attributes := #[] }] 33 0 #[] #[])
  fields := #[]
  methods := #[k0m0]
  instanceTypes := #[]
  staticTypes := #[]
  resolved := Array.replicate 124 none
  statics := none }

def pool1 : Array CpInfo := pool [(2, .class_ 4), (1, u "java/lang/Object"), (0, u "<init>"), (0, u "()V"), (0, .methodref 8 9), (0, .class_ 10), (0, .nameAndType 11 12), (0, u "com/example/cachesmith/cachesmith/solver/CholeskyForwardPinLaw"), (0, u "g"), (0, u "(II)D"), (0, .methodref 8 14), (0, .nameAndType 15 12), (0, u "diag"), (0, .methodref 8 17), (0, .nameAndType 18 12), (0, u "low"), (0, .methodref 8 20), (0, .nameAndType 21 12), (0, u "xv"), (0, .methodref 23 24), (0, .class_ 25), (0, .nameAndType 26 27), (0, u "com/example/cachesmith/cachesmith/solver/Cholesky"), (0, u "forward"), (0, u "([DII[DI)V"), (0, .methodref 8 29), (0, .nameAndType 30 31), (0, u "okB"), (0, u "([DIIIDDDI)Z"), (3, u "law"), (0, u "(IIIIII)Z")] 4

def k1m0 : Method := { name := "<init>", desc := "()V", sig := { parameters := [], returnType := none }, accessFlags := 2, code := none }
def k1c1 : Code := { maxStack := 2, maxLocals := 2, code := method_2_code, exceptionTable := #[], attributes := #[] }
def k1m1 : Method := { name := "g", desc := "(II)D", sig := { parameters := [.int, .int], returnType := some .double }, accessFlags := 10, code := some k1c1 }
def k1c2 : Code := { maxStack := 3, maxLocals := 3, code := method_3_code, exceptionTable := #[], attributes := #[] }
def k1m2 : Method := { name := "diag", desc := "(II)D", sig := { parameters := [.int, .int], returnType := some .double }, accessFlags := 10, code := some k1c2 }
def k1c3 : Code := { maxStack := 3, maxLocals := 2, code := method_4_code, exceptionTable := #[], attributes := #[] }
def k1m3 : Method := { name := "low", desc := "(II)D", sig := { parameters := [.int, .int], returnType := some .double }, accessFlags := 10, code := some k1c3 }
def k1c4 : Code := { maxStack := 3, maxLocals := 2, code := method_5_code, exceptionTable := #[], attributes := #[] }
def k1m4 : Method := { name := "xv", desc := "(II)D", sig := { parameters := [.int, .int], returnType := some .double }, accessFlags := 10, code := some k1c4 }
def k1c5 : Code := { maxStack := 4, maxLocals := 14, code := method_6_code, exceptionTable := #[], attributes := #[] }
def k1m5 : Method := { name := "okB", desc := "([DIIIDDDI)Z", sig := { parameters := [(.array .double), .int, .int, .int, .double, .double, .double, .int], returnType := some .boolean }, accessFlags := 10, code := some k1c5 }
def k1c6 : Code := { maxStack := 11, maxLocals := 31, code := code, exceptionTable := #[], attributes := #[] }
def k1m6 : Method := { name := "law", desc := "(IIIIII)Z", sig := { parameters := [.int, .int, .int, .int, .int, .int], returnType := some .boolean }, accessFlags := 9, code := some k1c6 }
/-- com/example/cachesmith/cachesmith/solver/CholeskyForwardPinLaw -/
def k1 : Class := { plain "com/example/cachesmith/cachesmith/solver/CholeskyForwardPinLaw" (some 0) with
  accessFlags := 49
  interfaces := #[]
  cf := some (fileOf pool1 8 #[] #[{ accessFlags := 2, nameIndex := 5, descriptorIndex := 6, attributes := #[] }, { accessFlags := 10, nameIndex := 11, descriptorIndex := 12, attributes := #[] }, { accessFlags := 10, nameIndex := 15, descriptorIndex := 12, attributes := #[] }, { accessFlags := 10, nameIndex := 18, descriptorIndex := 12, attributes := #[] }, { accessFlags := 10, nameIndex := 21, descriptorIndex := 12, attributes := #[] }, { accessFlags := 10, nameIndex := 30, descriptorIndex := 31, attributes := #[] }, { accessFlags := 9, nameIndex := 35, descriptorIndex := 36, attributes := #[] }] 49 2 #[] #[])
  fields := #[]
  methods := #[k1m0, k1m1, k1m2, k1m3, k1m4, k1m5, k1m6]
  instanceTypes := #[]
  staticTypes := #[]
  resolved := Array.replicate 41 none
  statics := none }

def pool2 : Array CpInfo := pool [(2, .class_ 4), (1, u "java/lang/Object"), (0, u "<init>"), (0, u "()V"), (0, .class_ 8), (0, u "com/example/cachesmith/cachesmith/solver/Cholesky"), (13, u "TINY_PIVOT"), (0, u "D"), (1, u "HUGE_PIVOT"), (7, u "forward"), (0, u "([DII[DI)V")] 3

def k2m0 : Method := { name := "<init>", desc := "()V", sig := { parameters := [], returnType := none }, accessFlags := 2, code := none }
def k2c1 : Code := { maxStack := 7, maxLocals := 10, code := prog_32_method_3_code, exceptionTable := #[], attributes := #[] }
def k2m1 : Method := { name := "forward", desc := "([DII[DI)V", sig := { parameters := [(.array .double), .int, .int, (.array .double), .int], returnType := none }, accessFlags := 8, code := some k2c1 }
/-- com/example/cachesmith/cachesmith/solver/Cholesky -/
def k2 : Class := { plain "com/example/cachesmith/cachesmith/solver/Cholesky" (some 0) with
  accessFlags := 48
  interfaces := #[]
  cf := some (fileOf pool2 7 #[] #[{ accessFlags := 2, nameIndex := 5, descriptorIndex := 6, attributes := #[] }, { accessFlags := 8, nameIndex := 33, descriptorIndex := 34, attributes := #[] }] 48 2 #[] #[{ accessFlags := 26, nameIndex := 22, descriptorIndex := 23, attributes := #[] }, { accessFlags := 26, nameIndex := 25, descriptorIndex := 23, attributes := #[] }])
  fields := #[{ name := "TINY_PIVOT", type := .double, accessFlags := 26, slot := 0, constantValue := 0 }, { name := "HUGE_PIVOT", type := .double, accessFlags := 26, slot := 1, constantValue := 0 }]
  methods := #[k2m0, k2m1]
  instanceTypes := #[]
  staticTypes := #[.double, .double]
  resolved := Array.replicate 38 none
  statics := none }

def pool3 : Array CpInfo := pool [(1, u "java/lang/Cloneable"), (0, .class_ 1), (0, u "java/lang/Object"), (0, .class_ 3)] 3

/-- java/lang/Cloneable -/
def k3 : Class := { plain "java/lang/Cloneable" (some 0) with
  accessFlags := 1537
  interfaces := #[]
  cf := some (fileOf pool3 2 #[] #[] 1537 4 #[] #[])
  fields := #[]
  methods := #[]
  instanceTypes := #[]
  staticTypes := #[]
  resolved := Array.replicate 8 none
  statics := none }

def pool4 : Array CpInfo := pool [(1, u "java/io/Serializable"), (0, .class_ 1), (0, u "java/lang/Object"), (0, .class_ 3)] 3

/-- java/io/Serializable -/
def k4 : Class := { plain "java/io/Serializable" (some 0) with
  accessFlags := 1537
  interfaces := #[]
  cf := some (fileOf pool4 2 #[] #[] 1537 4 #[] #[])
  fields := #[]
  methods := #[]
  instanceTypes := #[]
  staticTypes := #[]
  resolved := Array.replicate 8 none
  statics := none }

/-- the primitive byte -/
def k5 : Class := { plain "byte" none with kind := .primitive 'B', accessFlags := 0x411 }
/-- [B -/
def k6 : Class := { plain "[B" (some 0) with kind := .array 5 .byte, interfaces := #[3, 4], accessFlags := 1041 }

/-- the primitive double -/
def k7 : Class := { plain "double" none with kind := .primitive 'D', accessFlags := 0x411 }
/-- [D -/
def k8 : Class := { plain "[D" (some 0) with kind := .array 7 .double, interfaces := #[3, 4], accessFlags := 1041 }

/-- the primitive int -/
def k9 : Class := { plain "int" none with kind := .primitive 'I', accessFlags := 0x411 }
/-- [I -/
def k10 : Class := { plain "[I" (some 0) with kind := .array 9 .int, interfaces := #[3, 4], accessFlags := 1041 }

def heap : Heap := #[]
def classes : Array Class := #[k0, k1, k2, k3, k4, k5, k6, k7, k8, k9, k10]
def interned : List (Array UInt16 × Addr) := []
def slotsUsed : Nat := 0
def theMethod : MethodId := ⟨1, 6⟩
def args0 : Array Value := #[.int 5, .int 2, .int 7, .int 1, .int 3, .int 9]
def aboutOver (below : List Frame) : State where
  vm := { classes := classes, interned := interned.toArray }
  heap := heap
  slotsUsed := slotsUsed
  threads := #[{ frames := .invoking theMethod args0 :: below }]
def below0 : List Frame := [.native { method := ⟨0, 0⟩, args := #[] }]
def about1 : State := aboutOver below0
def p0 : Program := .bare "" "" ""
def e0 : Env := launch0.env 0 0 0
theorem w_frames : about1.frames = Frame.invoking theMethod args0 :: below0 := rfl
set_option maxRecDepth 65536 in
theorem w_args : argsFit about1.vm theMethod args0 = true := by decide +kernel
set_option maxRecDepth 65536 in
theorem w_heap : heapFits about1 = true := by decide +kernel
set_option maxRecDepth 65536 in
theorem w_runnable : about1.curStatus? = some .runnable := by decide +kernel
set_option maxRecDepth 65536 in
theorem w_alone : about1.alone = true := by decide +kernel
set_option maxRecDepth 65536 in
theorem w_named : about1.methodNamed? x = some theMethod := by decide +kernel
set_option maxRecDepth 65536 in
theorem w_hears : about1.hears theMethod below0 = true := by decide +kernel
set_option maxRecDepth 65536 in
theorem w_ripe : about1.ripe theMethod args0 below0 = true := by decide +kernel
theorem w_running : about1.status = .running := rfl
set_option maxRecDepth 65536 in
theorem w_room : about1.hasRoom e0.platform room_1 = true :=
  launch0.hasRoom_least _ room_1 (by decide +kernel) (by decide +kernel) (by decide +kernel) (by decide +kernel) (by decide +kernel) (by decide +kernel)
theorem allAtoms_all (ts : List Jvm.Cond) (a : Array Jvm.Value) (st : Jvm.State) : (allAtoms ts).before a st = ts.all (fun c => c.before a st) := by
  induction ts with
  | nil => rfl
  | cons c t ih =>
    show (Jvm.Cond.and c (allAtoms t)).before a st = _
    rw [Jvm.Cond.before_and, ih, List.all_cons]
def words1 : List Jvm.Cond := Jvm.Cond.code x code maxLocals ret :: tables_1
/-- a 'code' word, met by the world's own term for the bytes: nothing is compared byte by byte -/
theorem code_word {y : MethodName} {bytes : ByteArray} {mx : Nat} {rt : Option FieldType} {a : Array Value} {s : State} {m : MethodId} {meth : Method} {c : Code} (h1 : s.methodNamed? y = some m) (h2 : s.vm.method? m = some meth) (h3 : meth.code = some c) (h4 : c.code = bytes)
    (h5 : (c.maxLocals == mx && c.exceptionTable.isEmpty && decide (c.maxStack ≤ mostOperands) && decide (meth.sig.returnType = rt) && !meth.locks && decide (parseMethodDescriptor y.desc = some meth.sig)) = true) : (Jvm.Cond.code y bytes mx rt).before a s = true := by
  simp only [Bool.and_eq_true, beq_iff_eq, Bool.not_eq_true', decide_eq_true_eq] at h5
  obtain ⟨⟨⟨⟨⟨g1, g2⟩, g3⟩, g4⟩, g5⟩, g6⟩ := h5
  simp [Cond.before, Cond.holds, Cond.value, h1, h2, h3, h4, g1, g2, g3, g4, g5, g6]
def isCode : Jvm.Cond → Bool
  | .code _ _ _ _ => true
  | _ => false
theorem all_split {L : List Jvm.Cond} {P : Jvm.Cond → Bool} (h1 : L.all (fun c => isCode c || P c) = true) (h2 : ∀ c ∈ L.filter isCode, P c = true) : L.all P = true := by
  refine List.all_eq_true.mpr fun c hc => ?_
  have h := List.all_eq_true.mp h1 c hc
  rcases Bool.eq_false_or_eq_true (isCode c) with hi | hi
  · exact h2 c (List.mem_filter.mpr ⟨hc, hi⟩)
  · simpa [hi] using h
set_option maxRecDepth 65536 in
theorem w_c0 : (Jvm.Cond.code x code maxLocals ret).before args0 about1 = true := code_word (m := ⟨1, 6⟩) (meth := k1m6) (c := k1c6) (by decide +kernel) rfl rfl rfl (by decide +kernel)
set_option maxRecDepth 65536 in
theorem w_c1 : (Jvm.Cond.code ({ cls := "com/example/cachesmith/cachesmith/solver/CholeskyForwardPinLaw", name := "g", desc := "(II)D" } : Jvm.MethodName) method_2_code (2 : Nat) (Option.some Jvm.ClassFile.FieldType.double)).before args0 about1 = true := code_word (m := ⟨1, 1⟩) (meth := k1m1) (c := k1c1) (by decide +kernel) rfl rfl rfl (by decide +kernel)
set_option maxRecDepth 65536 in
theorem w_c2 : (Jvm.Cond.code ({ cls := "com/example/cachesmith/cachesmith/solver/CholeskyForwardPinLaw", name := "diag", desc := "(II)D" } : Jvm.MethodName) method_3_code (3 : Nat) (Option.some Jvm.ClassFile.FieldType.double)).before args0 about1 = true := code_word (m := ⟨1, 2⟩) (meth := k1m2) (c := k1c2) (by decide +kernel) rfl rfl rfl (by decide +kernel)
set_option maxRecDepth 65536 in
theorem w_c3 : (Jvm.Cond.code ({ cls := "com/example/cachesmith/cachesmith/solver/CholeskyForwardPinLaw", name := "low", desc := "(II)D" } : Jvm.MethodName) method_4_code (2 : Nat) (Option.some Jvm.ClassFile.FieldType.double)).before args0 about1 = true := code_word (m := ⟨1, 3⟩) (meth := k1m3) (c := k1c3) (by decide +kernel) rfl rfl rfl (by decide +kernel)
set_option maxRecDepth 65536 in
theorem w_c4 : (Jvm.Cond.code ({ cls := "com/example/cachesmith/cachesmith/solver/CholeskyForwardPinLaw", name := "xv", desc := "(II)D" } : Jvm.MethodName) method_5_code (2 : Nat) (Option.some Jvm.ClassFile.FieldType.double)).before args0 about1 = true := code_word (m := ⟨1, 4⟩) (meth := k1m4) (c := k1c4) (by decide +kernel) rfl rfl rfl (by decide +kernel)
set_option maxRecDepth 65536 in
theorem w_c5 : (Jvm.Cond.code ({ cls := "com/example/cachesmith/cachesmith/solver/Cholesky", name := "forward", desc := "([DII[DI)V" } : Jvm.MethodName) prog_32_method_3_code (10 : Nat) (Option.none : Option Jvm.ClassFile.FieldType)).before args0 about1 = true := code_word (m := ⟨2, 1⟩) (meth := k2m1) (c := k2c1) (by decide +kernel) rfl rfl rfl (by decide +kernel)
set_option maxRecDepth 65536 in
theorem w_c6 : (Jvm.Cond.code ({ cls := "com/example/cachesmith/cachesmith/solver/CholeskyForwardPinLaw", name := "okB", desc := "([DIIIDDDI)Z" } : Jvm.MethodName) method_6_code (14 : Nat) (Option.some Jvm.ClassFile.FieldType.boolean)).before args0 about1 = true := code_word (m := ⟨1, 5⟩) (meth := k1m5) (c := k1c5) (by decide +kernel) rfl rfl rfl (by decide +kernel)
def codes1 : List Jvm.Cond := [Jvm.Cond.code x code maxLocals ret, Jvm.Cond.code ({ cls := "com/example/cachesmith/cachesmith/solver/CholeskyForwardPinLaw", name := "g", desc := "(II)D" } : Jvm.MethodName) method_2_code (2 : Nat) (Option.some Jvm.ClassFile.FieldType.double), Jvm.Cond.code ({ cls := "com/example/cachesmith/cachesmith/solver/CholeskyForwardPinLaw", name := "diag", desc := "(II)D" } : Jvm.MethodName) method_3_code (3 : Nat) (Option.some Jvm.ClassFile.FieldType.double), Jvm.Cond.code ({ cls := "com/example/cachesmith/cachesmith/solver/CholeskyForwardPinLaw", name := "low", desc := "(II)D" } : Jvm.MethodName) method_4_code (2 : Nat) (Option.some Jvm.ClassFile.FieldType.double), Jvm.Cond.code ({ cls := "com/example/cachesmith/cachesmith/solver/CholeskyForwardPinLaw", name := "xv", desc := "(II)D" } : Jvm.MethodName) method_5_code (2 : Nat) (Option.some Jvm.ClassFile.FieldType.double), Jvm.Cond.code ({ cls := "com/example/cachesmith/cachesmith/solver/Cholesky", name := "forward", desc := "([DII[DI)V" } : Jvm.MethodName) prog_32_method_3_code (10 : Nat) (Option.none : Option Jvm.ClassFile.FieldType), Jvm.Cond.code ({ cls := "com/example/cachesmith/cachesmith/solver/CholeskyForwardPinLaw", name := "okB", desc := "([DIIIDDDI)Z" } : Jvm.MethodName) method_6_code (14 : Nat) (Option.some Jvm.ClassFile.FieldType.boolean)]
set_option maxRecDepth 65536 in
theorem codes_eq : words1.filter isCode = codes1 := rfl
theorem w_codes : ∀ c ∈ words1.filter isCode, c.before args0 about1 = true := by
  rw [codes_eq]
  intro c hc
  simp only [codes1, List.mem_cons, List.not_mem_nil, or_false] at hc
  rcases hc with rfl | rfl | rfl | rfl | rfl | rfl | rfl
  · exact w_c0
  · exact w_c1
  · exact w_c2
  · exact w_c3
  · exact w_c4
  · exact w_c5
  · exact w_c6
set_option maxRecDepth 65536 in
theorem w_t1 : words1.all (fun c => isCode c || c.before args0 about1) = true := by decide +kernel
theorem w_tables : (allAtoms (Jvm.Cond.code x code maxLocals ret :: tables_1)).before args0 about1 = true := by
  rw [allAtoms_all]
  show words1.all (fun c => c.before args0 about1) = true
  refine all_split ?_ w_codes
  rw [w_t1]
set_option maxRecDepth 65536 in
theorem w_case : (Jvm.Cond.and given_1 narrow_1).before args0 about1 = true := by decide +kernel
theorem w_applies : (headSpec (Jvm.Cond.code x code maxLocals ret :: tables_1) room_1).applies x e0.platform about1 = true :=
  (Spec.applies_iff w_frames).mpr ⟨w_running, w_runnable, w_alone, w_named, w_hears, w_ripe, w_room, w_tables⟩
theorem atStart : AtStart classFile x code maxLocals ret World_1 tables_1 room_1 Calls_1 rest_1 Pre_1 launch0 p0 e0 about1 theMethod args0 below0 :=
  ⟨lists_1, trivial, launch0.admits_env _ _ _, launch0.least_env, fairChoices_fair.cas, fairChoices_fair.clock, w_frames, w_args, w_heap, w_applies, trivial, trivial, w_case⟩
end start1
theorem witness_1 : WitnessClaimed_1 := ⟨start1.p0, start1.e0, start1.about1, start1.theMethod, start1.args0, start1.below0, start1.atStart⟩
end Jvm.Pilot.@@N@@
