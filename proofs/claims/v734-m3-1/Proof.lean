import JvmDerived
import JvmDerived.Pilot.@@N@@Statement
import JvmDerived.Pilot.@@N@@Code
set_option linter.unusedVariables false
set_option linter.unusedSimpArgs false
set_option maxRecDepth 65536
@@BLOCK:NumsL.lean.txt@@
namespace Jvm.Pilot.@@N@@
open Jvm Jvm.ClassFile Sem Op Lib Jvm.Free Jvm.Stand Jvm.LawKit Jvm.RoadKit Bundle Jvm.Pilot.@@N@@.Jvm.D Jvm.Free.Fl
/-! ## 1. what is known of a cell -/
abbrev oEnt := Addr × (Cell → Prop)
abbrev oFs := List (String × String × String × Value)
section OwnCells
variable {Z : State} {a0 : Array Value} {h h' : Heap} {L L' : List oEnt} {a : Addr} {P P' : Cell → Prop} {C O n d : String} {v w old : Value} {cell : Cell} {ty : FieldType} {vs : List Value} {sl i j k : Nat}
def oExa (Z : State) (C : String) (cell : Cell) : Prop := ∃ k : Class, Z.vm.findClass C = some cell.cls ∧ Z.vm.classes[cell.cls]? = some k ∧ cell.vm.isStatics = false ∧ (k.kind = .ordinary → cell.slots.size = k.instanceTypes.size)
def oFld (Z : State) (O n d : String) (v : Value) (cell : Cell) : Prop := ∃ (cf : ClassId) (k : Class) (i : Nat) (f : Field), Z.fieldFound? O n d = some (cf, k, i, f) ∧ f.isStatic = false ∧ cell.vm ≠ .unknown ∧ cell.vm.isStatics = false ∧ Z.vm.assignable cell.cls cf = true ∧ cell.slots[f.slot]? = some v
/-- an object of class C, with the values of the fields named (owner, name, descriptor, value) -/
def oObj (Z : State) (a0 : Array Value) (C : String) (fs : oFs) (cell : Cell) : Prop := oExa Z C cell ∧ ∀ t ∈ fs, Laid Z a0 C t.1 t.2.1 t.2.2.1 ∧ (∃ ty, parseFieldDescriptor t.2.2.1 = some ty) ∧ oFld Z t.1 t.2.1 t.2.2.1 t.2.2.2 cell
/-- an array of that kind with just these components -/
def oArr (Z : State) (ty : FieldType) (vs : List Value) (cell : Cell) : Prop := Z.isArrayOf cell ty ∧ cell.vm ≠ .unknown ∧ cell.slots.toList = vs ∧ vs.length < 2 ^ 31 ∧ ∀ v ∈ vs, fits ty v = true
theorem oExa.exa (E : oExa Z C cell) (hc : h[a]? = some cell) : Exa Z h a C := by obtain ⟨k, e1, e2, e3, e4⟩ := E; exact ⟨cell, k, hc, e1, e2, e3, e4⟩
theorem oExa.of (E : Exa Z h a C) (hc : h[a]? = some cell) : oExa Z C cell := by obtain ⟨c', k, h1, r⟩ := E; cases h1.symm.trans hc; exact ⟨k, r⟩
theorem oFld.fld (F : oFld Z O n d v cell) (hc : h[a]? = some cell) : Fld Z h a O n d v := by obtain ⟨cf, k, i, f, r1, r2, r3, r4, r5, r6⟩ := F; exact ⟨cell, cf, k, i, f, hc, r1, r2, r3, r4, r5, r6⟩
theorem oFld.of (F : Fld Z h a O n d v) (hc : h[a]? = some cell) : oFld Z O n d v cell := by obtain ⟨c', cf, k, i, f, h1, r1, r2, r3, r4, r5, r6⟩ := F; cases h1.symm.trans hc; exact ⟨cf, k, i, f, r1, r2, r3, r4, r5, r6⟩
theorem oExa.set (E : oExa Z C cell) : oExa Z C (cell.setSlot sl v) := by
  obtain ⟨k, e1, e2, e3, e4⟩ := E
  exact ⟨k, e1, e2, e3, fun q => by rw [sz_set]; exact e4 q⟩
theorem oFld.hit (F : oFld Z O n d old cell) : oFld Z O n d v (cell.setSlot (Jvm.RoadKit.slotOf Z O n d) v) := by
  obtain ⟨cf, k, i, f, r1, r2, r3, r4, r5, r6⟩ := F
  refine ⟨cf, k, i, f, r1, r2, r3, r4, r5, ?_⟩
  have e : Jvm.RoadKit.slotOf Z O n d = f.slot := by
    show ((Z.fieldFound? O n d).map (fun z => z.2.2.2.slot)).getD 0 = f.slot
    rw [r1]; rfl
  rw [e]
  show (cell.slots.setIfInBounds f.slot v)[f.slot]? = some v
  exact Array.getElem?_setIfInBounds_self_of_lt (Array.getElem?_eq_some_iff.mp r6).1
theorem oFld.miss (F : oFld Z O n d v cell) (q : Jvm.RoadKit.slotOf Z O n d ≠ sl) : oFld Z O n d v (cell.setSlot sl w) := by
  obtain ⟨cf, k, i, f, r1, r2, r3, r4, r5, r6⟩ := F
  have e : Jvm.RoadKit.slotOf Z O n d = f.slot := by
    show ((Z.fieldFound? O n d).map (fun z => z.2.2.2.slot)).getD 0 = f.slot
    rw [r1]; rfl
  rw [e] at q
  refine ⟨cf, k, i, f, r1, r2, r3, r4, r5, ?_⟩
  show (cell.slots.setIfInBounds sl w)[f.slot]? = some v
  rw [Array.getElem?_setIfInBounds_ne (Ne.symm q)]; exact r6
theorem oObj.put {fs : oFs} (B : oObj Z a0 C fs cell) (hj : fs[j]? = some (O, n, d, old)) (hnd : (fs.map fun t => t.2.1).Nodup) : oObj Z a0 C (fs.set j (O, n, d, v)) (cell.setSlot (Jvm.RoadKit.slotOf Z O n d) v) := by
  refine ⟨B.1.set, fun t ht => ?_⟩
  obtain ⟨i, hi⟩ := List.mem_iff_getElem?.mp ht
  obtain ⟨l0, ⟨t0, p0⟩, f0⟩ := B.2 _ (List.mem_of_getElem? hj)
  have hlt : j < fs.length := (List.getElem?_eq_some_iff.mp hj).1
  by_cases e : j = i
  · subst e
    rw [List.getElem?_set_self hlt] at hi
    cases hi
    exact ⟨l0, ⟨t0, p0⟩, f0.hit⟩
  · rw [List.getElem?_set_ne e] at hi
    obtain ⟨l1, ⟨t1, p1⟩, f1⟩ := B.2 t (List.mem_of_getElem? hi)
    refine ⟨l1, ⟨t1, p1⟩, f1.miss (slot_ne l1 l0 (fun q => ?_) p1 p0)⟩
    have hA : (fs.map fun t => t.2.1)[j]? = (fs.map fun t => t.2.1)[i]? := by simp only [List.getElem?_map, hi, hj, Option.map_some]; rw [q]
    exact e ((List.getElem?_inj (by simpa using hlt) hnd).mp hA)
theorem oArr.put (B : oArr Z ty vs cell) (hf : fits ty v = true) : oArr Z ty (vs.set k v) (cell.setSlot k v) := by
  obtain ⟨b1, b2, b3, b4, b5⟩ := B
  refine ⟨b1, b2, by show (cell.slots.setIfInBounds k v).toList = vs.set k v; rw [Array.toList_setIfInBounds, b3], by simpa using b4, fun u hu => ?_⟩
  rcases List.mem_or_eq_of_mem_set hu with q | q
  · exact b5 u q
  · rw [q]; exact hf
theorem oArr.size (B : oArr Z ty vs cell) : cell.slots.size = vs.length := by rw [← B.2.2.1]; simp
theorem oArr.get (B : oArr Z ty vs cell) (hk : vs[k]? = some v) : cell.slots[k]? = some v := by rw [← Array.getElem?_toList, B.2.2.1]; exact hk
theorem oArr.arr (B : oArr Z ty vs cell) (hc : h[a]? = some cell) : Arr Z h a cell ty := ⟨hc, B.1, B.2.1⟩
theorem o_clamp {k : Nat} (q : k < 2 ^ 31) : (Int32.ofNat k).toNatClampNeg = k ∧ ¬ (Int32.ofNat k) < 0 := by
  have e : (Int32.ofNat k).toInt = k := len_toInt q
  refine ⟨by simp only [Int32.toNatClampNeg, e]; rfl, ?_⟩
  rw [Int32.lt_iff_toInt_lt, e]; show ¬ (k : Int) < 0; omega
theorem oArr.inb (B : oArr Z ty vs cell) {x : Int32} (e : x = Int32.ofNat k) (hk : k < vs.length) : x.toNatClampNeg = k ∧ ¬ (x < 0 ∨ cell.slots.size ≤ x.toNatClampNeg) := by
  subst e
  have q := o_clamp (Nat.lt_trans hk B.2.2.2.1)
  refine ⟨q.1, fun z => z.elim q.2 fun y => ?_⟩
  rw [q.1, B.size] at y; omega
/-! ## 2. the heap: the cells that stood stand as they stood; the listed ones are new, no two alike -/
def oHp (Z : State) (h : Heap) (L : List oEnt) : Prop := (Z.heap.size ≤ h.size ∧ ∀ (a : Addr) (c : Cell), Z.heap[a]? = some c → h[a]? = some c) ∧ (L.map fun x => x.1).Nodup ∧ ∀ x ∈ L, Z.heap.size ≤ x.1 ∧ ∃ c : Cell, h[x.1]? = some c ∧ x.2 c
theorem oHp.at_ (H : oHp Z h L) (hi : L[i]? = some (a, P)) : Z.heap.size ≤ a ∧ ∃ c : Cell, h[a]? = some c ∧ P c := H.2.2 _ (List.mem_of_getElem? hi)
theorem oHp.ne {b : Addr} {P2 : Cell → Prop} (H : oHp Z h L) (hi : L[i]? = some (a, P)) (hj : L[j]? = some (b, P2)) (q : i ≠ j) : a ≠ b := fun e => by
  have hA : (L.map fun x => x.1)[i]? = (L.map fun x => x.1)[j]? := by simp only [List.getElem?_map, hi, hj, Option.map_some]; rw [e]
  exact q ((List.getElem?_inj (by have := (List.getElem?_eq_some_iff.mp hi).1; simpa using this) H.2.1).mp hA)
theorem oHp.new (H : oHp Z h L) (E : Ext h h') (hc : h'[h.size]? = some cell) (hP : P cell) : oHp Z h' ((h.size, P) :: L) := by
  refine ⟨⟨Nat.le_trans H.1.1 E.1, fun a c q => E.2 a c (H.1.2 a c q)⟩, ?_, ?_⟩
  · simp only [List.map_cons, List.nodup_cons]
    refine ⟨fun q => ?_, H.2.1⟩
    obtain ⟨x, hx, e⟩ := List.mem_map.mp q
    obtain ⟨-, c, hc', -⟩ := H.2.2 x hx
    have := (Array.getElem?_eq_some_iff.mp hc').1
    have e' : x.1 = h.size := e
    rw [e'] at this
    exact Nat.lt_irrefl _ this
  · intro x hx
    rcases List.mem_cons.mp hx with rfl | hx
    · exact ⟨H.1.1, cell, hc, hP⟩
    · obtain ⟨q, c, hc', hp⟩ := H.2.2 x hx
      exact ⟨q, c, E.2 _ _ hc', hp⟩
theorem oHp.wr (H : oHp Z h L) (hi : L[i]? = some (a, P)) (W : Wr h h' a sl v) (hP : ∀ c : Cell, P c → P' (c.setSlot sl v)) : oHp Z h' (L.set i (a, P')) := by
  obtain ⟨q, c, hc, hp⟩ := H.at_ hi
  have hlt : i < L.length := (List.getElem?_eq_some_iff.mp hi).1
  refine ⟨⟨by rw [W.size]; exact H.1.1, fun b c' hb => ?_⟩, ?_, ?_⟩
  · obtain ⟨cb', e1, -, -, -, e5, -⟩ := wr_at W (H.1.2 b c' hb)
    have ne : b ≠ a := Nat.ne_of_lt (Nat.lt_of_lt_of_le (Array.getElem?_eq_some_iff.mp hb).1 q)
    rw [← e5 ne]; exact e1
  · have : (L.set i (a, P')).map (fun x => x.1) = L.map (fun x => x.1) := by
      apply List.ext_getElem?
      intro k
      by_cases e : i = k
      · subst e; rw [List.getElem?_map, List.getElem?_set_self hlt, List.getElem?_map, hi]; rfl
      · rw [List.getElem?_map, List.getElem?_set_ne e, List.getElem?_map]
    rw [this]; exact H.2.1
  · intro x hx
    obtain ⟨k, hk⟩ := List.mem_iff_getElem?.mp hx
    by_cases e : i = k
    · subst e
      rw [List.getElem?_set_self hlt] at hk
      cases hk
      obtain ⟨c', e1, -, -, -, -, -, e7⟩ := wr_at W hc
      exact ⟨q, _, e1, (e7 rfl).1 ▸ hP c hp⟩
    · rw [List.getElem?_set_ne e] at hk
      obtain ⟨q', c', hc', hp'⟩ := H.2.2 x (List.mem_of_getElem? hk)
      obtain ⟨cb', e1, -, -, -, e5, -⟩ := wr_at W hc'
      have ne : x.1 ≠ a := H.ne (i := k) (j := i) (a := x.1) (P := x.2) hk hi (Ne.symm e)
      exact ⟨q', c', by rw [← e5 ne]; exact e1, hp'⟩
theorem oHp.perm (H : oHp Z h L) (q : L'.Perm L) : oHp Z h L' := ⟨H.1, (q.map _).nodup_iff.mpr H.2.1, fun x hx => H.2.2 x (q.mem_iff.mp hx)⟩
theorem oHp.weak (H : oHp Z h L) (hi : L[i]? = some (a, P)) (hP : ∀ c : Cell, P c → P' c) : oHp Z h (L.set i (a, P')) := by
  have hlt : i < L.length := (List.getElem?_eq_some_iff.mp hi).1
  refine ⟨H.1, ?_, fun x hx => ?_⟩
  · have : (L.set i (a, P')).map (fun x => x.1) = L.map (fun x => x.1) := by
      apply List.ext_getElem?
      intro k
      by_cases e : i = k
      · subst e; rw [List.getElem?_map, List.getElem?_set_self hlt, List.getElem?_map, hi]; rfl
      · rw [List.getElem?_map, List.getElem?_set_ne e, List.getElem?_map]
    rw [this]; exact H.2.1
  · obtain ⟨k, hk⟩ := List.mem_iff_getElem?.mp hx
    by_cases e : i = k
    · subst e
      rw [List.getElem?_set_self hlt] at hk
      cases hk
      obtain ⟨q, c, hc, hp⟩ := H.at_ hi
      exact ⟨q, c, hc, hP c hp⟩
    · rw [List.getElem?_set_ne e] at hk
      exact H.2.2 x (List.mem_of_getElem? hk)
end OwnCells
/-! ## 3. where the run stands; what is left to show -/
def oOn (p : Program) (l : Launch) (e : Env) (R : Room) (s : State) (m : MethodId) (args : Array Value) (below : List Frame) (meth : Method) (c : Code) (Z : State) (cells slots : Nat) (T : State) (L : List oEnt) : Prop := ∃ locs, Stand p l e R s m args below meth c T locs cells slots ∧ Fr Z.heap.size locs ∧ oHp Z T.heap L
def oCx (p : Program) (s : State) (m : MethodId) (meth : Method) (c : Code) (Z : State) (own nm : String) (code : ByteArray) (maxL : Nat) (ret : Option FieldType) : Prop := p.tables.exec = Jvm.exec ∧ Z.Warmed39 s.vm ∧ c.code = code ∧ c.maxLocals = maxL ∧ s.vm.findClass own = some m.cls ∧ meth.name = nm ∧ meth.sig.returnType = ret ∧ meth.locks = false
def oGo (p : Program) (e : Env) (below : List Frame) (K : State → Outcome → Prop) (u : State) : Prop := ∃ s₂ o, Steps p.tables e below u s₂ ∧ s₂.status = .running ∧ Ended s₂ below o ∧ K s₂ o
def oEnd (s Z : State) (Q : Option Value → List oEnt → Prop) (C S : Nat) (t : State) (o : Outcome) : Prop := ∃ v Lc, o = .returned v ∧ (Fr Z.heap.size Lc ∧ ∃ L', oHp Z t.heap L' ∧ Q v L') ∧ FrameEnd s o t Lc C S
/-- the contract of a body: from a heap of which L is known, with these arguments, it returns v and leaves a heap of which L' is known, Q v L' -/
def oMeets (l : Launch) (Z : State) (y : MethodName) (code : ByteArray) (maxL : Nat) (ret : Option FieldType) (rm : Room) (as : List Value) (L : List oEnt) (Q : Option Value → List oEnt → Prop) : Prop :=
  ∀ (ws : List Jvm.Cond) (h0 : Heap), oHp Z h0 L → MetFree l y (head1 (Jvm.Cond.code y code maxL ret :: ws) rm) (fun a U => a = as.toArray ∧ Z.Warmed39 U.vm ∧ U.heap = h0) (fun _ _ _ _ _ => True)
    (fun _ U o U' => ∃ v Lc, o = .returned v ∧ (Fr Z.heap.size Lc ∧ ∃ L', oHp Z U'.heap L' ∧ Q v L') ∧ FrameEnd U o U' Lc rm.cells rm.slots)
section OwnRules
variable {p : Program} {l : Launch} {e : Env} {R : Room} {s : State} {m : MethodId} {args : Array Value} {below : List Frame} {meth : Method} {c : Code} {Z : State} {a0 : Array Value} {cells slots : Nat} {T : State} {L L' : List oEnt}
variable {own nm : String} {code : ByteArray} {maxL : Nat} {ret : Option FieldType} {K : State → Outcome → Prop} {Ls : Array Slot} {st : List Value} {pc pc' pc2 : Nat} {i j k : Nat} {a : Addr} {vs : List Value} {v : Value}
theorem oGo.via {u u' : State} (h : ∀ t, Steps p.tables e below u' t → Steps p.tables e below u t) (g : oGo p e below K u') : oGo p e below K u := by
  obtain ⟨s₂, o, h1, h2⟩ := g; exact ⟨s₂, o, h _ h1, h2⟩
theorem oOn.here (o : oOn p l e R s m args below meth c Z cells slots T L) : At T m c below := by obtain ⟨_, X, -⟩ := o; exact X.here
theorem oOn.perm (o : oOn p l e R s m args below meth c Z cells slots T L) (q : L'.Perm L) : oOn p l e R s m args below meth c Z cells slots T L' := by obtain ⟨lc, X, N, H⟩ := o; exact ⟨lc, X, N, H.perm q⟩
theorem oOn.more (o : oOn p l e R s m args below meth c Z cells slots T L) {c' s' : Nat} (h1 : cells ≤ c') (h2 : slots ≤ s') : oOn p l e R s m args below meth c Z c' s' T L := by obtain ⟨lc, X, N, H⟩ := o; exact ⟨lc, X.more h1 h2, N, H⟩
theorem o_frontp {α : Type} : ∀ (L : List α) (i : Nat) {x : α}, L[i]? = some x → (x :: L.eraseIdx i).Perm L
  | [], i, x, h => by simp at h
  | a :: L, 0, x, h => by cases h; exact List.Perm.refl _
  | a :: L, i + 1, x, h => (List.Perm.swap a x (L.eraseIdx i)).trans ((o_frontp L i h).cons a)
/-- the i-th known cell comes to the front -/
theorem oOn.front (o : oOn p l e R s m args below meth c Z cells slots T L) (i : Nat) {x : oEnt} (hi : L[i]? = some x) : oOn p l e R s m args below meth c Z cells slots T (x :: L.eraseIdx i) := o.perm (o_frontp L i hi)
theorem oOn.weak (o : oOn p l e R s m args below meth c Z cells slots T L) (i : Nat) {P P' : Cell → Prop} (hi : L[i]? = some (a, P)) (hP : ∀ c : Cell, P c → P' c) : oOn p l e R s m args below meth c Z cells slots T (L.set i (a, P')) := by obtain ⟨lc, X, N, H⟩ := o; exact ⟨lc, X, N, H.weak hi hP⟩
theorem oOn.drop (o : oOn p l e R s m args below meth c Z cells slots T L) (q : List.Sublist L' L) : oOn p l e R s m args below meth c Z cells slots T L' := by
  obtain ⟨lc, X, N, H⟩ := o
  exact ⟨lc, X, N, H.1, (q.map _).nodup H.2.1, fun x hx => H.2.2 x (q.subset hx)⟩
theorem oOn.len {ty : FieldType} (o : oOn p l e R s m args below meth c Z cells slots T L) (hi : L[i]? = some (a, oArr Z ty vs)) : vs.length < 2 ^ 31 := by
  obtain ⟨lc, X, N, H⟩ := o
  obtain ⟨-, cl, -, A⟩ := H.at_ hi
  exact A.2.2.2.1
theorem oMeets.of {y : MethodName} {rm : Room} {as : List Value} {Q : Option Value → List oEnt → Prop} (pn : plainFor y = true)
    (body : ∀ p e s m below meth c T, oCx p s m meth c Z y.cls y.name code maxL ret → oOn p l e rm s m as.toArray below meth c Z 0 0 T L → oGo p e below (oEnd s Z Q rm.cells rm.slots) (T.setTop (entryFrame m as.toArray maxL))) : oMeets l Z y code maxL ret rm as L Q := by
  intro ws h0 H
  refine MetFree.of_bodySF pn hisR ?_
  intro p e s m args below meth c s₁ Bd hml0 hP hK
  obtain ⟨rfl, hZ, hh⟩ := hP
  have X0 : Stand p l e rm s m as.toArray below meth c s₁ [] 0 0 := Stand.of_body Bd
  have e0 : s₁.heap = h0 := by rw [← hh, Bd.state]; rfl
  exact body p e s m below meth c s₁ ⟨Bd.exec, hZ, Bd.bytes, hml0, findClass_of_methodNamed Bd.named, (name_of_methodNamed Bd.named Bd.method).1, Bd.returns, Bd.notSynchronized⟩ ⟨[], X0, Fr.nil _, by rw [e0]; exact H⟩
theorem oGo.top {g g' : JFrame} (q : g = g') (k : oGo p e below K (T.setTop g')) : oGo p e below K (T.setTop g) := q ▸ k
theorem g_iload (cx : oCx p s m meth c Z own nm code maxL ret) (o : oOn p l e R s m args below meth c Z cells slots T L) {v : Int32} (hd : decode code pc = .ok (.iload k, 2)) (hp : pc + 2 = pc') (hl : Ls[k]? = some (.val (.int v)))
    (kk : oGo p e below K (T.setTop (mkF m pc' Ls (.int v :: st)))) : oGo p e below K (T.setTop (mkF m pc Ls (st))) := by
  subst hp; exact kk.via fun t q => XS.iload o.here cx.1 rfl (hb cx.2.2.1 hd) hl q
theorem g_iloadN (cx : oCx p s m meth c Z own nm code maxL ret) (o : oOn p l e R s m args below meth c Z cells slots T L) {f : Fin 4} {v : Int32} (hd : decode code pc = .ok (.iload_n f, 1)) (hp : pc + 1 = pc') (hl : Ls[f.val]? = some (.val (.int v)))
    (kk : oGo p e below K (T.setTop (mkF m pc' Ls (.int v :: st)))) : oGo p e below K (T.setTop (mkF m pc Ls (st))) := by
  subst hp; exact kk.via fun t q => XS.iloadN o.here cx.1 rfl (hb cx.2.2.1 hd) hl q
theorem g_istore (cx : oCx p s m meth c Z own nm code maxL ret) (o : oOn p l e R s m args below meth c Z cells slots T L) {v : Int32} {l' : Array Slot} (hd : decode code pc = .ok (.istore k, 2)) (hp : pc + 2 = pc') (hl : storeLocals Ls k (.int v) = some l')
    (kk : oGo p e below K (T.setTop (mkF m pc' l' (st)))) : oGo p e below K (T.setTop (mkF m pc Ls (.int v :: st))) := by
  subst hp; exact kk.via fun t q => XS.istore o.here cx.1 rfl (hb cx.2.2.1 hd) rfl hl q
theorem g_istoreN (cx : oCx p s m meth c Z own nm code maxL ret) (o : oOn p l e R s m args below meth c Z cells slots T L) {f : Fin 4} {v : Int32} {l' : Array Slot} (hd : decode code pc = .ok (.istore_n f, 1)) (hp : pc + 1 = pc') (hl : storeLocals Ls f.val (.int v) = some l')
    (kk : oGo p e below K (T.setTop (mkF m pc' l' (st)))) : oGo p e below K (T.setTop (mkF m pc Ls (.int v :: st))) := by
  subst hp; exact kk.via fun t q => XS.istoreN o.here cx.1 rfl (hb cx.2.2.1 hd) rfl hl q
theorem g_istoreV (cx : oCx p s m meth c Z own nm code maxL ret) (o : oOn p l e R s m args below meth c Z cells slots T L) {v : Int32} (l' : Int32 → Array Slot) (hd : decode code pc = .ok (.istore k, 2)) (hp : pc + 2 = pc') (hl : ∀ w, storeLocals Ls k (.int w) = some (l' w))
    (kk : ∀ w, w = v → oGo p e below K (T.setTop (mkF m pc' (l' w) st))) : oGo p e below K (T.setTop (mkF m pc Ls (.int v :: st))) := by
  exact g_istore cx o hd hp (hl v) (kk v rfl)
theorem g_istoreNV (cx : oCx p s m meth c Z own nm code maxL ret) (o : oOn p l e R s m args below meth c Z cells slots T L) {f : Fin 4} {v : Int32} (l' : Int32 → Array Slot) (hd : decode code pc = .ok (.istore_n f, 1)) (hp : pc + 1 = pc') (hl : ∀ w, storeLocals Ls f.val (.int w) = some (l' w))
    (kk : ∀ w, w = v → oGo p e below K (T.setTop (mkF m pc' (l' w) st))) : oGo p e below K (T.setTop (mkF m pc Ls (.int v :: st))) := by
  exact g_istoreN cx o hd hp (hl v) (kk v rfl)
theorem g_lload (cx : oCx p s m meth c Z own nm code maxL ret) (o : oOn p l e R s m args below meth c Z cells slots T L) {v : Int64} (hd : decode code pc = .ok (.lload k, 2)) (hp : pc + 2 = pc') (hl : Ls[k]? = some (.val (.long v)))
    (kk : oGo p e below K (T.setTop (mkF m pc' Ls (.long v :: st)))) : oGo p e below K (T.setTop (mkF m pc Ls (st))) := by
  subst hp; exact kk.via fun t q => XT.lload o.here cx.1 rfl (hb cx.2.2.1 hd) hl q
theorem g_lloadN (cx : oCx p s m meth c Z own nm code maxL ret) (o : oOn p l e R s m args below meth c Z cells slots T L) {f : Fin 4} {v : Int64} (hd : decode code pc = .ok (.lload_n f, 1)) (hp : pc + 1 = pc') (hl : Ls[f.val]? = some (.val (.long v)))
    (kk : oGo p e below K (T.setTop (mkF m pc' Ls (.long v :: st)))) : oGo p e below K (T.setTop (mkF m pc Ls (st))) := by
  subst hp; exact kk.via fun t q => XT.lloadN o.here cx.1 rfl (hb cx.2.2.1 hd) hl q
theorem g_lstore (cx : oCx p s m meth c Z own nm code maxL ret) (o : oOn p l e R s m args below meth c Z cells slots T L) {v : Int64} {l' : Array Slot} (hd : decode code pc = .ok (.lstore k, 2)) (hp : pc + 2 = pc') (hl : storeLocals Ls k (.long v) = some l')
    (kk : oGo p e below K (T.setTop (mkF m pc' l' (st)))) : oGo p e below K (T.setTop (mkF m pc Ls (.long v :: st))) := by
  subst hp; exact kk.via fun t q => XT.lstore o.here cx.1 rfl (hb cx.2.2.1 hd) rfl hl q
theorem g_lstoreN (cx : oCx p s m meth c Z own nm code maxL ret) (o : oOn p l e R s m args below meth c Z cells slots T L) {f : Fin 4} {v : Int64} {l' : Array Slot} (hd : decode code pc = .ok (.lstore_n f, 1)) (hp : pc + 1 = pc') (hl : storeLocals Ls f.val (.long v) = some l')
    (kk : oGo p e below K (T.setTop (mkF m pc' l' (st)))) : oGo p e below K (T.setTop (mkF m pc Ls (.long v :: st))) := by
  subst hp; exact kk.via fun t q => XT.lstoreN o.here cx.1 rfl (hb cx.2.2.1 hd) rfl hl q
theorem g_lstoreV (cx : oCx p s m meth c Z own nm code maxL ret) (o : oOn p l e R s m args below meth c Z cells slots T L) {v : Int64} (l' : Int64 → Array Slot) (hd : decode code pc = .ok (.lstore k, 2)) (hp : pc + 2 = pc') (hl : ∀ w, storeLocals Ls k (.long w) = some (l' w))
    (kk : ∀ w, w = v → oGo p e below K (T.setTop (mkF m pc' (l' w) st))) : oGo p e below K (T.setTop (mkF m pc Ls (.long v :: st))) := by
  exact g_lstore cx o hd hp (hl v) (kk v rfl)
theorem g_lstoreNV (cx : oCx p s m meth c Z own nm code maxL ret) (o : oOn p l e R s m args below meth c Z cells slots T L) {f : Fin 4} {v : Int64} (l' : Int64 → Array Slot) (hd : decode code pc = .ok (.lstore_n f, 1)) (hp : pc + 1 = pc') (hl : ∀ w, storeLocals Ls f.val (.long w) = some (l' w))
    (kk : ∀ w, w = v → oGo p e below K (T.setTop (mkF m pc' (l' w) st))) : oGo p e below K (T.setTop (mkF m pc Ls (.long v :: st))) := by
  exact g_lstoreN cx o hd hp (hl v) (kk v rfl)
theorem g_dload (cx : oCx p s m meth c Z own nm code maxL ret) (o : oOn p l e R s m args below meth c Z cells slots T L) {v : UInt64} (hd : decode code pc = .ok (.dload k, 2)) (hp : pc + 2 = pc') (hl : Ls[k]? = some (.val (.double v)))
    (kk : oGo p e below K (T.setTop (mkF m pc' Ls (.double v :: st)))) : oGo p e below K (T.setTop (mkF m pc Ls (st))) := by
  subst hp; exact kk.via fun t q => XS.dload o.here cx.1 rfl (hb cx.2.2.1 hd) hl q
theorem g_dloadN (cx : oCx p s m meth c Z own nm code maxL ret) (o : oOn p l e R s m args below meth c Z cells slots T L) {f : Fin 4} {v : UInt64} (hd : decode code pc = .ok (.dload_n f, 1)) (hp : pc + 1 = pc') (hl : Ls[f.val]? = some (.val (.double v)))
    (kk : oGo p e below K (T.setTop (mkF m pc' Ls (.double v :: st)))) : oGo p e below K (T.setTop (mkF m pc Ls (st))) := by
  subst hp; exact kk.via fun t q => XS.dloadN o.here cx.1 rfl (hb cx.2.2.1 hd) hl q
theorem g_dstore (cx : oCx p s m meth c Z own nm code maxL ret) (o : oOn p l e R s m args below meth c Z cells slots T L) {v : UInt64} {l' : Array Slot} (hd : decode code pc = .ok (.dstore k, 2)) (hp : pc + 2 = pc') (hl : storeLocals Ls k (.double v) = some l')
    (kk : oGo p e below K (T.setTop (mkF m pc' l' (st)))) : oGo p e below K (T.setTop (mkF m pc Ls (.double v :: st))) := by
  subst hp; exact kk.via fun t q => XS.dstore o.here cx.1 rfl (hb cx.2.2.1 hd) rfl hl q
theorem g_dstoreN (cx : oCx p s m meth c Z own nm code maxL ret) (o : oOn p l e R s m args below meth c Z cells slots T L) {f : Fin 4} {v : UInt64} {l' : Array Slot} (hd : decode code pc = .ok (.dstore_n f, 1)) (hp : pc + 1 = pc') (hl : storeLocals Ls f.val (.double v) = some l')
    (kk : oGo p e below K (T.setTop (mkF m pc' l' (st)))) : oGo p e below K (T.setTop (mkF m pc Ls (.double v :: st))) := by
  subst hp; exact kk.via fun t q => XS.dstoreN o.here cx.1 rfl (hb cx.2.2.1 hd) rfl hl q
theorem g_dstoreV (cx : oCx p s m meth c Z own nm code maxL ret) (o : oOn p l e R s m args below meth c Z cells slots T L) {v : UInt64} (l' : UInt64 → Array Slot) (hd : decode code pc = .ok (.dstore k, 2)) (hp : pc + 2 = pc') (hl : ∀ w, storeLocals Ls k (.double w) = some (l' w))
    (kk : ∀ w, w = v → oGo p e below K (T.setTop (mkF m pc' (l' w) st))) : oGo p e below K (T.setTop (mkF m pc Ls (.double v :: st))) := by
  exact g_dstore cx o hd hp (hl v) (kk v rfl)
theorem g_dstoreNV (cx : oCx p s m meth c Z own nm code maxL ret) (o : oOn p l e R s m args below meth c Z cells slots T L) {f : Fin 4} {v : UInt64} (l' : UInt64 → Array Slot) (hd : decode code pc = .ok (.dstore_n f, 1)) (hp : pc + 1 = pc') (hl : ∀ w, storeLocals Ls f.val (.double w) = some (l' w))
    (kk : ∀ w, w = v → oGo p e below K (T.setTop (mkF m pc' (l' w) st))) : oGo p e below K (T.setTop (mkF m pc Ls (.double v :: st))) := by
  exact g_dstoreN cx o hd hp (hl v) (kk v rfl)
theorem g_aload (cx : oCx p s m meth c Z own nm code maxL ret) (o : oOn p l e R s m args below meth c Z cells slots T L) {v : Value} (hd : decode code pc = .ok (.aload k, 2)) (hp : pc + 2 = pc') (hl : Ls[k]? = some (.val v)) (hv : v.isRef = true)
    (kk : oGo p e below K (T.setTop (mkF m pc' Ls (v :: st)))) : oGo p e below K (T.setTop (mkF m pc Ls (st))) := by
  subst hp; exact kk.via fun t q => XS.aload o.here cx.1 rfl (hb cx.2.2.1 hd) hl hv q
theorem g_aloadN (cx : oCx p s m meth c Z own nm code maxL ret) (o : oOn p l e R s m args below meth c Z cells slots T L) {f : Fin 4} {v : Value} (hd : decode code pc = .ok (.aload_n f, 1)) (hp : pc + 1 = pc') (hl : Ls[f.val]? = some (.val v)) (hv : v.isRef = true)
    (kk : oGo p e below K (T.setTop (mkF m pc' Ls (v :: st)))) : oGo p e below K (T.setTop (mkF m pc Ls (st))) := by
  subst hp; exact kk.via fun t q => XS.aloadN o.here cx.1 rfl (hb cx.2.2.1 hd) hl hv q
theorem g_astore (cx : oCx p s m meth c Z own nm code maxL ret) (o : oOn p l e R s m args below meth c Z cells slots T L) {v : Value} {l' : Array Slot} (hd : decode code pc = .ok (.astore k, 2)) (hp : pc + 2 = pc') (hv : v.isRef = true) (hl : storeLocals Ls k v = some l')
    (kk : oGo p e below K (T.setTop (mkF m pc' l' (st)))) : oGo p e below K (T.setTop (mkF m pc Ls (v :: st))) := by
  subst hp; exact kk.via fun t q => XS.astore o.here cx.1 rfl (hb cx.2.2.1 hd) rfl hv hl q
theorem g_astoreN (cx : oCx p s m meth c Z own nm code maxL ret) (o : oOn p l e R s m args below meth c Z cells slots T L) {f : Fin 4} {v : Value} {l' : Array Slot} (hd : decode code pc = .ok (.astore_n f, 1)) (hp : pc + 1 = pc') (hv : v.isRef = true) (hl : storeLocals Ls f.val v = some l')
    (kk : oGo p e below K (T.setTop (mkF m pc' l' (st)))) : oGo p e below K (T.setTop (mkF m pc Ls (v :: st))) := by
  subst hp; exact kk.via fun t q => XS.astoreN o.here cx.1 rfl (hb cx.2.2.1 hd) rfl hv hl q
theorem g_iadd (cx : oCx p s m meth c Z own nm code maxL ret) (o : oOn p l e R s m args below meth c Z cells slots T L) {x y : Int32} (hd : decode code pc = .ok (.iadd, 1)) (hp : pc + 1 = pc') 
    (kk : oGo p e below K (T.setTop (mkF m pc' Ls (.int (x + y) :: st)))) : oGo p e below K (T.setTop (mkF m pc Ls (.int y :: .int x :: st))) := by
  subst hp; exact kk.via fun t q => XS.iadd o.here cx.1 rfl (hb cx.2.2.1 hd) rfl q
theorem g_isub (cx : oCx p s m meth c Z own nm code maxL ret) (o : oOn p l e R s m args below meth c Z cells slots T L) {x y : Int32} (hd : decode code pc = .ok (.isub, 1)) (hp : pc + 1 = pc') 
    (kk : oGo p e below K (T.setTop (mkF m pc' Ls (.int (x - y) :: st)))) : oGo p e below K (T.setTop (mkF m pc Ls (.int y :: .int x :: st))) := by
  subst hp; exact kk.via fun t q => XS.isub o.here cx.1 rfl (hb cx.2.2.1 hd) rfl q
theorem g_imul (cx : oCx p s m meth c Z own nm code maxL ret) (o : oOn p l e R s m args below meth c Z cells slots T L) {x y : Int32} (hd : decode code pc = .ok (.imul, 1)) (hp : pc + 1 = pc') 
    (kk : oGo p e below K (T.setTop (mkF m pc' Ls (.int (x * y) :: st)))) : oGo p e below K (T.setTop (mkF m pc Ls (.int y :: .int x :: st))) := by
  subst hp; exact kk.via fun t q => XS.imul o.here cx.1 rfl (hb cx.2.2.1 hd) rfl q
theorem g_iand (cx : oCx p s m meth c Z own nm code maxL ret) (o : oOn p l e R s m args below meth c Z cells slots T L) {x y : Int32} (hd : decode code pc = .ok (.iand, 1)) (hp : pc + 1 = pc') 
    (kk : oGo p e below K (T.setTop (mkF m pc' Ls (.int (x &&& y) :: st)))) : oGo p e below K (T.setTop (mkF m pc Ls (.int y :: .int x :: st))) := by
  subst hp; exact kk.via fun t q => XS.iand o.here cx.1 rfl (hb cx.2.2.1 hd) rfl q
theorem g_ior (cx : oCx p s m meth c Z own nm code maxL ret) (o : oOn p l e R s m args below meth c Z cells slots T L) {x y : Int32} (hd : decode code pc = .ok (.ior, 1)) (hp : pc + 1 = pc') 
    (kk : oGo p e below K (T.setTop (mkF m pc' Ls (.int (x ||| y) :: st)))) : oGo p e below K (T.setTop (mkF m pc Ls (.int y :: .int x :: st))) := by
  subst hp; exact kk.via fun t q => XT.ior o.here cx.1 rfl (hb cx.2.2.1 hd) rfl q
theorem g_ixor (cx : oCx p s m meth c Z own nm code maxL ret) (o : oOn p l e R s m args below meth c Z cells slots T L) {x y : Int32} (hd : decode code pc = .ok (.ixor, 1)) (hp : pc + 1 = pc') 
    (kk : oGo p e below K (T.setTop (mkF m pc' Ls (.int (x ^^^ y) :: st)))) : oGo p e below K (T.setTop (mkF m pc Ls (.int y :: .int x :: st))) := by
  subst hp; exact kk.via fun t q => XT.ixor o.here cx.1 rfl (hb cx.2.2.1 hd) rfl q
theorem g_ishl (cx : oCx p s m meth c Z own nm code maxL ret) (o : oOn p l e R s m args below meth c Z cells slots T L) {x y : Int32} (hd : decode code pc = .ok (.ishl, 1)) (hp : pc + 1 = pc') 
    (kk : oGo p e below K (T.setTop (mkF m pc' Ls (.int (x <<< (y &&& 31)) :: st)))) : oGo p e below K (T.setTop (mkF m pc Ls (.int y :: .int x :: st))) := by
  subst hp; exact kk.via fun t q => XT.ishl o.here cx.1 rfl (hb cx.2.2.1 hd) rfl q
theorem g_ishr (cx : oCx p s m meth c Z own nm code maxL ret) (o : oOn p l e R s m args below meth c Z cells slots T L) {x y : Int32} (hd : decode code pc = .ok (.ishr, 1)) (hp : pc + 1 = pc') 
    (kk : oGo p e below K (T.setTop (mkF m pc' Ls (.int (x >>> (y &&& 31)) :: st)))) : oGo p e below K (T.setTop (mkF m pc Ls (.int y :: .int x :: st))) := by
  subst hp; exact kk.via fun t q => XT.ishr o.here cx.1 rfl (hb cx.2.2.1 hd) rfl q
theorem g_iushr (cx : oCx p s m meth c Z own nm code maxL ret) (o : oOn p l e R s m args below meth c Z cells slots T L) {x y : Int32} (hd : decode code pc = .ok (.iushr, 1)) (hp : pc + 1 = pc') 
    (kk : oGo p e below K (T.setTop (mkF m pc' Ls (.int (XT.ushr x y) :: st)))) : oGo p e below K (T.setTop (mkF m pc Ls (.int y :: .int x :: st))) := by
  subst hp; exact kk.via fun t q => XT.iushr o.here cx.1 rfl (hb cx.2.2.1 hd) rfl q
theorem g_ladd (cx : oCx p s m meth c Z own nm code maxL ret) (o : oOn p l e R s m args below meth c Z cells slots T L) {x y : Int64} (hd : decode code pc = .ok (.ladd, 1)) (hp : pc + 1 = pc') 
    (kk : oGo p e below K (T.setTop (mkF m pc' Ls (.long (x + y) :: st)))) : oGo p e below K (T.setTop (mkF m pc Ls (.long y :: .long x :: st))) := by
  subst hp; exact kk.via fun t q => XT.ladd o.here cx.1 rfl (hb cx.2.2.1 hd) rfl q
theorem g_lsub (cx : oCx p s m meth c Z own nm code maxL ret) (o : oOn p l e R s m args below meth c Z cells slots T L) {x y : Int64} (hd : decode code pc = .ok (.lsub, 1)) (hp : pc + 1 = pc') 
    (kk : oGo p e below K (T.setTop (mkF m pc' Ls (.long (x - y) :: st)))) : oGo p e below K (T.setTop (mkF m pc Ls (.long y :: .long x :: st))) := by
  subst hp; exact kk.via fun t q => XT.lsub o.here cx.1 rfl (hb cx.2.2.1 hd) rfl q
theorem g_lmul (cx : oCx p s m meth c Z own nm code maxL ret) (o : oOn p l e R s m args below meth c Z cells slots T L) {x y : Int64} (hd : decode code pc = .ok (.lmul, 1)) (hp : pc + 1 = pc') 
    (kk : oGo p e below K (T.setTop (mkF m pc' Ls (.long (x * y) :: st)))) : oGo p e below K (T.setTop (mkF m pc Ls (.long y :: .long x :: st))) := by
  subst hp; exact kk.via fun t q => XT.lmul o.here cx.1 rfl (hb cx.2.2.1 hd) rfl q
theorem g_land (cx : oCx p s m meth c Z own nm code maxL ret) (o : oOn p l e R s m args below meth c Z cells slots T L) {x y : Int64} (hd : decode code pc = .ok (.land, 1)) (hp : pc + 1 = pc') 
    (kk : oGo p e below K (T.setTop (mkF m pc' Ls (.long (x &&& y) :: st)))) : oGo p e below K (T.setTop (mkF m pc Ls (.long y :: .long x :: st))) := by
  subst hp; exact kk.via fun t q => XT.land o.here cx.1 rfl (hb cx.2.2.1 hd) rfl q
theorem g_lor (cx : oCx p s m meth c Z own nm code maxL ret) (o : oOn p l e R s m args below meth c Z cells slots T L) {x y : Int64} (hd : decode code pc = .ok (.lor, 1)) (hp : pc + 1 = pc') 
    (kk : oGo p e below K (T.setTop (mkF m pc' Ls (.long (x ||| y) :: st)))) : oGo p e below K (T.setTop (mkF m pc Ls (.long y :: .long x :: st))) := by
  subst hp; exact kk.via fun t q => XT.lor o.here cx.1 rfl (hb cx.2.2.1 hd) rfl q
theorem g_lxor (cx : oCx p s m meth c Z own nm code maxL ret) (o : oOn p l e R s m args below meth c Z cells slots T L) {x y : Int64} (hd : decode code pc = .ok (.lxor, 1)) (hp : pc + 1 = pc') 
    (kk : oGo p e below K (T.setTop (mkF m pc' Ls (.long (x ^^^ y) :: st)))) : oGo p e below K (T.setTop (mkF m pc Ls (.long y :: .long x :: st))) := by
  subst hp; exact kk.via fun t q => XT.lxor o.here cx.1 rfl (hb cx.2.2.1 hd) rfl q
theorem g_idiv (cx : oCx p s m meth c Z own nm code maxL ret) (o : oOn p l e R s m args below meth c Z cells slots T L) {x y : Int32} (hd : decode code pc = .ok (.idiv, 1)) (hp : pc + 1 = pc') (hy : y ≠ 0)
    (kk : oGo p e below K (T.setTop (mkF m pc' Ls (.int (x / y) :: st)))) : oGo p e below K (T.setTop (mkF m pc Ls (.int y :: .int x :: st))) := by
  subst hp; exact kk.via fun t q => XS.idiv o.here cx.1 rfl (hb cx.2.2.1 hd) rfl hy q
theorem g_irem (cx : oCx p s m meth c Z own nm code maxL ret) (o : oOn p l e R s m args below meth c Z cells slots T L) {x y : Int32} (hd : decode code pc = .ok (.irem, 1)) (hp : pc + 1 = pc') (hy : y ≠ 0)
    (kk : oGo p e below K (T.setTop (mkF m pc' Ls (.int (x % y) :: st)))) : oGo p e below K (T.setTop (mkF m pc Ls (.int y :: .int x :: st))) := by
  subst hp; obtain ⟨_, X, -⟩ := o; exact kk.via fun t q => iremM X cx.1 rfl (hb cx.2.2.1 hd) rfl hy q
theorem g_ldiv (cx : oCx p s m meth c Z own nm code maxL ret) (o : oOn p l e R s m args below meth c Z cells slots T L) {x y : Int64} (hd : decode code pc = .ok (.ldiv, 1)) (hp : pc + 1 = pc') (hy : y ≠ 0)
    (kk : oGo p e below K (T.setTop (mkF m pc' Ls (.long (x / y) :: st)))) : oGo p e below K (T.setTop (mkF m pc Ls (.long y :: .long x :: st))) := by
  subst hp; exact kk.via fun t q => XT.ldiv o.here cx.1 rfl (hb cx.2.2.1 hd) rfl hy q
theorem g_lrem (cx : oCx p s m meth c Z own nm code maxL ret) (o : oOn p l e R s m args below meth c Z cells slots T L) {x y : Int64} (hd : decode code pc = .ok (.lrem, 1)) (hp : pc + 1 = pc') (hy : y ≠ 0)
    (kk : oGo p e below K (T.setTop (mkF m pc' Ls (.long (x - (x / y) * y) :: st)))) : oGo p e below K (T.setTop (mkF m pc Ls (.long y :: .long x :: st))) := by
  subst hp; exact kk.via fun t q => XT.lrem o.here cx.1 rfl (hb cx.2.2.1 hd) rfl hy q
theorem g_ineg (cx : oCx p s m meth c Z own nm code maxL ret) (o : oOn p l e R s m args below meth c Z cells slots T L) {x : Int32} (hd : decode code pc = .ok (.ineg, 1)) (hp : pc + 1 = pc') 
    (kk : oGo p e below K (T.setTop (mkF m pc' Ls (.int (-x) :: st)))) : oGo p e below K (T.setTop (mkF m pc Ls (.int x :: st))) := by
  subst hp; exact kk.via fun t q => XS.ineg o.here cx.1 rfl (hb cx.2.2.1 hd) rfl q
theorem g_lneg (cx : oCx p s m meth c Z own nm code maxL ret) (o : oOn p l e R s m args below meth c Z cells slots T L) {x : Int64} (hd : decode code pc = .ok (.lneg, 1)) (hp : pc + 1 = pc') 
    (kk : oGo p e below K (T.setTop (mkF m pc' Ls (.long (-x) :: st)))) : oGo p e below K (T.setTop (mkF m pc Ls (.long x :: st))) := by
  subst hp; exact kk.via fun t q => XT.lneg o.here cx.1 rfl (hb cx.2.2.1 hd) rfl q
theorem g_i2l (cx : oCx p s m meth c Z own nm code maxL ret) (o : oOn p l e R s m args below meth c Z cells slots T L) {x : Int32} (hd : decode code pc = .ok (.i2l, 1)) (hp : pc + 1 = pc') 
    (kk : oGo p e below K (T.setTop (mkF m pc' Ls (.long x.toInt64 :: st)))) : oGo p e below K (T.setTop (mkF m pc Ls (.int x :: st))) := by
  subst hp; exact kk.via fun t q => XT.i2l o.here cx.1 rfl (hb cx.2.2.1 hd) rfl q
theorem g_l2i (cx : oCx p s m meth c Z own nm code maxL ret) (o : oOn p l e R s m args below meth c Z cells slots T L) {x : Int64} (hd : decode code pc = .ok (.l2i, 1)) (hp : pc + 1 = pc') 
    (kk : oGo p e below K (T.setTop (mkF m pc' Ls (.int x.toInt32 :: st)))) : oGo p e below K (T.setTop (mkF m pc Ls (.long x :: st))) := by
  subst hp; exact kk.via fun t q => XT.l2i o.here cx.1 rfl (hb cx.2.2.1 hd) rfl q
theorem g_lcmp (cx : oCx p s m meth c Z own nm code maxL ret) (o : oOn p l e R s m args below meth c Z cells slots T L) {x y : Int64} (hd : decode code pc = .ok (.lcmp, 1)) (hp : pc + 1 = pc') 
    (kk : oGo p e below K (T.setTop (mkF m pc' Ls (.int (XT.cmpL x y) :: st)))) : oGo p e below K (T.setTop (mkF m pc Ls (.long y :: .long x :: st))) := by
  subst hp; exact kk.via fun t q => XT.lcmp o.here cx.1 rfl (hb cx.2.2.1 hd) rfl q
theorem g_iconst (cx : oCx p s m meth c Z own nm code maxL ret) (o : oOn p l e R s m args below meth c Z cells slots T L) {q : Int} (z : Int32) (hd : decode code pc = .ok (.iconst q, 1)) (hp : pc + 1 = pc') (hz : Int32.ofInt q = z)
    (kk : oGo p e below K (T.setTop (mkF m pc' Ls (.int z :: st)))) : oGo p e below K (T.setTop (mkF m pc Ls st)) := by
  subst hp hz; exact kk.via fun t r => XS.iconst o.here cx.1 rfl (hb cx.2.2.1 hd) r
theorem g_bipush (cx : oCx p s m meth c Z own nm code maxL ret) (o : oOn p l e R s m args below meth c Z cells slots T L) {q : Int} (z : Int32) (hd : decode code pc = .ok (.bipush q, 2)) (hp : pc + 2 = pc') (hz : (Int8.ofInt q).toInt32 = z)
    (kk : oGo p e below K (T.setTop (mkF m pc' Ls (.int z :: st)))) : oGo p e below K (T.setTop (mkF m pc Ls st)) := by
  subst hp hz; exact kk.via fun t r => XS.bipush o.here cx.1 rfl (hb cx.2.2.1 hd) r
theorem g_sipush (cx : oCx p s m meth c Z own nm code maxL ret) (o : oOn p l e R s m args below meth c Z cells slots T L) {q : Int} (z : Int32) (hd : decode code pc = .ok (.sipush q, 3)) (hp : pc + 3 = pc') (hz : (Int16.ofInt q).toInt32 = z)
    (kk : oGo p e below K (T.setTop (mkF m pc' Ls (.int z :: st)))) : oGo p e below K (T.setTop (mkF m pc Ls st)) := by
  subst hp hz; exact kk.via fun t r => XS.sipush o.here cx.1 rfl (hb cx.2.2.1 hd) r
theorem g_lconst (cx : oCx p s m meth c Z own nm code maxL ret) (o : oOn p l e R s m args below meth c Z cells slots T L) {f : Fin 2} (z : Int64) (hd : decode code pc = .ok (.lconst f, 1)) (hp : pc + 1 = pc') (hz : Int64.ofNat f = z)
    (kk : oGo p e below K (T.setTop (mkF m pc' Ls (.long z :: st)))) : oGo p e below K (T.setTop (mkF m pc Ls st)) := by
  subst hp hz; exact kk.via fun t r => XT.lconst o.here cx.1 rfl (hb cx.2.2.1 hd) r
theorem g_dconst0 (cx : oCx p s m meth c Z own nm code maxL ret) (o : oOn p l e R s m args below meth c Z cells slots T L) (hd : decode code pc = .ok (.dconst 0, 1)) (hp : pc + 1 = pc')
    (kk : oGo p e below K (T.setTop (mkF m pc' Ls (.double FP.dconst0 :: st)))) : oGo p e below K (T.setTop (mkF m pc Ls st)) := by
  subst hp; exact kk.via fun t r => XS.dconst0 o.here cx.1 rfl (hb cx.2.2.1 hd) rfl r
theorem g_dconst1 (cx : oCx p s m meth c Z own nm code maxL ret) (o : oOn p l e R s m args below meth c Z cells slots T L) (hd : decode code pc = .ok (.dconst 1, 1)) (hp : pc + 1 = pc')
    (kk : oGo p e below K (T.setTop (mkF m pc' Ls (.double FP.dconst1 :: st)))) : oGo p e below K (T.setTop (mkF m pc Ls st)) := by
  subst hp; exact kk.via fun t r => XS.dconst1 o.here cx.1 rfl (hb cx.2.2.1 hd) rfl r
theorem g_aconst_null (cx : oCx p s m meth c Z own nm code maxL ret) (o : oOn p l e R s m args below meth c Z cells slots T L)  (hd : decode code pc = .ok (.aconst_null, 1)) (hp : pc + 1 = pc') 
    (kk : oGo p e below K (T.setTop (mkF m pc' Ls (.null :: st)))) : oGo p e below K (T.setTop (mkF m pc Ls (st))) := by
  subst hp; exact kk.via fun t q => XS.aconstNull o.here cx.1 rfl (hb cx.2.2.1 hd)  q
theorem g_dup (cx : oCx p s m meth c Z own nm code maxL ret) (o : oOn p l e R s m args below meth c Z cells slots T L) {v : Value} (hd : decode code pc = .ok (.dup, 1)) (hp : pc + 1 = pc') (hc : v.category = 1)
    (kk : oGo p e below K (T.setTop (mkF m pc' Ls (v :: v :: st)))) : oGo p e below K (T.setTop (mkF m pc Ls (v :: st))) := by
  subst hp; exact kk.via fun t q => XS.dup o.here cx.1 rfl (hb cx.2.2.1 hd) rfl hc q
theorem g_pop (cx : oCx p s m meth c Z own nm code maxL ret) (o : oOn p l e R s m args below meth c Z cells slots T L) {v : Value} (hd : decode code pc = .ok (.pop, 1)) (hp : pc + 1 = pc') (hc : v.category = 1)
    (kk : oGo p e below K (T.setTop (mkF m pc' Ls (st)))) : oGo p e below K (T.setTop (mkF m pc Ls (v :: st))) := by
  subst hp; exact kk.via fun t q => XT.pop o.here cx.1 rfl (hb cx.2.2.1 hd) rfl hc q
theorem g_dup_x1 (cx : oCx p s m meth c Z own nm code maxL ret) (o : oOn p l e R s m args below meth c Z cells slots T L) {v w : Value} (hd : decode code pc = .ok (.dup_x1, 1)) (hp : pc + 1 = pc') (hc : v.category = 1) (hc' : w.category = 1)
    (kk : oGo p e below K (T.setTop (mkF m pc' Ls (v :: w :: v :: st)))) : oGo p e below K (T.setTop (mkF m pc Ls (v :: w :: st))) := by
  subst hp; exact kk.via fun t q => XT.dupX1 o.here cx.1 rfl (hb cx.2.2.1 hd) rfl hc hc' q
theorem g_dup2 (cx : oCx p s m meth c Z own nm code maxL ret) (o : oOn p l e R s m args below meth c Z cells slots T L) {v w : Value} (hd : decode code pc = .ok (.dup2, 1)) (hp : pc + 1 = pc') (hc : v.category = 1) (hc' : w.category = 1)
    (kk : oGo p e below K (T.setTop (mkF m pc' Ls (v :: w :: v :: w :: st)))) : oGo p e below K (T.setTop (mkF m pc Ls (v :: w :: st))) := by
  subst hp; exact kk.via fun t q => XT.dup2 o.here cx.1 rfl (hb cx.2.2.1 hd) rfl hc hc' q
theorem g_dup2L (cx : oCx p s m meth c Z own nm code maxL ret) (o : oOn p l e R s m args below meth c Z cells slots T L) {x : Int64} (hd : decode code pc = .ok (.dup2, 1)) (hp : pc + 1 = pc') 
    (kk : oGo p e below K (T.setTop (mkF m pc' Ls (.long x :: .long x :: st)))) : oGo p e below K (T.setTop (mkF m pc Ls (.long x :: st))) := by
  subst hp; exact kk.via fun t q => XT.dup2L o.here cx.1 rfl (hb cx.2.2.1 hd) rfl q
theorem g_i2d (cx : oCx p s m meth c Z own nm code maxL ret) (o : oOn p l e R s m args below meth c Z cells slots T L) {x : Int32} (hd : decode code pc = .ok (.i2d, 1)) (hp : pc + 1 = pc') 
    (kk : oGo p e below K (T.setTop (mkF m pc' Ls (.double (FP.i2d x) :: st)))) : oGo p e below K (T.setTop (mkF m pc Ls (.int x :: st))) := by
  subst hp; exact kk.via fun t q => XS.i2dS o.here cx.1 rfl (hb cx.2.2.1 hd) rfl rfl q
theorem g_l2d (cx : oCx p s m meth c Z own nm code maxL ret) (o : oOn p l e R s m args below meth c Z cells slots T L) {x : Int64} (hd : decode code pc = .ok (.l2d, 1)) (hp : pc + 1 = pc') 
    (kk : oGo p e below K (T.setTop (mkF m pc' Ls (.double (FP.l2d x) :: st)))) : oGo p e below K (T.setTop (mkF m pc Ls (.long x :: st))) := by
  subst hp; exact kk.via fun t q => XS.l2dS o.here cx.1 rfl (hb cx.2.2.1 hd) rfl rfl q
theorem g_d2l (cx : oCx p s m meth c Z own nm code maxL ret) (o : oOn p l e R s m args below meth c Z cells slots T L) {x : UInt64} (hd : decode code pc = .ok (.d2l, 1)) (hp : pc + 1 = pc') 
    (kk : oGo p e below K (T.setTop (mkF m pc' Ls (.long (FP.d2l x) :: st)))) : oGo p e below K (T.setTop (mkF m pc Ls (.double x :: st))) := by
  subst hp; exact kk.via fun t q => XS.d2lS o.here cx.1 rfl (hb cx.2.2.1 hd) rfl rfl q
theorem g_d2i (cx : oCx p s m meth c Z own nm code maxL ret) (o : oOn p l e R s m args below meth c Z cells slots T L) {x : UInt64} (hd : decode code pc = .ok (.d2i, 1)) (hp : pc + 1 = pc') 
    (kk : oGo p e below K (T.setTop (mkF m pc' Ls (.int (FP.d2i x) :: st)))) : oGo p e below K (T.setTop (mkF m pc Ls (.double x :: st))) := by
  subst hp; exact kk.via fun t q => XS.d2iS o.here cx.1 rfl (hb cx.2.2.1 hd) rfl rfl q
theorem g_dneg (cx : oCx p s m meth c Z own nm code maxL ret) (o : oOn p l e R s m args below meth c Z cells slots T L) {x : UInt64} (hd : decode code pc = .ok (.dneg, 1)) (hp : pc + 1 = pc') 
    (kk : oGo p e below K (T.setTop (mkF m pc' Ls (.double (FP.dneg x) :: st)))) : oGo p e below K (T.setTop (mkF m pc Ls (.double x :: st))) := by
  subst hp; exact kk.via fun t q => XS.dnegS o.here cx.1 rfl (hb cx.2.2.1 hd) rfl rfl q
theorem g_dcmp (cx : oCx p s m meth c Z own nm code maxL ret) (o : oOn p l e R s m args below meth c Z cells slots T L) {f : CmpOp} {x y : UInt64} (hd : decode code pc = .ok (.dcmp f, 1)) (hp : pc + 1 = pc') 
    (kk : oGo p e below K (T.setTop (mkF m pc' Ls (.int (cmpValue (FP.dcmp x y) f) :: st)))) : oGo p e below K (T.setTop (mkF m pc Ls (.double y :: .double x :: st))) := by
  subst hp; exact kk.via fun t q => XS.dcmpS o.here cx.1 rfl (hb cx.2.2.1 hd) rfl rfl q
theorem g_dadd (cx : oCx p s m meth c Z own nm code maxL ret) (o : oOn p l e R s m args below meth c Z cells slots T L) {x y : UInt64} (hd : decode code pc = .ok (.dadd, 1)) (hp : pc + 1 = pc') (hn : NoNaN64 (FP.dadd x y))
    (kk : oGo p e below K (T.setTop (mkF m pc' Ls (.double (FP.dadd x y) :: st)))) : oGo p e below K (T.setTop (mkF m pc Ls (.double y :: .double x :: st))) := by
  subst hp; exact kk.via fun t q => XS.daddS o.here cx.1 rfl (hb cx.2.2.1 hd) rfl hn rfl q
theorem g_dsub (cx : oCx p s m meth c Z own nm code maxL ret) (o : oOn p l e R s m args below meth c Z cells slots T L) {x y : UInt64} (hd : decode code pc = .ok (.dsub, 1)) (hp : pc + 1 = pc') (hn : NoNaN64 (FP.dsub x y))
    (kk : oGo p e below K (T.setTop (mkF m pc' Ls (.double (FP.dsub x y) :: st)))) : oGo p e below K (T.setTop (mkF m pc Ls (.double y :: .double x :: st))) := by
  subst hp; exact kk.via fun t q => XS.dsubS o.here cx.1 rfl (hb cx.2.2.1 hd) rfl hn rfl q
theorem g_dmul (cx : oCx p s m meth c Z own nm code maxL ret) (o : oOn p l e R s m args below meth c Z cells slots T L) {x y : UInt64} (hd : decode code pc = .ok (.dmul, 1)) (hp : pc + 1 = pc') (hn : NoNaN64 (FP.dmul x y))
    (kk : oGo p e below K (T.setTop (mkF m pc' Ls (.double (FP.dmul x y) :: st)))) : oGo p e below K (T.setTop (mkF m pc Ls (.double y :: .double x :: st))) := by
  subst hp; exact kk.via fun t q => XS.dmulS o.here cx.1 rfl (hb cx.2.2.1 hd) rfl hn rfl q
theorem g_ddiv (cx : oCx p s m meth c Z own nm code maxL ret) (o : oOn p l e R s m args below meth c Z cells slots T L) {x y : UInt64} (hd : decode code pc = .ok (.ddiv, 1)) (hp : pc + 1 = pc') (hn : NoNaN64 (FP.ddiv x y))
    (kk : oGo p e below K (T.setTop (mkF m pc' Ls (.double (FP.ddiv x y) :: st)))) : oGo p e below K (T.setTop (mkF m pc Ls (.double y :: .double x :: st))) := by
  subst hp; exact kk.via fun t q => XS.ddivS o.here cx.1 rfl (hb cx.2.2.1 hd) rfl hn rfl q
theorem g_iinc (cx : oCx p s m meth c Z own nm code maxL ret) (o : oOn p l e R s m args below meth c Z cells slots T L) {cst : Int} {x : Int32} (z : Int32) {l' : Array Slot} (hd : decode code pc = .ok (.iinc k cst, 3)) (hp : pc + 3 = pc') (hl : Ls[k]? = some (.val (.int x))) (hz : x + Int32.ofInt cst = z) (hl' : storeLocals Ls k (.int z) = some l')
    (kk : oGo p e below K (T.setTop (mkF m pc' l' st))) : oGo p e below K (T.setTop (mkF m pc Ls st)) := by
  subst hp hz; exact kk.via fun t r => XS.iinc o.here cx.1 rfl (hb cx.2.2.1 hd) hl hl' r
theorem g_lshl (cx : oCx p s m meth c Z own nm code maxL ret) (o : oOn p l e R s m args below meth c Z cells slots T L) {x : Int64} {y : Int32} (hd : decode code pc = .ok (.lshl, 1)) (hp : pc + 1 = pc') 
    (kk : oGo p e below K (T.setTop (mkF m pc' Ls (.long (x <<< (y.toInt64 &&& 63)) :: st)))) : oGo p e below K (T.setTop (mkF m pc Ls (.int y :: .long x :: st))) := by
  subst hp; exact kk.via fun t q => XT.lshl o.here cx.1 rfl (hb cx.2.2.1 hd) rfl q
theorem g_lshr (cx : oCx p s m meth c Z own nm code maxL ret) (o : oOn p l e R s m args below meth c Z cells slots T L) {x : Int64} {y : Int32} (hd : decode code pc = .ok (.lshr, 1)) (hp : pc + 1 = pc') 
    (kk : oGo p e below K (T.setTop (mkF m pc' Ls (.long (x >>> (y.toInt64 &&& 63)) :: st)))) : oGo p e below K (T.setTop (mkF m pc Ls (.int y :: .long x :: st))) := by
  subst hp; exact kk.via fun t q => XT.lshr o.here cx.1 rfl (hb cx.2.2.1 hd) rfl q
theorem g_lushr (cx : oCx p s m meth c Z own nm code maxL ret) (o : oOn p l e R s m args below meth c Z cells slots T L) {x : Int64} {y : Int32} (hd : decode code pc = .ok (.lushr, 1)) (hp : pc + 1 = pc') 
    (kk : oGo p e below K (T.setTop (mkF m pc' Ls (.long (XT.ushrL x y) :: st)))) : oGo p e below K (T.setTop (mkF m pc Ls (.int y :: .long x :: st))) := by
  subst hp; exact kk.via fun t q => XT.lushr o.here cx.1 rfl (hb cx.2.2.1 hd) rfl q
theorem g_i2b (cx : oCx p s m meth c Z own nm code maxL ret) (o : oOn p l e R s m args below meth c Z cells slots T L) {x : Int32} (hd : decode code pc = .ok (.i2b, 1)) (hp : pc + 1 = pc') 
    (kk : oGo p e below K (T.setTop (mkF m pc' Ls (.int (x.toInt8.toInt32) :: st)))) : oGo p e below K (T.setTop (mkF m pc Ls (.int x :: st))) := by
  subst hp; exact kk.via fun t q => XT.i2b o.here cx.1 rfl (hb cx.2.2.1 hd) rfl q
theorem g_i2s (cx : oCx p s m meth c Z own nm code maxL ret) (o : oOn p l e R s m args below meth c Z cells slots T L) {x : Int32} (hd : decode code pc = .ok (.i2s, 1)) (hp : pc + 1 = pc') 
    (kk : oGo p e below K (T.setTop (mkF m pc' Ls (.int (x.toInt16.toInt32) :: st)))) : oGo p e below K (T.setTop (mkF m pc Ls (.int x :: st))) := by
  subst hp; exact kk.via fun t q => XT.i2s o.here cx.1 rfl (hb cx.2.2.1 hd) rfl q
theorem g_goto (cx : oCx p s m meth c Z own nm code maxL ret) (o : oOn p l e R s m args below meth c Z cells slots T L) {off : Int} (hd : decode code pc = .ok (.goto off, 3)) (ho : 0 ≤ (pc : Int) + off) (hp : ((pc : Int) + off).toNat = pc')
    (kk : oGo p e below K (T.setTop (mkF m pc' Ls st))) : oGo p e below K (T.setTop (mkF m pc Ls st)) := by
  exact kk.via fun t q => XS.goto o.here cx.1 rfl rfl (hb cx.2.2.1 hd) ho hp q
theorem g_if_eq (cx : oCx p s m meth c Z own nm code maxL ret) (o : oOn p l e R s m args below meth c Z cells slots T L) {x : Int32} {off : Int} (hd : decode code pc = .ok (.ifCond .eq off, 3)) (ho : 0 ≤ (pc : Int) + off) (hp' : ((pc : Int) + off).toNat = pc') (hp : pc + 3 = pc2)
    (ky : x = 0 → oGo p e below K (T.setTop (mkF m pc' Ls st))) (kn : ¬ (x = 0) → oGo p e below K (T.setTop (mkF m pc2 Ls st))) : oGo p e below K (T.setTop (mkF m pc Ls (.int x :: st))) := by
  by_cases q : x = 0
  · exact (ky q).via fun t r => XS.ifYes o.here cx.1 rfl rfl (hb cx.2.2.1 hd) rfl ((if0 _ _).trans (teq q).1) ho hp' r
  · subst hp; exact (kn q).via fun t r => XS.ifNo o.here cx.1 rfl (hb cx.2.2.1 hd) rfl ((if0 _ _).trans (feq q).1) r
theorem g_icmp_eq (cx : oCx p s m meth c Z own nm code maxL ret) (o : oOn p l e R s m args below meth c Z cells slots T L) {x y : Int32} {off : Int} (hd : decode code pc = .ok (.if_icmp .eq off, 3)) (ho : 0 ≤ (pc : Int) + off) (hp' : ((pc : Int) + off).toNat = pc') (hp : pc + 3 = pc2)
    (ky : x = y → oGo p e below K (T.setTop (mkF m pc' Ls st))) (kn : ¬ (x = y) → oGo p e below K (T.setTop (mkF m pc2 Ls st))) : oGo p e below K (T.setTop (mkF m pc Ls (.int y :: .int x :: st))) := by
  by_cases q : x = y
  · exact (ky q).via fun t r => XS.icmpYes o.here cx.1 rfl rfl (hb cx.2.2.1 hd) rfl (teq q).1 ho hp' r
  · subst hp; exact (kn q).via fun t r => XS.icmpNo o.here cx.1 rfl (hb cx.2.2.1 hd) rfl (feq q).1 r
theorem g_if_ne (cx : oCx p s m meth c Z own nm code maxL ret) (o : oOn p l e R s m args below meth c Z cells slots T L) {x : Int32} {off : Int} (hd : decode code pc = .ok (.ifCond .ne off, 3)) (ho : 0 ≤ (pc : Int) + off) (hp' : ((pc : Int) + off).toNat = pc') (hp : pc + 3 = pc2)
    (ky : ¬ (x = 0) → oGo p e below K (T.setTop (mkF m pc' Ls st))) (kn : x = 0 → oGo p e below K (T.setTop (mkF m pc2 Ls st))) : oGo p e below K (T.setTop (mkF m pc Ls (.int x :: st))) := by
  by_cases q : ¬ (x = 0)
  · exact (ky q).via fun t r => XS.ifYes o.here cx.1 rfl rfl (hb cx.2.2.1 hd) rfl ((if0 _ _).trans (feq q).2) ho hp' r
  · subst hp; exact (kn (Decidable.not_not.mp q)).via fun t r => XS.ifNo o.here cx.1 rfl (hb cx.2.2.1 hd) rfl ((if0 _ _).trans (teq (Decidable.not_not.mp q)).2) r
theorem g_icmp_ne (cx : oCx p s m meth c Z own nm code maxL ret) (o : oOn p l e R s m args below meth c Z cells slots T L) {x y : Int32} {off : Int} (hd : decode code pc = .ok (.if_icmp .ne off, 3)) (ho : 0 ≤ (pc : Int) + off) (hp' : ((pc : Int) + off).toNat = pc') (hp : pc + 3 = pc2)
    (ky : ¬ (x = y) → oGo p e below K (T.setTop (mkF m pc' Ls st))) (kn : x = y → oGo p e below K (T.setTop (mkF m pc2 Ls st))) : oGo p e below K (T.setTop (mkF m pc Ls (.int y :: .int x :: st))) := by
  by_cases q : ¬ (x = y)
  · exact (ky q).via fun t r => XS.icmpYes o.here cx.1 rfl rfl (hb cx.2.2.1 hd) rfl (feq q).2 ho hp' r
  · subst hp; exact (kn (Decidable.not_not.mp q)).via fun t r => XS.icmpNo o.here cx.1 rfl (hb cx.2.2.1 hd) rfl (teq (Decidable.not_not.mp q)).2 r
theorem g_if_lt (cx : oCx p s m meth c Z own nm code maxL ret) (o : oOn p l e R s m args below meth c Z cells slots T L) {x : Int32} {off : Int} (hd : decode code pc = .ok (.ifCond .lt off, 3)) (ho : 0 ≤ (pc : Int) + off) (hp' : ((pc : Int) + off).toNat = pc') (hp : pc + 3 = pc2)
    (ky : x < 0 → oGo p e below K (T.setTop (mkF m pc' Ls st))) (kn : ¬ (x < 0) → oGo p e below K (T.setTop (mkF m pc2 Ls st))) : oGo p e below K (T.setTop (mkF m pc Ls (.int x :: st))) := by
  by_cases q : x < 0
  · exact (ky q).via fun t r => XS.ifYes o.here cx.1 rfl rfl (hb cx.2.2.1 hd) rfl ((if0 _ _).trans (tlt q).1) ho hp' r
  · subst hp; exact (kn q).via fun t r => XS.ifNo o.here cx.1 rfl (hb cx.2.2.1 hd) rfl ((if0 _ _).trans (flt q).1) r
theorem g_icmp_lt (cx : oCx p s m meth c Z own nm code maxL ret) (o : oOn p l e R s m args below meth c Z cells slots T L) {x y : Int32} {off : Int} (hd : decode code pc = .ok (.if_icmp .lt off, 3)) (ho : 0 ≤ (pc : Int) + off) (hp' : ((pc : Int) + off).toNat = pc') (hp : pc + 3 = pc2)
    (ky : x < y → oGo p e below K (T.setTop (mkF m pc' Ls st))) (kn : ¬ (x < y) → oGo p e below K (T.setTop (mkF m pc2 Ls st))) : oGo p e below K (T.setTop (mkF m pc Ls (.int y :: .int x :: st))) := by
  by_cases q : x < y
  · exact (ky q).via fun t r => XS.icmpYes o.here cx.1 rfl rfl (hb cx.2.2.1 hd) rfl (tlt q).1 ho hp' r
  · subst hp; exact (kn q).via fun t r => XS.icmpNo o.here cx.1 rfl (hb cx.2.2.1 hd) rfl (flt q).1 r
theorem g_if_ge (cx : oCx p s m meth c Z own nm code maxL ret) (o : oOn p l e R s m args below meth c Z cells slots T L) {x : Int32} {off : Int} (hd : decode code pc = .ok (.ifCond .ge off, 3)) (ho : 0 ≤ (pc : Int) + off) (hp' : ((pc : Int) + off).toNat = pc') (hp : pc + 3 = pc2)
    (ky : ¬ (x < 0) → oGo p e below K (T.setTop (mkF m pc' Ls st))) (kn : x < 0 → oGo p e below K (T.setTop (mkF m pc2 Ls st))) : oGo p e below K (T.setTop (mkF m pc Ls (.int x :: st))) := by
  by_cases q : ¬ (x < 0)
  · exact (ky q).via fun t r => XS.ifYes o.here cx.1 rfl rfl (hb cx.2.2.1 hd) rfl ((if0 _ _).trans (flt q).2.1) ho hp' r
  · subst hp; exact (kn (Decidable.not_not.mp q)).via fun t r => XS.ifNo o.here cx.1 rfl (hb cx.2.2.1 hd) rfl ((if0 _ _).trans (tlt (Decidable.not_not.mp q)).2.1) r
theorem g_icmp_ge (cx : oCx p s m meth c Z own nm code maxL ret) (o : oOn p l e R s m args below meth c Z cells slots T L) {x y : Int32} {off : Int} (hd : decode code pc = .ok (.if_icmp .ge off, 3)) (ho : 0 ≤ (pc : Int) + off) (hp' : ((pc : Int) + off).toNat = pc') (hp : pc + 3 = pc2)
    (ky : ¬ (x < y) → oGo p e below K (T.setTop (mkF m pc' Ls st))) (kn : x < y → oGo p e below K (T.setTop (mkF m pc2 Ls st))) : oGo p e below K (T.setTop (mkF m pc Ls (.int y :: .int x :: st))) := by
  by_cases q : ¬ (x < y)
  · exact (ky q).via fun t r => XS.icmpYes o.here cx.1 rfl rfl (hb cx.2.2.1 hd) rfl (flt q).2.1 ho hp' r
  · subst hp; exact (kn (Decidable.not_not.mp q)).via fun t r => XS.icmpNo o.here cx.1 rfl (hb cx.2.2.1 hd) rfl (tlt (Decidable.not_not.mp q)).2.1 r
theorem g_if_gt (cx : oCx p s m meth c Z own nm code maxL ret) (o : oOn p l e R s m args below meth c Z cells slots T L) {x : Int32} {off : Int} (hd : decode code pc = .ok (.ifCond .gt off, 3)) (ho : 0 ≤ (pc : Int) + off) (hp' : ((pc : Int) + off).toNat = pc') (hp : pc + 3 = pc2)
    (ky : 0 < x → oGo p e below K (T.setTop (mkF m pc' Ls st))) (kn : ¬ (0 < x) → oGo p e below K (T.setTop (mkF m pc2 Ls st))) : oGo p e below K (T.setTop (mkF m pc Ls (.int x :: st))) := by
  by_cases q : 0 < x
  · exact (ky q).via fun t r => XS.ifYes o.here cx.1 rfl rfl (hb cx.2.2.1 hd) rfl ((if0 _ _).trans (tlt q).2.2.1) ho hp' r
  · subst hp; exact (kn q).via fun t r => XS.ifNo o.here cx.1 rfl (hb cx.2.2.1 hd) rfl ((if0 _ _).trans (flt q).2.2.1) r
theorem g_icmp_gt (cx : oCx p s m meth c Z own nm code maxL ret) (o : oOn p l e R s m args below meth c Z cells slots T L) {x y : Int32} {off : Int} (hd : decode code pc = .ok (.if_icmp .gt off, 3)) (ho : 0 ≤ (pc : Int) + off) (hp' : ((pc : Int) + off).toNat = pc') (hp : pc + 3 = pc2)
    (ky : y < x → oGo p e below K (T.setTop (mkF m pc' Ls st))) (kn : ¬ (y < x) → oGo p e below K (T.setTop (mkF m pc2 Ls st))) : oGo p e below K (T.setTop (mkF m pc Ls (.int y :: .int x :: st))) := by
  by_cases q : y < x
  · exact (ky q).via fun t r => XS.icmpYes o.here cx.1 rfl rfl (hb cx.2.2.1 hd) rfl (tlt q).2.2.1 ho hp' r
  · subst hp; exact (kn q).via fun t r => XS.icmpNo o.here cx.1 rfl (hb cx.2.2.1 hd) rfl (flt q).2.2.1 r
theorem g_if_le (cx : oCx p s m meth c Z own nm code maxL ret) (o : oOn p l e R s m args below meth c Z cells slots T L) {x : Int32} {off : Int} (hd : decode code pc = .ok (.ifCond .le off, 3)) (ho : 0 ≤ (pc : Int) + off) (hp' : ((pc : Int) + off).toNat = pc') (hp : pc + 3 = pc2)
    (ky : ¬ (0 < x) → oGo p e below K (T.setTop (mkF m pc' Ls st))) (kn : 0 < x → oGo p e below K (T.setTop (mkF m pc2 Ls st))) : oGo p e below K (T.setTop (mkF m pc Ls (.int x :: st))) := by
  by_cases q : ¬ (0 < x)
  · exact (ky q).via fun t r => XS.ifYes o.here cx.1 rfl rfl (hb cx.2.2.1 hd) rfl ((if0 _ _).trans (flt q).2.2.2) ho hp' r
  · subst hp; exact (kn (Decidable.not_not.mp q)).via fun t r => XS.ifNo o.here cx.1 rfl (hb cx.2.2.1 hd) rfl ((if0 _ _).trans (tlt (Decidable.not_not.mp q)).2.2.2) r
theorem g_icmp_le (cx : oCx p s m meth c Z own nm code maxL ret) (o : oOn p l e R s m args below meth c Z cells slots T L) {x y : Int32} {off : Int} (hd : decode code pc = .ok (.if_icmp .le off, 3)) (ho : 0 ≤ (pc : Int) + off) (hp' : ((pc : Int) + off).toNat = pc') (hp : pc + 3 = pc2)
    (ky : ¬ (y < x) → oGo p e below K (T.setTop (mkF m pc' Ls st))) (kn : y < x → oGo p e below K (T.setTop (mkF m pc2 Ls st))) : oGo p e below K (T.setTop (mkF m pc Ls (.int y :: .int x :: st))) := by
  by_cases q : ¬ (y < x)
  · exact (ky q).via fun t r => XS.icmpYes o.here cx.1 rfl rfl (hb cx.2.2.1 hd) rfl (flt q).2.2.2 ho hp' r
  · subst hp; exact (kn (Decidable.not_not.mp q)).via fun t r => XS.icmpNo o.here cx.1 rfl (hb cx.2.2.1 hd) rfl (tlt (Decidable.not_not.mp q)).2.2.2 r
theorem g_ldc (cx : oCx p s m meth c Z own nm code maxL ret) (o : oOn p l e R s m args below meth c Z cells slots T L) {index : Nat} {z : Int32} (w : (Jvm.Cond.constant own index z).before a0 Z = true) (hd : decode code pc = .ok (.ldc index, 2)) (hp : pc + 2 = pc')
    (kk : oGo p e below K (T.setTop (mkF m pc' Ls (.int z :: st)))) : oGo p e below K (T.setTop (mkF m pc Ls st)) := by
  subst hp; obtain ⟨_, X, -⟩ := o
  exact kk.via fun t q => X.ldcInt cx.1 cx.2.2.2.2.1 (mvT cx.2.1 w) (g := mkF m pc Ls st) rfl (hb cx.2.2.1 hd) t q
theorem g_ldc2L (cx : oCx p s m meth c Z own nm code maxL ret) (o : oOn p l e R s m args below meth c Z cells slots T L) {index : Nat} {z : Int64} (w : (Jvm.Cond.constantLong own index z).before a0 Z = true) (hd : decode code pc = .ok (.ldc2_w index, 3)) (hp : pc + 3 = pc')
    (kk : oGo p e below K (T.setTop (mkF m pc' Ls (.long z :: st)))) : oGo p e below K (T.setTop (mkF m pc Ls st)) := by
  subst hp; obtain ⟨_, X, -⟩ := o
  exact kk.via fun t q => X.ldc2Long cx.1 cx.2.2.2.2.1 (mvT cx.2.1 w) (g := mkF m pc Ls st) rfl (hb cx.2.2.1 hd) t q
theorem g_ldc2D (cx : oCx p s m meth c Z own nm code maxL ret) (o : oOn p l e R s m args below meth c Z cells slots T L) {index : Nat} {z : UInt64} (w : (Jvm.Cond.constantDouble own index z).before a0 Z = true) (hd : decode code pc = .ok (.ldc2_w index, 3)) (hp : pc + 3 = pc')
    (kk : oGo p e below K (T.setTop (mkF m pc' Ls (.double z :: st)))) : oGo p e below K (T.setTop (mkF m pc Ls st)) := by
  subst hp; obtain ⟨_, X, -⟩ := o
  exact kk.via fun t q => X.ldc2DoubleC cx.1 cx.2.2.2.2.1 (mvT cx.2.1 w) (g := mkF m pc Ls st) rfl (hb cx.2.2.1 hd) t q
theorem g_getfield (cx : oCx p s m meth c Z own nm code maxL ret) (o : oOn p l e R s m args below meth c Z cells slots T L) {index : Nat} {C O n d : String} {fs : oFs} (w : (Jvm.Cond.fieldLink own index O n d).before a0 Z = true) (i j : Nat) (hi : L[i]? = some (a, oObj Z a0 C fs)) (hj : fs[j]? = some (O, n, d, v)) (hd : decode code pc = .ok (.getfield index, 3)) (hp : pc + 3 = pc')
    (kk : ∀ T', oOn p l e R s m args below meth c Z cells slots T' L → oGo p e below K (T'.setTop (mkF m pc' Ls (v :: st)))) : oGo p e below K (T.setTop (mkF m pc Ls (.ref a :: st))) := by
  subst hp; obtain ⟨lc, X, N, H⟩ := o
  obtain ⟨-, cl, hc, B⟩ := H.at_ hi
  obtain ⟨T', X', e', stp⟩ := getF X cx.1 cx.2.1 cx.2.2.2.2.1 (host := "") (Or.inl w) Via.refl rfl ((B.2 _ (List.mem_of_getElem? hj)).2.2.fld hc) (g := mkF m pc Ls (.ref a :: st)) rfl rfl (hb cx.2.2.1 hd)
  exact (kk T' ⟨lc, X', N, e' ▸ H⟩).via stp
theorem g_getfieldN (cx : oCx p s m meth c Z own nm code maxL ret) (o : oOn p l e R s m args below meth c Z cells slots T L) {index : Nat} {C O n d host : String} {fs : oFs} (w : (Jvm.Cond.fieldLinkNest own index O n d host).before a0 Z = true) (i j : Nat) (hi : L[i]? = some (a, oObj Z a0 C fs)) (hj : fs[j]? = some (O, n, d, v)) (hd : decode code pc = .ok (.getfield index, 3)) (hp : pc + 3 = pc')
    (kk : ∀ T', oOn p l e R s m args below meth c Z cells slots T' L → oGo p e below K (T'.setTop (mkF m pc' Ls (v :: st)))) : oGo p e below K (T.setTop (mkF m pc Ls (.ref a :: st))) := by
  subst hp; obtain ⟨lc, X, N, H⟩ := o
  obtain ⟨-, cl, hc, B⟩ := H.at_ hi
  obtain ⟨T', X', e', stp⟩ := getF X cx.1 cx.2.1 cx.2.2.2.2.1 (host := host) (Or.inr w) Via.refl rfl ((B.2 _ (List.mem_of_getElem? hj)).2.2.fld hc) (g := mkF m pc Ls (.ref a :: st)) rfl rfl (hb cx.2.2.1 hd)
  exact (kk T' ⟨lc, X', N, e' ▸ H⟩).via stp
theorem g_putfield (cx : oCx p s m meth c Z own nm code maxL ret) (o : oOn p l e R s m args below meth c Z cells slots T L) {index kk0 : Nat} {C O n d : String} {fs : oFs} {old : Value} {ty : FieldType} (w : (Jvm.Cond.fieldLink own index O n d).before a0 Z = true) (wl : (Jvm.Cond.lays C O n d).before a0 Z = true ∨ ((Jvm.Cond.laysFinal C O n d).before a0 Z = true ∧ own = O ∧ nm = "<init>")) (wi : (Jvm.Cond.instantiable C kk0).before a0 Z = true)
    (i j : Nat) (hi : L[i]? = some (a, oObj Z a0 C fs)) (hj : fs[j]? = some (O, n, d, old)) (ns : List String) (hns : fs.map (fun t => t.2.1) = ns) (hnd : ns.Nodup) (hty : parseFieldDescriptor d = some ty) (hn : narrow ty v = v) (hf : fits ty v = true) (hd : decode code pc = .ok (.putfield index, 3)) (hp : pc + 3 = pc')
    (kk : ∀ T', oOn p l e R s m args below meth c Z cells slots T' (L.set i (a, oObj Z a0 C (fs.set j (O, n, d, v)))) → oGo p e below K (T'.setTop (mkF m pc' Ls st))) : oGo p e below K (T.setTop (mkF m pc Ls (v :: .ref a :: st))) := by
  subst hp; obtain ⟨lc, X, N, H⟩ := o
  obtain ⟨q, cl, hc, B⟩ := H.at_ hi
  obtain ⟨T', h', X', e', Wd, stp⟩ := putF X cx.1 cx.2.1 cx.2.2.2.2.1 (host := "") (Or.inl w) Via.refl rfl ((B.2 _ (List.mem_of_getElem? hj)).2.2.fld hc) (B.1.exa hc) (wl.imp id fun z => ⟨z.1, z.2.1, cx.2.2.2.2.2.1.trans z.2.2⟩) wi hty hn hf (g := mkF m pc Ls (v :: .ref a :: st)) rfl rfl (hb cx.2.2.1 hd)
  subst e'
  exact (kk T' ⟨_, X', Fr.snoc X' N q, H.wr hi Wd fun c' hc' => hc'.put hj (hns ▸ hnd)⟩).via stp
theorem g_putfieldN (cx : oCx p s m meth c Z own nm code maxL ret) (o : oOn p l e R s m args below meth c Z cells slots T L) {index kk0 : Nat} {C O n d : String} {fs : oFs} {old v' : Value} {ty : FieldType} (w : (Jvm.Cond.fieldLink own index O n d).before a0 Z = true) (wl : (Jvm.Cond.lays C O n d).before a0 Z = true ∨ ((Jvm.Cond.laysFinal C O n d).before a0 Z = true ∧ own = O ∧ nm = "<init>")) (wi : (Jvm.Cond.instantiable C kk0).before a0 Z = true)
    (i j : Nat) (hi : L[i]? = some (a, oObj Z a0 C fs)) (hj : fs[j]? = some (O, n, d, old)) (ns : List String) (hns : fs.map (fun t => t.2.1) = ns) (hnd : ns.Nodup) (hty : parseFieldDescriptor d = some ty) (hn : narrow ty v = v') (hf : fits ty v' = true) (hd : decode code pc = .ok (.putfield index, 3)) (hp : pc + 3 = pc')
    (kk : ∀ T', oOn p l e R s m args below meth c Z cells slots T' (L.set i (a, oObj Z a0 C (fs.set j (O, n, d, v')))) → oGo p e below K (T'.setTop (mkF m pc' Ls st))) : oGo p e below K (T.setTop (mkF m pc Ls (v :: .ref a :: st))) := by
  subst hp; obtain ⟨lc, X, N, H⟩ := o
  obtain ⟨q, cl, hc, B⟩ := H.at_ hi
  obtain ⟨T', h', X', e', Wd, stp⟩ := putFN X cx.1 cx.2.1 cx.2.2.2.2.1 w Via.refl rfl ((B.2 _ (List.mem_of_getElem? hj)).2.2.fld hc) (B.1.exa hc) (wl.imp id fun z => ⟨z.1, z.2.1, cx.2.2.2.2.2.1.trans z.2.2⟩) wi hty hn hf (g := mkF m pc Ls (v :: .ref a :: st)) rfl rfl (hb cx.2.2.1 hd)
  subst e'
  exact (kk T' ⟨_, X', Fr.snoc X' N q, H.wr hi Wd fun c' hc' => hc'.put hj (hns ▸ hnd)⟩).via stp
theorem g_new (cx : oCx p s m meth c Z own nm code maxL ret) (o : oOn p l e R s m args below meth c Z cells slots T L) {index n : Nat} {C : String} {fs : oFs} (w : (Jvm.Cond.classLink own index C).before a0 Z = true) (wi : (Jvm.Cond.instantiable C n).before a0 Z = true) (wz : (Jvm.Cond.initialized C).before a0 Z = true) (hfs : ∀ t ∈ fs, Laid Z a0 C t.1 t.2.1 t.2.2.1 ∧ ∃ ty, parseFieldDescriptor t.2.2.1 = some ty ∧ defaultValue ty = t.2.2.2)
    (hc : cells + 1 ≤ R.cells) (hl : slots + n ≤ R.slots) (hd : decode code pc = .ok (.new index, 3)) (hp : pc + 3 = pc')
    (kk : ∀ T' b, oOn p l e R s m args below meth c Z (cells + 1) (slots + n) T' ((b, oObj Z a0 C fs) :: L) → oGo p e below K (T'.setTop (mkF m pc' Ls (.ref b :: st)))) : oGo p e below K (T.setTop (mkF m pc Ls st)) := by
  subst hp; obtain ⟨lc, X, N, H⟩ := o
  obtain ⟨T', h', X', e', E, A, D, ⟨cl, hcl, -, -⟩, stp⟩ := newO X cx.1 cx.2.1 cx.2.2.2.2.1 w wi wz rfl (g := mkF m pc Ls st) rfl (hb cx.2.2.1 hd) hc hl
  subst e'
  refine (kk T' _ ⟨_, X', N, H.new E hcl ⟨oExa.of A hcl, fun t ht => ?_⟩⟩).via stp
  obtain ⟨h1, ty, h2, h3⟩ := hfs t ht
  exact ⟨h1, ⟨ty, h2⟩, h3 ▸ oFld.of (D h1 h2) hcl⟩
theorem g_initO (cx : oCx p s m meth c Z own nm code maxL ret) (o : oOn p l e R s m args below meth c Z cells slots T L) {index : Nat} (w1 : (Jvm.Cond.methodLink own index Lib.objectInit).before a0 Z = true) (w2 : (Jvm.Cond.instanceMethod Lib.objectInit).before a0 Z = true) (w3 : (Jvm.Cond.code Lib.objectInit object_method_1_code 1 none).before a0 Z = true)
    (hsz : Ls.size = maxL) (W : Nat) (hW : (st.map fun v => v.category).sum ≤ W) (hf : 1 ≤ R.frames) (hl : W + 12 ≤ R.locals) (hd : decode code pc = .ok (.invokespecial index, 3)) (hp : pc + 3 = pc')
    (kk : ∀ T', oOn p l e R s m args below meth c Z cells slots T' L → oGo p e below K (T'.setTop (mkF m pc' Ls st))) : oGo p e below K (T.setTop (mkF m pc Ls (.ref a :: st))) := by
  subst hp; obtain ⟨lc, X, N, H⟩ := o
  obtain ⟨T', X', e', stp⟩ := initO X cx.1 cx.2.1 cx.2.2.2.2.1 w1 w2 w3 rfl (g := mkF m pc Ls (.ref a :: st)) rfl (hsz.trans cx.2.2.2.1.symm) rfl (hb cx.2.2.1 hd) hf (W := W) (by show 2 * 0 + _ ≤ _; omega) hl
  exact (kk T' ⟨lc, X', N, e' ▸ H⟩).via stp
theorem g_newarray (cx : oCx p s m meth c Z own nm code maxL ret) (o : oOn p l e R s m args below meth c Z cells slots T L) {aty : ArrayType} {x : Int32} {ty : FieldType} {vs : List Value} (w : (Jvm.Cond.arrayClass ty).before a0 Z = true) (hty : newarray.typeOf aty = ty) (k cap : Nat) (hk : x = Int32.ofNat k) (hvs : List.replicate k (defaultValue ty) = vs) (hcap : k ≤ cap) (hcb : cap * 8 ≤ 536870912) (hc : cells + 1 ≤ R.cells) (hl : slots + cap ≤ R.slots) (hd : decode code pc = .ok (.newarray aty, 2)) (hp : pc + 2 = pc')
    (kk : ∀ T' b, oOn p l e R s m args below meth c Z (cells + 1) (slots + cap) T' ((b, oArr Z ty vs) :: L) → oGo p e below K (T'.setTop (mkF m pc' Ls (.ref b :: st)))) : oGo p e below K (T.setTop (mkF m pc Ls (.int x :: st))) := by
  subst hp hk hty hvs; obtain ⟨lc, X, N, H⟩ := o
  have hk2 : k < 2 ^ 31 := by omega
  obtain ⟨q1, q2⟩ := o_clamp hk2
  obtain ⟨T', h', cA, X', e', E, A, stp⟩ := newP X cx.1 cx.2.1 w rfl (g := mkF m pc Ls (.int (Int32.ofNat k) :: st)) rfl (hb cx.2.2.1 hd) rfl q2 (cap := cap) (by rw [q1]; exact hcap) hcb hc hl
  subst e'
  refine (kk T' _ ⟨_, X', N, H.new E A.1 ⟨A.2.1, A.2.2, ?_, by simpa using hk2, fun u hu => ?_⟩⟩).via stp
  · show (Array.replicate (Int32.ofNat k).toNatClampNeg (defaultValue (newarray.typeOf aty))).toList = _; rw [q1, Array.toList_replicate]
  · rw [(List.mem_replicate.mp hu).2]; cases aty <;> rfl
theorem g_arraylength (cx : oCx p s m meth c Z own nm code maxL ret) (o : oOn p l e R s m args below meth c Z cells slots T L) {ty : FieldType} (i : Nat) (z : Int32) (hi : L[i]? = some (a, oArr Z ty vs)) (hz : Int32.ofNat vs.length = z) (hd : decode code pc = .ok (.arraylength, 1)) (hp : pc + 1 = pc')
    (kk : oGo p e below K (T.setTop (mkF m pc' Ls (.int z :: st)))) : oGo p e below K (T.setTop (mkF m pc Ls (.ref a :: st))) := by
  subst hp hz; obtain ⟨lc, X, N, H⟩ := o
  obtain ⟨-, cl, hc, B⟩ := H.at_ hi
  refine kk.via fun t q => X.arraylength cx.1 hc (State.isArrayOf_alike cx.2.1.alike B.1) (g := mkF m pc Ls (.ref a :: st)) rfl rfl (hb cx.2.2.1 hd) t ?_
  rw [B.size]; exact q
theorem g_getfieldO (cx : oCx p s m meth c Z own nm code maxL ret) (o : oOn p l e R s m args below meth c Z cells slots T L) {index : Nat} {O n d : String} (w : (Jvm.Cond.fieldLink own index O n d).before a0 Z = true) (F : Fld Z Z.heap a O n d v) (hd : decode code pc = .ok (.getfield index, 3)) (hp : pc + 3 = pc')
    (kk : ∀ T', oOn p l e R s m args below meth c Z cells slots T' L → oGo p e below K (T'.setTop (mkF m pc' Ls (v :: st)))) : oGo p e below K (T.setTop (mkF m pc Ls (.ref a :: st))) := by
  subst hp; obtain ⟨lc, X, N, H⟩ := o
  obtain ⟨T', X', e', stp⟩ := getF X cx.1 cx.2.1 cx.2.2.2.2.1 (host := "") (Or.inl w) Via.refl rfl (F.ext H.1) (g := mkF m pc Ls (.ref a :: st)) rfl rfl (hb cx.2.2.1 hd)
  exact (kk T' ⟨lc, X', N, e' ▸ H⟩).via stp
/-- an array of references to C's objects, with just these components -/
def oArrR (Z : State) (C : String) (vs : List Value) (cell : Cell) : Prop := oArr Z (.object C) vs cell ∧ Ovr Z cell.cls C
theorem oOn.lenR {C : String} (o : oOn p l e R s m args below meth c Z cells slots T L) (hi : L[i]? = some (a, oArrR Z C vs)) : vs.length < 2 ^ 31 := by
  obtain ⟨lc, X, N, H⟩ := o
  obtain ⟨-, cl, -, A⟩ := H.at_ hi
  exact A.1.2.2.2.1
theorem g_anewarray (cx : oCx p s m meth c Z own nm code maxL ret) (o : oOn p l e R s m args below meth c Z cells slots T L) {x : Int32} {index : Nat} {C : String} {vs : List Value} (w1 : (Jvm.Cond.classLink own index C).before a0 Z = true) (w2 : (Jvm.Cond.arrayOver (.object C)).before a0 Z = true) (k cap : Nat) (hk : x = Int32.ofNat k) (hvs : List.replicate k .null = vs) (hcap : k ≤ cap) (hcb : cap * 8 ≤ 536870912) (hc : cells + 1 ≤ R.cells) (hl : slots + cap ≤ R.slots) (hd : decode code pc = .ok (.anewarray index, 3)) (hp : pc + 3 = pc')
    (kk : ∀ T' b, oOn p l e R s m args below meth c Z (cells + 1) (slots + cap) T' ((b, oArrR Z C vs) :: L) → oGo p e below K (T'.setTop (mkF m pc' Ls (.ref b :: st)))) : oGo p e below K (T.setTop (mkF m pc Ls (.int x :: st))) := by
  subst hp hk hvs; obtain ⟨lc, X, N, H⟩ := o
  have hk2 : k < 2 ^ 31 := by omega
  obtain ⟨q1, q2⟩ := o_clamp hk2
  obtain ⟨T', h', cA, X', e', E, A, O, stp⟩ := newR X cx.1 cx.2.1 cx.2.2.2.2.1 w1 w2 rfl (g := mkF m pc Ls (.int (Int32.ofNat k) :: st)) rfl (hb cx.2.2.1 hd) rfl q2 (cap := cap) (by rw [q1]; exact hcap) hcb hc hl
  subst e'
  refine (kk T' _ ⟨_, X', N, H.new E A.1 ⟨⟨A.2.1, A.2.2, ?_, by simpa using hk2, fun u hu => ?_⟩, O⟩⟩).via stp
  · show (Array.replicate (Int32.ofNat k).toNatClampNeg Value.null).toList = _; rw [q1, Array.toList_replicate]
  · rw [(List.mem_replicate.mp hu).2]; rfl
theorem g_aastoreO (cx : oCx p s m meth c Z own nm code maxL ret) (o : oOn p l e R s m args below meth c Z cells slots T L) {x : Int32} {C : String} {y : Addr} (i k : Nat) (hi : L[i]? = some (a, oArrR Z C vs)) (hk : x = Int32.ofNat k) (hlt : k < vs.length) (I : Ins Z Z.heap y C true) (hd : decode code pc = .ok (.aastore, 1)) (hp : pc + 1 = pc')
    (kk : ∀ T', oOn p l e R s m args below meth c Z cells slots T' (L.set i (a, oArrR Z C (vs.set k (.ref y)))) → oGo p e below K (T'.setTop (mkF m pc' Ls st))) : oGo p e below K (T.setTop (mkF m pc Ls (.ref y :: .int x :: .ref a :: st))) := by
  subst hp; obtain ⟨lc, X, N, H⟩ := o
  obtain ⟨q0, cl, hc, B⟩ := H.at_ hi
  obtain ⟨q1, q2⟩ := B.1.inb hk hlt
  obtain ⟨T', h', X', e', Wd, stp⟩ := stR X cx.1 cx.2.1 rfl (B.1.arr hc) q2 rfl (Sto.of (B.1.arr hc) B.2 (I.ext H.1)) (g := mkF m pc Ls (.ref y :: .int x :: .ref a :: st)) rfl rfl (hb cx.2.2.1 hd)
  subst e'
  rw [q1] at Wd X'
  exact (kk T' ⟨_, X', Fr.snoc X' N q0, H.wr hi Wd fun c' hc' => ⟨hc'.1.put rfl, hc'.2⟩⟩).via stp
theorem g_aaloadR (cx : oCx p s m meth c Z own nm code maxL ret) (o : oOn p l e R s m args below meth c Z cells slots T L) {x : Int32} {C : String} (i k : Nat) (hi : L[i]? = some (a, oArrR Z C vs)) (hk : x = Int32.ofNat k) (hv : vs[k]? = some v) (hd : decode code pc = .ok (.aaload, 1)) (hp : pc + 1 = pc')
    (kk : oGo p e below K (T.setTop (mkF m pc' Ls (v :: st)))) : oGo p e below K (T.setTop (mkF m pc Ls (.int x :: .ref a :: st))) := by
  subst hp; obtain ⟨lc, X, N, H⟩ := o
  obtain ⟨-, cl, hc, B⟩ := H.at_ hi
  obtain ⟨q1, q2⟩ := B.1.inb hk (List.getElem?_eq_some_iff.mp hv).1
  exact kk.via fun t q => X.aaload cx.1 hc (State.isArrayOf_alike cx.2.1.alike B.1.1) rfl B.1.2.1 q2 (by rw [q1]; exact B.1.get hv) (g := mkF m pc Ls (.int x :: .ref a :: st)) rfl rfl (hb cx.2.2.1 hd) t q
theorem g_acmp_ne (cx : oCx p s m meth c Z own nm code maxL ret) (o : oOn p l e R s m args below meth c Z cells slots T L) {x y : Value} {off : Int} (hx : x.isRef = true) (hy : y.isRef = true) (hd : decode code pc = .ok (.if_acmp .ne off, 3)) (ho : 0 ≤ (pc : Int) + off) (hp' : ((pc : Int) + off).toNat = pc') (hp : pc + 3 = pc2)
    (ky : ¬ x = y → oGo p e below K (T.setTop (mkF m pc' Ls st))) (kn : x = y → oGo p e below K (T.setTop (mkF m pc2 Ls st))) : oGo p e below K (T.setTop (mkF m pc Ls (y :: x :: st))) := by
  by_cases q : x = y
  · subst hp; exact (kn q).via fun t r => XT.acmpNo o.here cx.1 rfl (hb cx.2.2.1 hd) rfl hx hy (show decide (x ≠ y) = false from decide_eq_false fun z => z q) r
  · exact (ky q).via fun t r => XT.acmpYes o.here cx.1 rfl rfl (hb cx.2.2.1 hd) rfl hx hy (show decide (x ≠ y) = true from decide_eq_true q) ho hp' r
theorem g_acmp_eq (cx : oCx p s m meth c Z own nm code maxL ret) (o : oOn p l e R s m args below meth c Z cells slots T L) {x y : Value} {off : Int} (hx : x.isRef = true) (hy : y.isRef = true) (hd : decode code pc = .ok (.if_acmp .eq off, 3)) (ho : 0 ≤ (pc : Int) + off) (hp' : ((pc : Int) + off).toNat = pc') (hp : pc + 3 = pc2)
    (ky : x = y → oGo p e below K (T.setTop (mkF m pc' Ls st))) (kn : ¬ x = y → oGo p e below K (T.setTop (mkF m pc2 Ls st))) : oGo p e below K (T.setTop (mkF m pc Ls (y :: x :: st))) := by
  by_cases q : x = y
  · exact (ky q).via fun t r => XT.acmpYes o.here cx.1 rfl rfl (hb cx.2.2.1 hd) rfl hx hy (show decide (x = y) = true from decide_eq_true q) ho hp' r
  · subst hp; exact (kn q).via fun t r => XT.acmpNo o.here cx.1 rfl (hb cx.2.2.1 hd) rfl hx hy (show decide (x = y) = false from decide_eq_false q) r
theorem g_ifnull0 (cx : oCx p s m meth c Z own nm code maxL ret) (o : oOn p l e R s m args below meth c Z cells slots T L) {off : Int} (hd : decode code pc = .ok (.ifnull off, 3)) (ho : 0 ≤ (pc : Int) + off) (hp' : ((pc : Int) + off).toNat = pc')
    (kk : oGo p e below K (T.setTop (mkF m pc' Ls st))) : oGo p e below K (T.setTop (mkF m pc Ls (.null :: st))) := kk.via fun t r => XS.ifnullYes o.here cx.1 rfl rfl (hb cx.2.2.1 hd) rfl ho hp' r
theorem g_ifnull1 (cx : oCx p s m meth c Z own nm code maxL ret) (o : oOn p l e R s m args below meth c Z cells slots T L) {off : Int} {b : Addr} (hd : decode code pc = .ok (.ifnull off, 3)) (hp : pc + 3 = pc')
    (kk : oGo p e below K (T.setTop (mkF m pc' Ls st))) : oGo p e below K (T.setTop (mkF m pc Ls (.ref b :: st))) := by subst hp; exact kk.via fun t r => XS.ifnullNo o.here cx.1 rfl (hb cx.2.2.1 hd) rfl r
theorem g_ifnonnull1 (cx : oCx p s m meth c Z own nm code maxL ret) (o : oOn p l e R s m args below meth c Z cells slots T L) {off : Int} {b : Addr} (hd : decode code pc = .ok (.ifnonnull off, 3)) (ho : 0 ≤ (pc : Int) + off) (hp' : ((pc : Int) + off).toNat = pc')
    (kk : oGo p e below K (T.setTop (mkF m pc' Ls st))) : oGo p e below K (T.setTop (mkF m pc Ls (.ref b :: st))) := kk.via fun t r => XT.ifnonnullYes o.here cx.1 rfl rfl (hb cx.2.2.1 hd) rfl ho hp' r
theorem g_ifnonnull0 (cx : oCx p s m meth c Z own nm code maxL ret) (o : oOn p l e R s m args below meth c Z cells slots T L) {off : Int} (hd : decode code pc = .ok (.ifnonnull off, 3)) (hp : pc + 3 = pc')
    (kk : oGo p e below K (T.setTop (mkF m pc' Ls st))) : oGo p e below K (T.setTop (mkF m pc Ls (.null :: st))) := by subst hp; exact kk.via fun t r => XT.ifnonnullNo o.here cx.1 rfl (hb cx.2.2.1 hd) rfl r
theorem g_getstatic (cx : oCx p s m meth c Z own nm code maxL ret) (o : oOn p l e R s m args below meth c Z cells slots T L) {index : Nat} {O n d : String} (w : (Jvm.Cond.fieldLink own index O n d).before a0 Z = true) (hS : Sta Z Z.heap O n d v) (hd : decode code pc = .ok (.getstatic index, 3)) (hp : pc + 3 = pc')
    (kk : ∀ T', oOn p l e R s m args below meth c Z cells slots T' L → oGo p e below K (T'.setTop (mkF m pc' Ls (v :: st)))) : oGo p e below K (T.setTop (mkF m pc Ls st)) := by
  subst hp; obtain ⟨lc, X, N, H⟩ := o
  obtain ⟨T', X', e', stp⟩ := getS (host := "") X cx.1 cx.2.1 cx.2.2.2.2.1 w Via.refl rfl (hS.ext H.1) (g := mkF m pc Ls st) rfl (hb cx.2.2.1 hd)
  exact (kk T' ⟨lc, X', N, e' ▸ H⟩).via stp
theorem g_iaload (cx : oCx p s m meth c Z own nm code maxL ret) (o : oOn p l e R s m args below meth c Z cells slots T L) {x : Int32} (i k : Nat) (hi : L[i]? = some (a, oArr Z .int vs)) (hk : x = Int32.ofNat k) (hv : vs[k]? = some v) (hd : decode code pc = .ok (.iaload, 1)) (hp : pc + 1 = pc')
    (kk : oGo p e below K (T.setTop (mkF m pc' Ls (v :: st)))) : oGo p e below K (T.setTop (mkF m pc Ls (.int x :: .ref a :: st))) := by
  subst hp; obtain ⟨lc, X, N, H⟩ := o
  obtain ⟨-, cl, hc, B⟩ := H.at_ hi
  obtain ⟨q1, q2⟩ := B.inb hk (List.getElem?_eq_some_iff.mp hv).1
  exact kk.via fun t q => X.iaload cx.1 hc (State.isArrayOf_alike cx.2.1.alike B.1) B.2.1 q2 (by rw [q1]; exact B.get hv) (g := mkF m pc Ls (.int x :: .ref a :: st)) rfl rfl (hb cx.2.2.1 hd) t q
theorem g_laload (cx : oCx p s m meth c Z own nm code maxL ret) (o : oOn p l e R s m args below meth c Z cells slots T L) {x : Int32} (i k : Nat) (hi : L[i]? = some (a, oArr Z .long vs)) (hk : x = Int32.ofNat k) (hv : vs[k]? = some v) (hd : decode code pc = .ok (.laload, 1)) (hp : pc + 1 = pc')
    (kk : oGo p e below K (T.setTop (mkF m pc' Ls (v :: st)))) : oGo p e below K (T.setTop (mkF m pc Ls (.int x :: .ref a :: st))) := by
  subst hp; obtain ⟨lc, X, N, H⟩ := o
  obtain ⟨-, cl, hc, B⟩ := H.at_ hi
  obtain ⟨q1, q2⟩ := B.inb hk (List.getElem?_eq_some_iff.mp hv).1
  exact kk.via fun t q => X.laload cx.1 hc (State.isArrayOf_alike cx.2.1.alike B.1) B.2.1 q2 (by rw [q1]; exact B.get hv) (g := mkF m pc Ls (.int x :: .ref a :: st)) rfl rfl (hb cx.2.2.1 hd) t q
theorem g_daload (cx : oCx p s m meth c Z own nm code maxL ret) (o : oOn p l e R s m args below meth c Z cells slots T L) {x : Int32} (i k : Nat) (hi : L[i]? = some (a, oArr Z .double vs)) (hk : x = Int32.ofNat k) (hv : vs[k]? = some v) (hd : decode code pc = .ok (.daload, 1)) (hp : pc + 1 = pc')
    (kk : oGo p e below K (T.setTop (mkF m pc' Ls (v :: st)))) : oGo p e below K (T.setTop (mkF m pc Ls (.int x :: .ref a :: st))) := by
  subst hp; obtain ⟨lc, X, N, H⟩ := o
  obtain ⟨-, cl, hc, B⟩ := H.at_ hi
  obtain ⟨q1, q2⟩ := B.inb hk (List.getElem?_eq_some_iff.mp hv).1
  exact kk.via fun t q => X.daload cx.1 hc (State.isArrayOf_alike cx.2.1.alike B.1) B.2.1 q2 (by rw [q1]; exact B.get hv) (g := mkF m pc Ls (.int x :: .ref a :: st)) rfl rfl (hb cx.2.2.1 hd) t q
theorem g_zaload (cx : oCx p s m meth c Z own nm code maxL ret) (o : oOn p l e R s m args below meth c Z cells slots T L) {x : Int32} (i k : Nat) (hi : L[i]? = some (a, oArr Z .boolean vs)) (hk : x = Int32.ofNat k) (hv : vs[k]? = some v) (hd : decode code pc = .ok (.baload, 1)) (hp : pc + 1 = pc')
    (kk : oGo p e below K (T.setTop (mkF m pc' Ls (v :: st)))) : oGo p e below K (T.setTop (mkF m pc Ls (.int x :: .ref a :: st))) := by
  subst hp; obtain ⟨lc, X, N, H⟩ := o
  obtain ⟨-, cl, hc, B⟩ := H.at_ hi
  obtain ⟨q1, q2⟩ := B.inb hk (List.getElem?_eq_some_iff.mp hv).1
  exact kk.via fun t q => X.baloadBooleans cx.1 hc (State.isArrayOf_alike cx.2.1.alike B.1) B.2.1 q2 (by rw [q1]; exact B.get hv) (g := mkF m pc Ls (.int x :: .ref a :: st)) rfl rfl (hb cx.2.2.1 hd) t q
theorem g_aaload (cx : oCx p s m meth c Z own nm code maxL ret) (o : oOn p l e R s m args below meth c Z cells slots T L) {x : Int32} {ty : FieldType} (hty : ty.isReference = true) (i k : Nat) (hi : L[i]? = some (a, oArr Z ty vs)) (hk : x = Int32.ofNat k) (hv : vs[k]? = some v) (hd : decode code pc = .ok (.aaload, 1)) (hp : pc + 1 = pc')
    (kk : oGo p e below K (T.setTop (mkF m pc' Ls (v :: st)))) : oGo p e below K (T.setTop (mkF m pc Ls (.int x :: .ref a :: st))) := by
  subst hp; obtain ⟨lc, X, N, H⟩ := o
  obtain ⟨-, cl, hc, B⟩ := H.at_ hi
  obtain ⟨q1, q2⟩ := B.inb hk (List.getElem?_eq_some_iff.mp hv).1
  exact kk.via fun t q => X.aaload cx.1 hc (State.isArrayOf_alike cx.2.1.alike B.1) hty B.2.1 q2 (by rw [q1]; exact B.get hv) (g := mkF m pc Ls (.int x :: .ref a :: st)) rfl rfl (hb cx.2.2.1 hd) t q
theorem g_iastore (cx : oCx p s m meth c Z own nm code maxL ret) (o : oOn p l e R s m args below meth c Z cells slots T L) {x : Int32} {y : Int32} (i k : Nat) (hi : L[i]? = some (a, oArr Z .int vs)) (hk : x = Int32.ofNat k) (hlt : k < vs.length) (hd : decode code pc = .ok (.iastore, 1)) (hp : pc + 1 = pc')
    (kk : ∀ T', oOn p l e R s m args below meth c Z cells slots T' (L.set i (a, oArr Z .int (vs.set k (.int y)))) → oGo p e below K (T'.setTop (mkF m pc' Ls st))) : oGo p e below K (T.setTop (mkF m pc Ls (.int y :: .int x :: .ref a :: st))) := by
  subst hp; obtain ⟨lc, X, N, H⟩ := o
  obtain ⟨q0, cl, hc, B⟩ := H.at_ hi
  obtain ⟨q1, q2⟩ := B.inb hk hlt
  obtain ⟨T', h', X', e', Wd, stp⟩ := stI X cx.1 cx.2.1 rfl (B.arr hc) q2 (g := mkF m pc Ls (.int y :: .int x :: .ref a :: st)) rfl rfl (hb cx.2.2.1 hd)
  subst e'
  rw [q1] at Wd X'
  exact (kk T' ⟨_, X', Fr.snoc X' N q0, H.wr hi Wd fun c' hc' => hc'.put rfl⟩).via stp
theorem g_lastore (cx : oCx p s m meth c Z own nm code maxL ret) (o : oOn p l e R s m args below meth c Z cells slots T L) {x : Int32} {y : Int64} (i k : Nat) (hi : L[i]? = some (a, oArr Z .long vs)) (hk : x = Int32.ofNat k) (hlt : k < vs.length) (hd : decode code pc = .ok (.lastore, 1)) (hp : pc + 1 = pc')
    (kk : ∀ T', oOn p l e R s m args below meth c Z cells slots T' (L.set i (a, oArr Z .long (vs.set k (.long y)))) → oGo p e below K (T'.setTop (mkF m pc' Ls st))) : oGo p e below K (T.setTop (mkF m pc Ls (.long y :: .int x :: .ref a :: st))) := by
  subst hp; obtain ⟨lc, X, N, H⟩ := o
  obtain ⟨q0, cl, hc, B⟩ := H.at_ hi
  obtain ⟨q1, q2⟩ := B.inb hk hlt
  obtain ⟨T', h', X', e', Wd, stp⟩ := stJ X cx.1 cx.2.1 rfl (B.arr hc) q2 (g := mkF m pc Ls (.long y :: .int x :: .ref a :: st)) rfl rfl (hb cx.2.2.1 hd)
  subst e'
  rw [q1] at Wd X'
  exact (kk T' ⟨_, X', Fr.snoc X' N q0, H.wr hi Wd fun c' hc' => hc'.put rfl⟩).via stp
theorem g_dastore (cx : oCx p s m meth c Z own nm code maxL ret) (o : oOn p l e R s m args below meth c Z cells slots T L) {x : Int32} {y : UInt64} (i k : Nat) (hi : L[i]? = some (a, oArr Z .double vs)) (hk : x = Int32.ofNat k) (hlt : k < vs.length) (hd : decode code pc = .ok (.dastore, 1)) (hp : pc + 1 = pc')
    (kk : ∀ T', oOn p l e R s m args below meth c Z cells slots T' (L.set i (a, oArr Z .double (vs.set k (.double y)))) → oGo p e below K (T'.setTop (mkF m pc' Ls st))) : oGo p e below K (T.setTop (mkF m pc Ls (.double y :: .int x :: .ref a :: st))) := by
  subst hp; obtain ⟨lc, X, N, H⟩ := o
  obtain ⟨q0, cl, hc, B⟩ := H.at_ hi
  obtain ⟨q1, q2⟩ := B.inb hk hlt
  obtain ⟨T', h', X', e', Wd, stp⟩ := stD X cx.1 cx.2.1 rfl (B.arr hc) q2 (g := mkF m pc Ls (.double y :: .int x :: .ref a :: st)) rfl rfl (hb cx.2.2.1 hd)
  subst e'
  rw [q1] at Wd X'
  exact (kk T' ⟨_, X', Fr.snoc X' N q0, H.wr hi Wd fun c' hc' => hc'.put rfl⟩).via stp
theorem g_zastore (cx : oCx p s m meth c Z own nm code maxL ret) (o : oOn p l e R s m args below meth c Z cells slots T L) {x : Int32} {y : Int32} (i k : Nat) (hi : L[i]? = some (a, oArr Z .boolean vs)) (hk : x = Int32.ofNat k) (hlt : k < vs.length) (hd : decode code pc = .ok (.bastore, 1)) (hp : pc + 1 = pc')
    (kk : ∀ T', oOn p l e R s m args below meth c Z cells slots T' (L.set i (a, oArr Z .boolean (vs.set k (.int (nar .boolean y))))) → oGo p e below K (T'.setTop (mkF m pc' Ls st))) : oGo p e below K (T.setTop (mkF m pc Ls (.int y :: .int x :: .ref a :: st))) := by
  subst hp; obtain ⟨lc, X, N, H⟩ := o
  obtain ⟨q0, cl, hc, B⟩ := H.at_ hi
  obtain ⟨q1, q2⟩ := B.inb hk hlt
  obtain ⟨T', h', X', e', Wd, stp⟩ := stZ X cx.1 cx.2.1 rfl (B.arr hc) q2 (g := mkF m pc Ls (.int y :: .int x :: .ref a :: st)) rfl rfl (hb cx.2.2.1 hd)
  subst e'
  rw [q1] at Wd X'
  exact (kk T' ⟨_, X', Fr.snoc X' N q0, H.wr hi Wd fun c' hc' => hc'.put (fits_nar_bool y)⟩).via stp
theorem g_static (cx : oCx p s m meth c Z own nm code maxL ret) (o : oOn p l e R s m args below meth c Z cells slots T L) {index : Nat} {y : MethodName} {code' : ByteArray} {maxL' : Nat} {ret' : Option FieldType} {rm : Room} {Q : Option Value → List oEnt → Prop} {as : List Value} (w1 : (Jvm.Cond.methodLink own index y).before a0 Z = true) (w2 : (Jvm.Cond.static y).before a0 Z = true) (w3 : (Jvm.Cond.initialized y.cls).before a0 Z = true) (w4 : (Jvm.Cond.code y code' maxL' ret').before a0 Z = true)
    (hM : oMeets l Z y code' maxL' ret' rm as L Q) {st0 rest : List Value} (hst : st0 = as.reverse ++ rest) {ps : List FieldType} {rr : Option FieldType} (pd : parseMethodDescriptor y.desc = some ⟨ps, rr⟩) (hln : as.length = ps.length) (hy : y.cls ≠ "java/lang/invoke/MethodHandle" ∧ y.cls ≠ "java/lang/invoke/VarHandle")
    (hsz : Ls.size = maxL) (W : Nat) (hW : (rest.map fun v => v.category).sum ≤ W) (hf : rm.frames + 1 ≤ R.frames) (hl : W + (maxL' + 11) + rm.locals ≤ R.locals) (hc : cells + rm.cells ≤ R.cells) (hs : slots + rm.slots ≤ R.slots) (hd : decode code pc = .ok (.invokestatic index, 3)) (hp : pc + 3 = pc')
    (kk : ∀ T' v L', Q v L' → oOn p l e R s m args below meth c Z (cells + rm.cells) (slots + rm.slots) T' L' → oGo p e below K (T'.setTop (mkF m pc' Ls (v.toList ++ rest)))) : oGo p e below K (T.setTop (mkF m pc Ls st0)) := by
  subst hp hst; obtain ⟨lc, X, N, H⟩ := o
  obtain ⟨v, _, ⟨T', lc', k', n'⟩, -, X', ⟨Lc, hQ, l', y', z'⟩, stp⟩ := Jvm.LawKit.callS X cx.1 (y := y) cx.2.2.2.2.1 (mvT cx.2.1 w1) (mvT cx.2.1 w2) (mvT cx.2.1 w3) (mvT cx.2.1 w4) hy (backOf (W := W) (Q := fun v hp Lc => Fr Z.heap.size Lc ∧ ∃ L', oHp Z hp L' ∧ Q v L') (hM [] T.heap H) cx.2.1 w4 w3 hf hl) (g := mkF m pc Ls (as.reverse ++ rest)) rfl (hsz.trans cx.2.2.2.1.symm) (argsL := as) (rest := rest) (lenOf pd hln) rfl (by show 2 * 0 + _ ≤ _; omega) (hb cx.2.2.1 hd) (fun _ _ => ⟨rfl, rfl, hc, hs⟩)
  dsimp only [Pt.U, Pt.locs, Pt.cells, Pt.slots] at X' l' y' z' stp hQ
  subst l' y' z'
  obtain ⟨N', L', H', q⟩ := hQ
  exact (kk T' v L' q ⟨_, X', Fr.app N N', H'⟩).via stp
theorem g_special (cx : oCx p s m meth c Z own nm code maxL ret) (o : oOn p l e R s m args below meth c Z cells slots T L) {index : Nat} {y : MethodName} {code' : ByteArray} {maxL' : Nat} {rm : Room} {Q : Option Value → List oEnt → Prop} {as : List Value} (hy1 : y.name = "<init>") (w1 : (Jvm.Cond.methodLink own index y).before a0 Z = true) (w2 : (Jvm.Cond.instanceMethod y).before a0 Z = true) (w3 : (Jvm.Cond.initialized y.cls).before a0 Z = true) (w4 : (Jvm.Cond.code y code' maxL' none).before a0 Z = true)
    (hM : oMeets l Z y code' maxL' none rm (.ref a :: as) L Q) {st0 rest : List Value} (hst : st0 = as.reverse ++ .ref a :: rest) {ps : List FieldType} {rr : Option FieldType} (pd : parseMethodDescriptor y.desc = some ⟨ps, rr⟩) (hln : as.length = ps.length) (hy : y.cls ≠ "java/lang/invoke/MethodHandle" ∧ y.cls ≠ "java/lang/invoke/VarHandle")
    (hsz : Ls.size = maxL) (W : Nat) (hW : (rest.map fun v => v.category).sum ≤ W) (hf : rm.frames + 1 ≤ R.frames) (hl : W + (maxL' + 11) + rm.locals ≤ R.locals) (hc : cells + rm.cells ≤ R.cells) (hs : slots + rm.slots ≤ R.slots) (hd : decode code pc = .ok (.invokespecial index, 3)) (hp : pc + 3 = pc')
    (kk : ∀ T' v L', Q v L' → oOn p l e R s m args below meth c Z (cells + rm.cells) (slots + rm.slots) T' L' → oGo p e below K (T'.setTop (mkF m pc' Ls (v.toList ++ rest)))) : oGo p e below K (T.setTop (mkF m pc Ls st0)) := by
  subst hp hst; obtain ⟨lc, X, N, H⟩ := o
  obtain ⟨v, _, ⟨T', lc', k', n'⟩, -, X', ⟨Lc, hQ, l', y', z'⟩, stp⟩ := X.specialBack cx.1 (y := y) hy1 cx.2.2.2.2.1 (mvT cx.2.1 w1) (mvT cx.2.1 w2) (mvT cx.2.1 w4) hy (backOf (W := W) (Q := fun v hp Lc => Fr Z.heap.size Lc ∧ ∃ L', oHp Z hp L' ∧ Q v L') (hM [] T.heap H) cx.2.1 w4 w3 hf hl) (g := mkF m pc Ls (as.reverse ++ .ref a :: rest)) rfl (hsz.trans cx.2.2.2.1.symm) (Steps.refl _) (a := a) (argsL := as) (rest := rest) (lenOf pd hln) rfl (by show 2 * 0 + _ ≤ _; omega) (hb cx.2.2.1 hd) (fun _ _ => ⟨rfl, rfl, hc, hs⟩)
  dsimp only [Pt.U, Pt.locs, Pt.cells, Pt.slots] at X' l' y' z' stp hQ
  subst l' y' z'
  obtain ⟨N', L', H', q⟩ := hQ
  exact (kk T' v L' q ⟨_, X', Fr.app N N', H'⟩).via fun t r => stp.trans r
theorem g_virtual (cx : oCx p s m meth c Z own nm code maxL ret) (o : oOn p l e R s m args below meth c Z cells slots T L) {index : Nat} {C : String} {y z : MethodName} {code' : ByteArray} {maxL' : Nat} {ret' : Option FieldType} {rm : Room} {Q : Option Value → List oEnt → Prop} {as : List Value} {fs : oFs} (w1 : (Jvm.Cond.methodLink own index y).before a0 Z = true) (w2 : (Jvm.Cond.declares y).before a0 Z = true) (hnf : NotFace s y) (w5 : (Jvm.Cond.selects C y z).before a0 Z = true) (w6 : (Jvm.Cond.instanceMethod z).before a0 Z = true) (w3 : (Jvm.Cond.initialized z.cls).before a0 Z = true) (w4 : (Jvm.Cond.code z code' maxL' ret').before a0 Z = true)
    (i : Nat) (hi : L[i]? = some (a, oObj Z a0 C fs)) (hM : oMeets l Z z code' maxL' ret' rm (.ref a :: as) L Q) {st0 rest : List Value} (hst : st0 = as.reverse ++ .ref a :: rest) {ps : List FieldType} {rr : Option FieldType} (pd : parseMethodDescriptor y.desc = some ⟨ps, rr⟩) (hln : as.length = ps.length) (hy : y.cls ≠ "java/lang/invoke/MethodHandle" ∧ y.cls ≠ "java/lang/invoke/VarHandle")
    (hsz : Ls.size = maxL) (W : Nat) (hW : (rest.map fun v => v.category).sum ≤ W) (hf : rm.frames + 1 ≤ R.frames) (hl : W + (maxL' + 11) + rm.locals ≤ R.locals) (hc : cells + rm.cells ≤ R.cells) (hs : slots + rm.slots ≤ R.slots) (hd : decode code pc = .ok (.invokevirtual index, 3)) (hp : pc + 3 = pc')
    (kk : ∀ T' v L', Q v L' → oOn p l e R s m args below meth c Z (cells + rm.cells) (slots + rm.slots) T' L' → oGo p e below K (T'.setTop (mkF m pc' Ls (v.toList ++ rest)))) : oGo p e below K (T.setTop (mkF m pc Ls st0)) := by
  subst hp hst; obtain ⟨lc, X, N, H⟩ := o
  obtain ⟨-, cl, hcl, B⟩ := H.at_ hi
  obtain ⟨cq, kq, qa, qb, qc⟩ := isOf cx.2.1 (T := T) rfl (B.1.exa hcl)
  obtain ⟨v, _, ⟨T', lc', k', n'⟩, -, X', ⟨Lc, hQ, l', y', z'⟩, stp⟩ := X.virtualBack cx.1 (y := y) (z := z) cx.2.2.2.2.1 (mvT cx.2.1 w1) (mvT cx.2.1 w2) hnf (mvT cx.2.1 w5) (mvT cx.2.1 w6) hy (backOf (W := W) (Q := fun v hp Lc => Fr Z.heap.size Lc ∧ ∃ L', oHp Z hp L' ∧ Q v L') (hM [] T.heap H) cx.2.1 w4 w3 hf hl) qa qc (g := mkF m pc Ls (as.reverse ++ .ref a :: rest)) rfl (hsz.trans cx.2.2.2.1.symm) (Steps.refl _) (argsL := as) (rest := rest) (lenOf pd hln) rfl (by show 2 * 0 + _ ≤ _; omega) (hb cx.2.2.1 hd) (fun _ _ => ⟨rfl, rfl, hc, hs⟩)
  dsimp only [Pt.U, Pt.locs, Pt.cells, Pt.slots] at X' l' y' z' stp hQ
  subst l' y' z'
  obtain ⟨N', L', H', q⟩ := hQ
  exact (kk T' v L' q ⟨_, X', Fr.app N N', H'⟩).via fun t r => stp.trans r
theorem g_private (cx : oCx p s m meth c Z own nm code maxL ret) (o : oOn p l e R s m args below meth c Z cells slots T L) {index : Nat} {C : String} {y y0 z0 : MethodName} {code' : ByteArray} {maxL' : Nat} {ret' : Option FieldType} {rm : Room} {Q : Option Value → List oEnt → Prop} {as : List Value} {fs : oFs} (w1 : (Jvm.Cond.methodLink own index y).before a0 Z = true) (w5 : (Jvm.Cond.selects C y0 z0).before a0 Z = true) (hzc : z0.cls = y.cls) (w6 : (Jvm.Cond.instanceMethod y).before a0 Z = true) (w7 : (Jvm.Cond.privateMethod y).before a0 Z = true) (w3 : (Jvm.Cond.initialized y.cls).before a0 Z = true) (w4 : (Jvm.Cond.code y code' maxL' ret').before a0 Z = true)
    (i : Nat) (hi : L[i]? = some (a, oObj Z a0 C fs)) (hM : oMeets l Z y code' maxL' ret' rm (.ref a :: as) L Q) {st0 rest : List Value} (hst : st0 = as.reverse ++ .ref a :: rest) {ps : List FieldType} {rr : Option FieldType} (pd : parseMethodDescriptor y.desc = some ⟨ps, rr⟩) (hln : as.length = ps.length) (hy : y.cls ≠ "java/lang/invoke/MethodHandle" ∧ y.cls ≠ "java/lang/invoke/VarHandle")
    (hsz : Ls.size = maxL) (W : Nat) (hW : (rest.map fun v => v.category).sum ≤ W) (hf : rm.frames + 1 ≤ R.frames) (hl : W + (maxL' + 11) + rm.locals ≤ R.locals) (hc : cells + rm.cells ≤ R.cells) (hs : slots + rm.slots ≤ R.slots) (hd : decode code pc = .ok (.invokevirtual index, 3)) (hp : pc + 3 = pc')
    (kk : ∀ T' v L', Q v L' → oOn p l e R s m args below meth c Z (cells + rm.cells) (slots + rm.slots) T' L' → oGo p e below K (T'.setTop (mkF m pc' Ls (v.toList ++ rest)))) : oGo p e below K (T.setTop (mkF m pc Ls st0)) := by
  subst hp hst; obtain ⟨lc, X, N, H⟩ := o
  obtain ⟨-, cl, hcl, B⟩ := H.at_ hi
  obtain ⟨cc, hcc, hob⟩ := (B.1.exa hcl).cell
  have hsel : (Jvm.Cond.selects y.cls y y).before args s = true := by
    obtain ⟨c2, r2, m2, -, -, q3, -, kP, hkP, hkPi⟩ := Cond.selects_spec (show (Jvm.Cond.selects C y0 z0).before args s = true from mvT cx.2.1 w5)
    exact selects_self_of_private (hzc ▸ findClass_of_methodNamed q3) hkP hkPi (Cond.privateMethod_at (args := args) (mvP cx.2.1 w7)) (mvT cx.2.1 w6) hy
  obtain ⟨v, _, ⟨T', lc', k', n'⟩, -, X', ⟨Lc, hQ, l', y', z'⟩, stp⟩ := X.privateBack cx.1 (y := y) cx.2.2.2.2.1 (mvT cx.2.1 w1) (mvT cx.2.1 w6) hsel (Cond.privateMethod_at (args := args) (mvP cx.2.1 w7)) (mvT cx.2.1 w4) hy (backOf (W := W) (Q := fun v hp Lc => Fr Z.heap.size Lc ∧ ∃ L', oHp Z hp L' ∧ Q v L') (hM [] T.heap H) cx.2.1 w4 w3 hf hl) (g := mkF m pc Ls (as.reverse ++ .ref a :: rest)) rfl (hsz.trans cx.2.2.2.1.symm) (Steps.refl _) hcc hob (argsL := as) (rest := rest) (lenOf pd hln) rfl (by show 2 * 0 + _ ≤ _; omega) (hb cx.2.2.1 hd) (fun _ _ => ⟨rfl, rfl, hc, hs⟩)
  dsimp only [Pt.U, Pt.locs, Pt.cells, Pt.slots] at X' l' y' z' stp hQ
  subst l' y' z'
  obtain ⟨N', L', H', q⟩ := hQ
  exact (kk T' v L' q ⟨_, X', Fr.app N N', H'⟩).via fun t r => stp.trans r
theorem g_virtualO (cx : oCx p s m meth c Z own nm code maxL ret) (o : oOn p l e R s m args below meth c Z cells slots T L) {index : Nat} {C : String} {y z : MethodName} {code' : ByteArray} {maxL' : Nat} {ret' : Option FieldType} {rm : Room} {Q : Option Value → List oEnt → Prop} {as : List Value} (w1 : (Jvm.Cond.methodLink own index y).before a0 Z = true) (w2 : (Jvm.Cond.declares y).before a0 Z = true) (hnf : NotFace s y) (w5 : (Jvm.Cond.selects C y z).before a0 Z = true) (w6 : (Jvm.Cond.instanceMethod z).before a0 Z = true) (w3 : (Jvm.Cond.initialized z.cls).before a0 Z = true) (w4 : (Jvm.Cond.code z code' maxL' ret').before a0 Z = true)
    (E : Exa Z Z.heap a C) (hM : oMeets l Z z code' maxL' ret' rm (.ref a :: as) L Q) {st0 rest : List Value} (hst : st0 = as.reverse ++ .ref a :: rest) {ps : List FieldType} {rr : Option FieldType} (pd : parseMethodDescriptor y.desc = some ⟨ps, rr⟩) (hln : as.length = ps.length) (hy : y.cls ≠ "java/lang/invoke/MethodHandle" ∧ y.cls ≠ "java/lang/invoke/VarHandle")
    (hsz : Ls.size = maxL) (W : Nat) (hW : (rest.map fun v => v.category).sum ≤ W) (hf : rm.frames + 1 ≤ R.frames) (hl : W + (maxL' + 11) + rm.locals ≤ R.locals) (hc : cells + rm.cells ≤ R.cells) (hs : slots + rm.slots ≤ R.slots) (hd : decode code pc = .ok (.invokevirtual index, 3)) (hp : pc + 3 = pc')
    (kk : ∀ T' v L', Q v L' → oOn p l e R s m args below meth c Z (cells + rm.cells) (slots + rm.slots) T' L' → oGo p e below K (T'.setTop (mkF m pc' Ls (v.toList ++ rest)))) : oGo p e below K (T.setTop (mkF m pc Ls st0)) := by
  subst hp hst; obtain ⟨lc, X, N, H⟩ := o
  obtain ⟨cq, kq, qa, qb, qc⟩ := isOf cx.2.1 (T := T) rfl (E.ext H.1)
  obtain ⟨v, _, ⟨T', lc', k', n'⟩, -, X', ⟨Lc, hQ, l', y', z'⟩, stp⟩ := X.virtualBack cx.1 (y := y) (z := z) cx.2.2.2.2.1 (mvT cx.2.1 w1) (mvT cx.2.1 w2) hnf (mvT cx.2.1 w5) (mvT cx.2.1 w6) hy (backOf (W := W) (Q := fun v hp Lc => Fr Z.heap.size Lc ∧ ∃ L', oHp Z hp L' ∧ Q v L') (hM [] T.heap H) cx.2.1 w4 w3 hf hl) qa qc (g := mkF m pc Ls (as.reverse ++ .ref a :: rest)) rfl (hsz.trans cx.2.2.2.1.symm) (Steps.refl _) (argsL := as) (rest := rest) (lenOf pd hln) rfl (by show 2 * 0 + _ ≤ _; omega) (hb cx.2.2.1 hd) (fun _ _ => ⟨rfl, rfl, hc, hs⟩)
  dsimp only [Pt.U, Pt.locs, Pt.cells, Pt.slots] at X' l' y' z' stp hQ
  subst l' y' z'
  obtain ⟨N', L', H', q⟩ := hQ
  exact (kk T' v L' q ⟨_, X', Fr.app N N', H'⟩).via fun t r => stp.trans r
theorem g_ret {ty : FieldType} (cx : oCx p s m meth c Z own nm code maxL (some ty)) (o : oOn p l e R s m args below meth c Z cells slots T L) {w : Value} {ins : Instr} {Q : Option Value → List oEnt → Prop} {C S : Nat} (hn : narrow ty w = w)
    (hi : (ins = .ireturn ∧ (ty = .int ∨ ty = .boolean ∨ ty = .byte ∨ ty = .char ∨ ty = .short) ∧ ∃ z, w = .int z) ∨ (ins = .lreturn ∧ ty = .long ∧ ∃ z, w = .long z) ∨ (ins = .dreturn ∧ ty = .double ∧ ∃ z, w = .double z) ∨ (ins = .freturn ∧ ty = .float ∧ ∃ z, w = .float z) ∨ (ins = .areturn ∧ ty.isReference = true ∧ w.isRef = true))
    (hd : decode code pc = .ok (ins, 1)) (hc : cells ≤ C) (hs : slots ≤ S) (hQ : Q (some w) L) : oGo p e below (oEnd s Z Q C S) (T.setTop (mkF m pc Ls (w :: st))) := by
  obtain ⟨lc, X, N, H⟩ := o
  have hlk := cx.2.2.2.2.2.2.2
  obtain ⟨fs, hr, hrun, hended, hW, hsame⟩ := X.leave (v := some w) (fun h => by rw [cx.2.2.2.2.2.2.1] at h; cases h) hlk
  exact ⟨_, _, retOut X cx.1 cx.2.2.2.2.2.2.1 hn hi (hb cx.2.2.1 hd) hr, hrun, hended, _, _, rfl, ⟨N, L, H, hQ⟩, ⟨_, rfl⟩, hW, hsame.mono hc hs⟩
theorem g_ireturn (cx : oCx p s m meth c Z own nm code maxL (some .int)) (o : oOn p l e R s m args below meth c Z cells slots T L) {z : Int32} {Q : Option Value → List oEnt → Prop} {C S : Nat} (hd : decode code pc = .ok (.ireturn, 1)) (hc : cells ≤ C) (hs : slots ≤ S) (hQ : Q (some (.int z)) L) : oGo p e below (oEnd s Z Q C S) (T.setTop (mkF m pc Ls (.int z :: st))) :=
  g_ret cx o rfl (Or.inl ⟨rfl, Or.inl rfl, z, rfl⟩) hd hc hs hQ
theorem g_ireturnZ (cx : oCx p s m meth c Z own nm code maxL (some .boolean)) (o : oOn p l e R s m args below meth c Z cells slots T L) {z : Int32} {Q : Option Value → List oEnt → Prop} {C S : Nat} (hd : decode code pc = .ok (.ireturn, 1)) (hz : z &&& 1 = z) (hc : cells ≤ C) (hs : slots ≤ S) (hQ : Q (some (.int z)) L) : oGo p e below (oEnd s Z Q C S) (T.setTop (mkF m pc Ls (.int z :: st))) :=
  g_ret cx o (show narrow .boolean (.int z) = .int z from congrArg Value.int hz) (Or.inl ⟨rfl, Or.inr (Or.inl rfl), z, rfl⟩) hd hc hs hQ
theorem g_dreturn (cx : oCx p s m meth c Z own nm code maxL (some .double)) (o : oOn p l e R s m args below meth c Z cells slots T L) {z : UInt64} {Q : Option Value → List oEnt → Prop} {C S : Nat} (hd : decode code pc = .ok (.dreturn, 1)) (hc : cells ≤ C) (hs : slots ≤ S) (hQ : Q (some (.double z)) L) : oGo p e below (oEnd s Z Q C S) (T.setTop (mkF m pc Ls (.double z :: st))) :=
  g_ret cx o rfl (Or.inr (Or.inr (Or.inl ⟨rfl, rfl, z, rfl⟩))) hd hc hs hQ
theorem g_lreturn (cx : oCx p s m meth c Z own nm code maxL (some .long)) (o : oOn p l e R s m args below meth c Z cells slots T L) {z : Int64} {Q : Option Value → List oEnt → Prop} {C S : Nat} (hd : decode code pc = .ok (.lreturn, 1)) (hc : cells ≤ C) (hs : slots ≤ S) (hQ : Q (some (.long z)) L) : oGo p e below (oEnd s Z Q C S) (T.setTop (mkF m pc Ls (.long z :: st))) :=
  g_ret cx o rfl (Or.inr (Or.inl ⟨rfl, rfl, z, rfl⟩)) hd hc hs hQ
theorem g_areturn {cn : String} (cx : oCx p s m meth c Z own nm code maxL (some (.object cn))) (o : oOn p l e R s m args below meth c Z cells slots T L) {w : Value} {Q : Option Value → List oEnt → Prop} {C S : Nat} (hw : w.isRef = true) (hd : decode code pc = .ok (.areturn, 1)) (hc : cells ≤ C) (hs : slots ≤ S) (hQ : Q (some w) L) : oGo p e below (oEnd s Z Q C S) (T.setTop (mkF m pc Ls (w :: st))) :=
  g_ret cx o (by rcases ref_cases hw with rfl | ⟨x, rfl⟩ <;> rfl) (Or.inr (Or.inr (Or.inr (Or.inr ⟨rfl, rfl, hw⟩)))) hd hc hs hQ
theorem g_return (cx : oCx p s m meth c Z own nm code maxL none) (o : oOn p l e R s m args below meth c Z cells slots T L) {Q : Option Value → List oEnt → Prop} {C S : Nat} (hd : decode code pc = .ok (.return_, 1)) (hc : cells ≤ C) (hs : slots ≤ S) (hQ : Q none L) : oGo p e below (oEnd s Z Q C S) (T.setTop (mkF m pc Ls [])) := by
  obtain ⟨lc, X, N, H⟩ := o
  have hlk := cx.2.2.2.2.2.2.2
  obtain ⟨fs, hr, hrun, hended, hW, hsame⟩ := X.leave (v := none) (fun _ => rfl) hlk
  exact ⟨_, _, X.returnOut cx.1 cx.2.2.2.2.2.2.1 (hb cx.2.2.1 hd) hr, hrun, hended, _, _, rfl, ⟨N, L, H, hQ⟩, ⟨_, rfl⟩, hW, hsame.mono hc hs⟩
end OwnRules

section OwnFP
open Jvm.FP
/-- a double's value, in units of 2^-1074 -/
abbrev oz (a : UInt64) : Int := Core.zval Core.b64 (Core.val64 a)
theorem o_sgT (c : Nat) : Core.signed true c = -(c : Int) := rfl
theorem o_sgF (c : Nat) : Core.signed false c = (c : Int) := rfl
theorem o_qmin : Core.b64.qmin = -1074 := Core.qmin_b64
theorem o_qmax : Core.b64.qmax = 971 := by decide
/-- N units are the value of some double -/
def oRep (N : Int) : Prop := ∃ V : Core.Datum, Core.fits Core.b64 V ∧ (∃ s c q, V = .fin s c q) ∧ Core.zval Core.b64 V = N
theorem oRep.ofC {N : Int} {c t : Nat} (h : N.natAbs = c * 2 ^ t) (hc : c < 2 ^ 53) (ht : t ≤ 2045) : oRep N := by
  have q1 := o_qmin
  have q2 := o_qmax
  obtain ⟨c', q', e1, e2⟩ := Core.round_exact Core.good_b64 (decide (N < 0)) (c := c) (q := (t : Int) + Core.b64.qmin) hc (by omega) (by omega)
  refine ⟨_, Core.round_fits Core.good_b64 (.fin (decide (N < 0)) c ((t : Int) + Core.b64.qmin)), ⟨_, c', q', e1⟩, ?_⟩
  rw [e1]
  show Core.signed (decide (N < 0)) (Core.inUnits c' q' Core.b64.qmin) = N
  rw [e2]
  have e3 : Core.inUnits c ((t : Int) + Core.b64.qmin) Core.b64.qmin = c * 2 ^ t := by
    show c * 2 ^ ((t : Int) + Core.b64.qmin - Core.b64.qmin).toNat = c * 2 ^ t
    rw [show ((t : Int) + Core.b64.qmin - Core.b64.qmin).toNat = t by omega]
  rw [e3, ← h]
  by_cases hn : N < 0
  · rw [decide_eq_true hn]; show -(N.natAbs : Int) = N; omega
  · rw [decide_eq_false hn]; show (N.natAbs : Int) = N; omega
theorem oRep.of {N : Int} {c t : Nat} (h : N.natAbs = c * 2 ^ t) (hc : c ≤ 2 ^ 53) (ht : t ≤ 2044) : oRep N := by
  rcases Nat.lt_or_eq_of_le hc with q | q
  · exact oRep.ofC h q (by omega)
  · exact oRep.ofC (c := 2 ^ 52) (t := t + 1) (by rw [h, q, Nat.pow_succ 2 t, ← Nat.mul_assoc, Nat.mul_right_comm]) (by decide) (by omega)
theorem o_val_fin {D V : Core.Datum} (hn : D ≠ .nan) (hV : Core.fits Core.b64 V) (hv : ∃ s c q, V = .fin s c q) (e : Core.zval Core.b64 D = Core.zval Core.b64 V) : ∃ s c q, D = .fin s c q := by
  cases D with
  | nan => exact absurd rfl hn
  | fin s c q => exact ⟨s, c, q, rfl⟩
  | inf s =>
    obtain ⟨s', c, q, rfl⟩ := hv
    have h1 := Core.zmag_lt_top Core.good_b64 hV
    have h2 : (Core.signed s (Core.zmag Core.b64 (.inf s))).natAbs = (Core.signed s' (Core.zmag Core.b64 (.fin s' c q))).natAbs := congrArg Int.natAbs e
    rw [Core.natAbs_signed, Core.natAbs_signed] at h2
    exact absurd h2 (Nat.ne_of_gt h1)
theorem o_fin_nn {a : UInt64} (h : Core.DFin a) : NoNaN64 a := val64_no.mpr fun q => by
  obtain ⟨s, c, q', e⟩ := h; rw [q] at e; cases e
theorem o_fin_ne {a : UInt64} (h : Core.DFin a) : Core.val64 a ≠ .nan := val64_no.mp (o_fin_nn h)
theorem o_ne_of_fin {V : Core.Datum} (h : ∃ s c q, V = Core.Datum.fin s c q) : V ≠ .nan := by obtain ⟨_, _, _, rfl⟩ := h; exact Core.Datum.noConfusion
theorem o_sum_ne {x y : Core.Datum} (hx : ∃ s c q, x = Core.Datum.fin s c q) (hy : ∃ s c q, y = Core.Datum.fin s c q) : Core.round Core.b64 (Core.exactSum x y) ≠ .nan := by
  obtain ⟨s, c, q, rfl⟩ := hx; obtain ⟨t, d, r, rfl⟩ := hy; exact Core.roundRatio_ne_nan _ _ _ _ _
theorem o_dadd {a b : UInt64} (ha : Core.DFin a) (hb : Core.DFin b) (h : oRep (oz a + oz b)) : Core.DFin (FP.dadd a b) ∧ oz (FP.dadd a b) = oz a + oz b := by
  obtain ⟨V, fV, vV, eV⟩ := h
  have e : Core.val64 (FP.dadd a b) = Core.round Core.b64 (Core.exactSum (Core.val64 a) (Core.val64 b)) := Core.val64_dadd a b
  have l := Core.sum_le Core.good_b64 ha hb (Core.val64_fits a) (Core.val64_fits b) fV (o_ne_of_fin vV) (by rw [eV]; exact Int.le_refl _)
  have g := Core.sum_ge Core.good_b64 ha hb (Core.val64_fits a) (Core.val64_fits b) fV (o_ne_of_fin vV) (by rw [eV]; exact Int.le_refl _)
  have ez := Int.le_antisymm l g
  refine ⟨?_, ?_⟩
  · show ∃ s c q, Core.val64 (FP.dadd a b) = .fin s c q
    rw [e]; exact o_val_fin (o_sum_ne ha hb) fV vV ez
  · show Core.zval Core.b64 (Core.val64 (FP.dadd a b)) = _
    rw [e, ez, eV]
theorem o_neg_fin {x : Core.Datum} (h : ∃ s c q, x = Core.Datum.fin s c q) : ∃ s c q, Core.negate x = Core.Datum.fin s c q := by obtain ⟨s, c, q, rfl⟩ := h; exact ⟨_, _, _, rfl⟩
theorem o_dsub {a b : UInt64} (ha : Core.DFin a) (hb : Core.DFin b) (h : oRep (oz a - oz b)) : Core.DFin (FP.dsub a b) ∧ oz (FP.dsub a b) = oz a - oz b := by
  obtain ⟨V, fV, vV, eV⟩ := h
  have e : Core.val64 (FP.dsub a b) = Core.round Core.b64 (Core.exactSum (Core.val64 a) (Core.negate (Core.val64 b))) := Core.val64_dsub a b
  have hb' := o_neg_fin hb
  have zb : Core.zval Core.b64 (Core.val64 a) + Core.zval Core.b64 (Core.negate (Core.val64 b)) = Core.zval Core.b64 V := by rw [Core.zval_negate, eV]; exact (Int.sub_eq_add_neg).symm
  have l := Core.sum_le Core.good_b64 ha hb' (Core.val64_fits a) (Core.negate_fits (Core.val64_fits b)) fV (o_ne_of_fin vV) (Int.le_of_eq zb)
  have g := Core.sum_ge Core.good_b64 ha hb' (Core.val64_fits a) (Core.negate_fits (Core.val64_fits b)) fV (o_ne_of_fin vV) (Int.le_of_eq zb.symm)
  have ez := Int.le_antisymm l g
  refine ⟨?_, ?_⟩
  · show ∃ s c q, Core.val64 (FP.dsub a b) = .fin s c q
    rw [e]; exact o_val_fin (o_sum_ne ha hb') fV vV ez
  · show Core.zval Core.b64 (Core.val64 (FP.dsub a b)) = _
    rw [e, ez, eV]
theorem o_two : ((2 ^ (Core.b64.qmin - 2 * Core.b64.qmin).toNat : Nat) : Int) = (Core.one64 : Int) := by
  rw [show (Core.b64.qmin - 2 * Core.b64.qmin) = -Core.b64.qmin by omega, Core.pow_qmin64]
theorem o_dmul {a b : UInt64} {N : Int} (ha : Core.DFin a) (hb : Core.DFin b) (hN : oz a * oz b = N * (Core.one64 : Int)) (h : oRep N) : Core.DFin (FP.dmul a b) ∧ oz (FP.dmul a b) = N := by
  obtain ⟨V, fV, vV, eV⟩ := h
  have e : Core.val64 (FP.dmul a b) = Core.round Core.b64 (Core.exactProduct (Core.val64 a) (Core.val64 b)) := Core.val64_dmul a b
  have fa := Core.val64_fits a
  have fb := Core.val64_fits b
  obtain ⟨s, c, q, h1⟩ := ha
  obtain ⟨t, d, r, h2⟩ := hb
  have hN' : Core.zval Core.b64 (Core.val64 a) * Core.zval Core.b64 (Core.val64 b) = N * (Core.one64 : Int) := hN
  rw [h1] at fa hN' e
  rw [h2] at fb hN' e
  obtain ⟨p1, p2, p3⟩ := Core.product_units fa fb
  rw [p1] at e
  have key : Core.signed (s != t) (Core.inUnits (c * d) (q + r) (2 * Core.b64.qmin)) = Core.zval Core.b64 V * ((2 ^ (Core.b64.qmin - 2 * Core.b64.qmin).toNat : Nat) : Int) := by
    rw [p3, Core.signed_xor, o_two, eV]; exact hN'
  have q0 := Core.qmin_neg Core.good_b64
  have l := Core.zval_round_le Core.good_b64 fV (o_ne_of_fin vV) (e0 := 2 * Core.b64.qmin) (by omega) p2 (Int.le_of_eq key)
  have g := Core.zval_round_ge Core.good_b64 fV (o_ne_of_fin vV) (e0 := 2 * Core.b64.qmin) (by omega) p2 (Int.le_of_eq key.symm)
  have ez := Int.le_antisymm l g
  refine ⟨?_, ?_⟩
  · show ∃ s c q, Core.val64 (FP.dmul a b) = .fin s c q
    rw [e]; exact o_val_fin (Core.roundRatio_ne_nan _ _ _ _ _) fV vV ez
  · show Core.zval Core.b64 (Core.val64 (FP.dmul a b)) = _
    rw [e, ez, eV]
/-! the quotient, by magnitudes -/
theorem o_quot {a b : UInt64} (ha : Core.DFin a) (hb : Core.DFin b) (hz : oz b ≠ 0) : ∃ s t c q d r, Core.val64 a = .fin s c q ∧ Core.val64 b = .fin t d r ∧ d ≠ 0 ∧ Core.val64 (FP.ddiv a b) = Core.roundRatio Core.b64 (s != t) c d (q - r) := by
  obtain ⟨s, c, q, h1⟩ := ha
  obtain ⟨t, d, r, h2⟩ := hb
  have hd : d ≠ 0 := fun e => hz (by show Core.zval Core.b64 (Core.val64 b) = 0; rw [h2, e]; show Core.signed t (0 * _) = 0; rw [Nat.zero_mul]; cases t <;> rfl)
  refine ⟨s, t, c, q, d, r, h1, h2, hd, ?_⟩
  have e : Core.val64 (FP.ddiv a b) = Core.quotient Core.b64 (Core.val64 a) (Core.val64 b) := Core.val64_ddiv a b
  rw [e, h1, h2]
  show (if d = 0 then _ else _) = _
  rw [if_neg hd]
theorem o_units {c d : Nat} {q r e0 : Int} {N : Nat} (fq : Core.b64.qmin ≤ q) (fr : Core.b64.qmin ≤ r) (h0 : e0 ≤ Core.b64.qmin) (h1 : e0 ≤ q - r) :
    (Core.inUnits c (q - r) e0 ≤ N * 2 ^ (Core.b64.qmin - e0).toNat * d ↔ Core.inUnits c q Core.b64.qmin * Core.one64 ≤ N * Core.inUnits d r Core.b64.qmin) ∧
    (N * 2 ^ (Core.b64.qmin - e0).toNat * d ≤ Core.inUnits c (q - r) e0 ↔ N * Core.inUnits d r Core.b64.qmin ≤ Core.inUnits c q Core.b64.qmin * Core.one64) := by
  have q0 := o_qmin
  have e1 : Core.one64 = 2 ^ 1074 := rfl
  have hp : 0 < 2 ^ (r - e0 - Core.b64.qmin).toNat := Nat.two_pow_pos _
  have hp2 : 0 < 2 ^ (Core.b64.qmin - e0).toNat := Nat.two_pow_pos _
  have A : Core.inUnits c (q - r) e0 * 2 ^ (r - Core.b64.qmin).toNat = Core.inUnits c q Core.b64.qmin * Core.one64 * 2 ^ (Core.b64.qmin - e0).toNat := by
    show c * 2 ^ (q - r - e0).toNat * 2 ^ (r - Core.b64.qmin).toNat = c * 2 ^ (q - Core.b64.qmin).toNat * Core.one64 * 2 ^ (Core.b64.qmin - e0).toNat
    rw [e1, Nat.mul_assoc, ← Nat.pow_add, Nat.mul_assoc, Nat.mul_assoc, ← Nat.pow_add, ← Nat.pow_add]
    congr 2
    omega
  have B : N * 2 ^ (Core.b64.qmin - e0).toNat * d * 2 ^ (r - Core.b64.qmin).toNat = N * Core.inUnits d r Core.b64.qmin * 2 ^ (Core.b64.qmin - e0).toNat := by
    show _ = N * (d * 2 ^ (r - Core.b64.qmin).toNat) * 2 ^ (Core.b64.qmin - e0).toNat
    generalize 2 ^ (Core.b64.qmin - e0).toNat = X
    generalize 2 ^ (r - Core.b64.qmin).toNat = Y
    rw [Nat.mul_assoc, Nat.mul_right_comm]
  have hr : 0 < 2 ^ (r - Core.b64.qmin).toNat := Nat.two_pow_pos _
  constructor
  · rw [← Nat.mul_le_mul_right_iff hr, A, B, Nat.mul_le_mul_right_iff hp2]
  · rw [← Nat.mul_le_mul_right_iff hr, A, B, Nat.mul_le_mul_right_iff hp2]
theorem o_zmag {a : UInt64} {s : Bool} {c : Nat} {q : Int} (h : Core.val64 a = .fin s c q) : (oz a).natAbs = Core.inUnits c q Core.b64.qmin ∧ Core.b64.qmin ≤ q := by
  have f := Core.val64_fits a
  refine ⟨?_, by rw [h] at f; exact f.2.1⟩
  show (Core.zval Core.b64 (Core.val64 a)).natAbs = _
  rw [h]; exact Core.natAbs_signed _ _
theorem o_ddiv_le {a b : UInt64} {V : Core.Datum} (ha : Core.DFin a) (hb : Core.DFin b) (hz : oz b ≠ 0) (fV : Core.fits Core.b64 V) (hn : V ≠ .nan) (h : (oz a).natAbs * Core.one64 ≤ Core.zmag Core.b64 V * (oz b).natAbs) : (oz (FP.ddiv a b)).natAbs ≤ Core.zmag Core.b64 V := by
  obtain ⟨s, t, c, q, d, r, h1, h2, hd, e⟩ := o_quot ha hb hz
  obtain ⟨m1, f1⟩ := o_zmag h1
  obtain ⟨m2, f2⟩ := o_zmag h2
  rw [m1, m2] at h
  have k := Core.zmag_roundRatio_le Core.good_b64 (s := s != t) (A := c) (B := d) (e := q - r) (e0 := min Core.b64.qmin (q - r)) (V := V) (Nat.pos_of_ne_zero hd) fV hn (by omega) (by omega) ((o_units f1 f2 (by omega) (by omega)).1.mpr h)
  show (Core.zval Core.b64 (Core.val64 (FP.ddiv a b))).natAbs ≤ _
  rw [e]; show (Core.signed (Core.sgn _) (Core.zmag Core.b64 _)).natAbs ≤ _; rw [Core.natAbs_signed]; exact k
theorem o_ddiv_ge {a b : UInt64} {V : Core.Datum} (ha : Core.DFin a) (hb : Core.DFin b) (hz : oz b ≠ 0) (fV : Core.fits Core.b64 V) (h : Core.zmag Core.b64 V * (oz b).natAbs ≤ (oz a).natAbs * Core.one64) : Core.zmag Core.b64 V ≤ (oz (FP.ddiv a b)).natAbs := by
  obtain ⟨s, t, c, q, d, r, h1, h2, hd, e⟩ := o_quot ha hb hz
  obtain ⟨m1, f1⟩ := o_zmag h1
  obtain ⟨m2, f2⟩ := o_zmag h2
  rw [m1, m2] at h
  have k := Core.zmag_roundRatio_ge Core.good_b64 (s := s != t) (A := c) (B := d) (e := q - r) (e0 := min Core.b64.qmin (q - r)) (V := V) (Nat.pos_of_ne_zero hd) fV (by omega) (by omega) ((o_units f1 f2 (by omega) (by omega)).2.mpr h)
  show _ ≤ (Core.zval Core.b64 (Core.val64 (FP.ddiv a b))).natAbs
  rw [e]; show _ ≤ (Core.signed (Core.sgn _) (Core.zmag Core.b64 _)).natAbs; rw [Core.natAbs_signed]; exact k
theorem o_ddiv_nn {a b : UInt64} (ha : Core.DFin a) (hb : Core.DFin b) (hz : oz b ≠ 0) : NoNaN64 (FP.ddiv a b) := val64_no.mpr (by
  obtain ⟨s, t, c, q, d, r, h1, h2, hd, e⟩ := o_quot ha hb hz
  rw [e]; exact Core.roundRatio_ne_nan _ _ _ _ _)
/-- the quotient's sign: as the operands' (of a quotient that isn't nought) -/
theorem o_ddiv_sgn {a b : UInt64} (ha : Core.DFin a) (hb : Core.DFin b) (hz : oz b ≠ 0) : (0 ≤ oz a → 0 < oz b → 0 ≤ oz (FP.ddiv a b)) ∧ (oz a < 0 → 0 < oz b → oz (FP.ddiv a b) ≤ 0) ∧ (0 < oz a → oz b < 0 → oz (FP.ddiv a b) ≤ 0) ∧ (oz a < 0 → oz b < 0 → 0 ≤ oz (FP.ddiv a b)) ∧ (oz a = 0 → oz (FP.ddiv a b) = 0) := by
  obtain ⟨s, t, c, q, d, r, h1, h2, hd, e⟩ := o_quot ha hb hz
  have za : oz a = Core.signed s (Core.inUnits c q Core.b64.qmin) := by show Core.zval Core.b64 (Core.val64 a) = _; rw [h1]; rfl
  have zb : oz b = Core.signed t (Core.inUnits d r Core.b64.qmin) := by show Core.zval Core.b64 (Core.val64 b) = _; rw [h2]; rfl
  have zq : oz (FP.ddiv a b) = Core.signed (s != t) (Core.zmag Core.b64 (Core.roundRatio Core.b64 (s != t) c d (q - r))) := by
    show Core.zval Core.b64 (Core.val64 (FP.ddiv a b)) = _
    rw [e]; show Core.signed (Core.sgn _) (Core.zmag Core.b64 _) = _; rw [Core.sgn_roundRatio]
  have p1 : 0 < d * 2 ^ (r - Core.b64.qmin).toNat := Nat.mul_pos (Nat.pos_of_ne_zero hd) (Nat.two_pow_pos _)
  have p0 : oz a = 0 → oz (FP.ddiv a b) = 0 := fun h => by
    have hc : c = 0 := by
      have : Core.inUnits c q Core.b64.qmin = 0 := by rw [za] at h; exact (Core.signed_eq_zero _ _).mp h
      have h3 : c * 2 ^ (q - Core.b64.qmin).toNat = 0 := this
      rcases Nat.mul_eq_zero.mp h3 with h4 | h4
      · exact h4
      · exact absurd h4 (Nat.ne_of_gt (Nat.two_pow_pos _))
    rw [zq, hc]
    have : Core.roundRatio Core.b64 (s != t) 0 d (q - r) = .fin (s != t) 0 Core.b64.qmin := rfl
    rw [this]; show Core.signed (s != t) (0 * _) = 0; rw [Nat.zero_mul]; cases s <;> cases t <;> rfl
  have zb' : oz b = Core.signed t (d * 2 ^ (r - Core.b64.qmin).toNat) := zb
  generalize Core.zmag Core.b64 (Core.roundRatio Core.b64 (s != t) c d (q - r)) = M at zq
  generalize Core.inUnits c q Core.b64.qmin = A at za
  generalize d * 2 ^ (r - Core.b64.qmin).toNat = B at zb' p1
  refine ⟨fun h h' => ?_, fun h h' => ?_, fun h h' => ?_, fun h h' => ?_, p0⟩
  · by_cases h0 : oz a = 0
    · rw [p0 h0]; exact Int.le_refl _
    · rw [zq]; rw [za] at h h0; rw [zb'] at h'; cases s <;> cases t <;> simp [o_sgT, o_sgF] at h h0 h' ⊢ <;> omega
  · rw [zq]; rw [za] at h; rw [zb'] at h'; cases s <;> cases t <;> simp [o_sgT, o_sgF] at h h' ⊢ <;> omega
  · rw [zq]; rw [za] at h; rw [zb'] at h'; cases s <;> cases t <;> simp [o_sgT, o_sgF] at h h' ⊢ <;> omega
  · rw [zq]; rw [za] at h; rw [zb'] at h'; cases s <;> cases t <;> simp [o_sgT, o_sgF] at h h' ⊢ <;> omega
theorem o_ddiv {a b : UInt64} {N : Int} (ha : Core.DFin a) (hb : Core.DFin b) (hz : oz b ≠ 0) (hN : oz a * (Core.one64 : Int) = N * oz b) (h : oRep N) : Core.DFin (FP.ddiv a b) ∧ oz (FP.ddiv a b) = N := by
  obtain ⟨V, fV, vV, eV⟩ := h
  have hm := congrArg Int.natAbs hN
  rw [Int.natAbs_mul, Int.natAbs_mul, Int.natAbs_natCast] at hm
  have eV' : Core.zmag Core.b64 V = N.natAbs := by rw [← eV]; exact (Core.natAbs_signed _ _).symm
  have l := o_ddiv_le ha hb hz fV (o_ne_of_fin vV) (by rw [eV', hm]; exact Nat.le_refl _)
  have g := o_ddiv_ge ha hb hz fV (by rw [eV', hm]; exact Nat.le_refl _)
  have hM : (oz (FP.ddiv a b)).natAbs = N.natAbs := by rw [← eV']; exact Nat.le_antisymm l g
  obtain ⟨s1, s2, s3, s4, s5⟩ := o_ddiv_sgn ha hb hz
  have hp : (0 : Int) < (Core.one64 : Int) := by have := Core.one64_pos; omega
  have hsg : oz (FP.ddiv a b) = N := by
    rcases Int.lt_trichotomy (oz a) 0 with h1 | h1 | h1
    · rcases Int.lt_trichotomy (oz b) 0 with h2 | h2 | h2
      · have := s4 h1 h2
        have h3 : ¬ N < 0 := fun hn => by
          have := Int.mul_pos_of_neg_of_neg hn h2
          have := Int.mul_neg_of_neg_of_pos h1 hp
          omega
        omega
      · exact absurd h2 hz
      · have := s2 h1 h2
        have h3 : ¬ 0 < N := fun hn => by
          have := Int.mul_pos hn h2
          have := Int.mul_neg_of_neg_of_pos h1 hp
          omega
        omega
    · have := s5 h1; omega
    · rcases Int.lt_trichotomy (oz b) 0 with h2 | h2 | h2
      · have := s3 h1 h2
        have h3 : ¬ 0 < N := fun hn => by
          have := Int.mul_neg_of_pos_of_neg hn h2
          have := Int.mul_pos h1 hp
          omega
        omega
      · exact absurd h2 hz
      · have := s1 (Int.le_of_lt h1) h2
        have h3 : ¬ N < 0 := fun hn => by
          have := Int.mul_neg_of_neg_of_pos hn h2
          have := Int.mul_pos h1 hp
          omega
        omega
  refine ⟨?_, hsg⟩
  exact o_val_fin (val64_no.mp (o_ddiv_nn ha hb hz)) fV vV (by rw [eV]; exact hsg)
/-! numbers n / 2^k -/
/-- a's value is n / 2^k -/
def oR (n : Int) (k : Nat) (a : UInt64) : Prop := Core.DFin a ∧ oz a * ((2 ^ k : Nat) : Int) = n * (Core.one64 : Int)
theorem o_pow_pos (k : Nat) : (0 : Int) < ((2 ^ k : Nat) : Int) := by have := Nat.two_pow_pos k; omega
theorem oR.fin {n : Int} {k : Nat} {a : UInt64} (h : oR n k a) : Core.DFin a := h.1
theorem oR.nn {n : Int} {k : Nat} {a : UInt64} (h : oR n k a) : NoNaN64 a := o_fin_nn h.1
theorem o_one (k : Nat) (hk : k ≤ 1074) : (Core.one64 : Int) = ((2 ^ (1074 - k) : Nat) : Int) * ((2 ^ k : Nat) : Int) := by
  rw [← Int.natCast_mul, ← Nat.pow_add, show 1074 - k + k = 1074 by omega]; rfl
theorem oR.z {n : Int} {k : Nat} {a : UInt64} (h : oR n k a) (hk : k ≤ 1074) : oz a = n * ((2 ^ (1074 - k) : Nat) : Int) := by
  have := h.2
  rw [o_one k hk, ← Int.mul_assoc] at this
  exact Int.eq_of_mul_eq_mul_right (Int.ne_of_gt (o_pow_pos k)) this
theorem oR.mk' {n : Int} {k : Nat} {a : UInt64} (f : Core.DFin a) (hk : k ≤ 1074) (h : oz a = n * ((2 ^ (1074 - k) : Nat) : Int)) : oR n k a := ⟨f, by rw [h, o_one k hk, Int.mul_assoc]⟩
theorem oRep.dy {n : Int} {k : Nat} (hn : n.natAbs ≤ 2 ^ 53) (hk : k ≤ 1074) : oRep (n * ((2 ^ (1074 - k) : Nat) : Int)) :=
  oRep.of (c := n.natAbs) (t := 1074 - k) (by rw [Int.natAbs_mul, Int.natAbs_natCast]) hn (by omega)
theorem oR.up {n : Int} {k : Nat} {a : UInt64} (h : oR n k a) (j : Nat) : oR (n * ((2 ^ j : Nat) : Int)) (k + j) a := ⟨h.1, by
  rw [Nat.pow_add, Int.natCast_mul, ← Int.mul_assoc, h.2, Int.mul_right_comm]⟩
theorem oR.cast {n n' : Int} {k : Nat} {a : UInt64} (h : oR n k a) (e : n = n') : oR n' k a := e ▸ h
theorem oR.int {i : Int} {a : UInt64} (h : Core.DInt i a) : oR i 0 a := by
  refine ⟨?_, ?_⟩
  · show ∃ s c q, Core.val64 a = .fin s c q
    have h' : Core.Whole i (Core.val64 a) := h
    cases e : Core.val64 a with
    | nan => rw [e] at h'; exact h'.elim
    | inf s => rw [e] at h'; exact h'.elim
    | fin s c q => exact ⟨s, c, q, rfl⟩
  · rw [show oz a = i * (Core.one64 : Int) from Core.DInt_zval h]; simp
theorem oR.i2d (x : Int32) : oR x.toInt 0 (FP.i2d x) := .int (Core.i2d_int x)
theorem oR.l2d {x : Int64} (h : x.toInt.natAbs ≤ 2 ^ 53) : oR x.toInt 0 (FP.l2d x) := .int (Core.l2d_int h)
theorem oR.add {n n' : Int} {k : Nat} {a b : UInt64} (ha : oR n k a) (hb : oR n' k b) (h : (n + n').natAbs ≤ 2 ^ 53) (hk : k ≤ 1074) : oR (n + n') k (FP.dadd a b) := by
  have e : oz a + oz b = (n + n') * ((2 ^ (1074 - k) : Nat) : Int) := by rw [ha.z hk, hb.z hk, Int.add_mul]
  obtain ⟨f, z⟩ := o_dadd ha.1 hb.1 (by rw [e]; exact oRep.dy h hk)
  exact .mk' f hk (z.trans e)
theorem oR.sub {n n' : Int} {k : Nat} {a b : UInt64} (ha : oR n k a) (hb : oR n' k b) (h : (n - n').natAbs ≤ 2 ^ 53) (hk : k ≤ 1074) : oR (n - n') k (FP.dsub a b) := by
  have e : oz a - oz b = (n - n') * ((2 ^ (1074 - k) : Nat) : Int) := by rw [ha.z hk, hb.z hk, Int.sub_mul]
  obtain ⟨f, z⟩ := o_dsub ha.1 hb.1 (by rw [e]; exact oRep.dy h hk)
  exact .mk' f hk (z.trans e)
theorem oR.mul {n n' : Int} {k k' : Nat} {a b : UInt64} (ha : oR n k a) (hb : oR n' k' b) (h : (n * n').natAbs ≤ 2 ^ 53) (hk : k + k' ≤ 1074) : oR (n * n') (k + k') (FP.dmul a b) := by
  have e : oz a * oz b = n * n' * ((2 ^ (1074 - (k + k')) : Nat) : Int) * (Core.one64 : Int) := by
    rw [ha.z (by omega), hb.z (by omega)]
    have e1 : (Core.one64 : Int) = ((2 ^ 1074 : Nat) : Int) := rfl
    rw [e1, Int.mul_assoc (n * n'), ← Int.natCast_mul, ← Nat.pow_add]
    have e2 : n * ((2 ^ (1074 - k) : Nat) : Int) * (n' * ((2 ^ (1074 - k') : Nat) : Int)) = n * n' * (((2 ^ (1074 - k) : Nat) : Int) * ((2 ^ (1074 - k') : Nat) : Int)) := by
      generalize ((2 ^ (1074 - k) : Nat) : Int) = X; generalize ((2 ^ (1074 - k') : Nat) : Int) = Y
      rw [Int.mul_assoc, ← Int.mul_assoc X, Int.mul_comm X n', Int.mul_assoc n' X Y, ← Int.mul_assoc n n']
    rw [e2, ← Int.natCast_mul, ← Nat.pow_add, show 1074 - k + (1074 - k') = 1074 - (k + k') + 1074 by omega]
  obtain ⟨f, z⟩ := o_dmul ha.1 hb.1 e (oRep.dy h hk)
  exact .mk' f hk z
/-- an exact quotient: n / n' = g / 2^j -/
theorem oR.div {n n' g : Int} {k j : Nat} {a b : UInt64} (ha : oR n k a) (hb : oR n' k b) (hz : n' ≠ 0) (e : n * ((2 ^ j : Nat) : Int) = g * n') (h : g.natAbs ≤ 2 ^ 53) (hk : k ≤ 1074) (hj : j ≤ 1074) : oR g j (FP.ddiv a b) := by
  have zb : oz b ≠ 0 := fun q => by
    rw [hb.z hk] at q
    rcases Int.mul_eq_zero.mp q with q | q
    · exact hz q
    · have := o_pow_pos (1074 - k); omega
  have E : oz a * (Core.one64 : Int) = g * ((2 ^ (1074 - j) : Nat) : Int) * oz b := by
    rw [ha.z hk, hb.z hk, o_one j hj]
    generalize ((2 ^ (1074 - k) : Nat) : Int) = X
    generalize ((2 ^ (1074 - j) : Nat) : Int) = Y at *
    generalize ((2 ^ j : Nat) : Int) = J at *
    have : n * X * (Y * J) = n * J * (X * Y) := by
      rw [Int.mul_assoc, Int.mul_assoc, Int.mul_comm Y J, ← Int.mul_assoc X, Int.mul_comm X J, Int.mul_assoc J]
    rw [this, e]
    rw [Int.mul_assoc, Int.mul_assoc, ← Int.mul_assoc Y, Int.mul_comm Y n', Int.mul_assoc n' Y, Int.mul_comm Y X]
  obtain ⟨f, z⟩ := o_ddiv ha.1 hb.1 zb E (oRep.dy h hj)
  exact .mk' f hj z
theorem oR.ne0 {n : Int} {k : Nat} {a : UInt64} (h : oR n k a) (hn : n ≠ 0) (hk : k ≤ 1074) : oz a ≠ 0 := fun q => by
  rw [h.z hk] at q
  rcases Int.mul_eq_zero.mp q with q | q
  · exact hn q
  · have := o_pow_pos (1074 - k); omega
theorem oR.cmp {n n' : Int} {k : Nat} {a b : UInt64} (ha : oR n k a) (hb : oR n' k b) (hk : k ≤ 1074) : FP.dcmp a b = some (compare n n') := by
  have h1 : FP.dcmp a b = some (compare (oz a) (oz b)) := Core.dcmp_zval (o_fin_ne ha.1) (o_fin_ne hb.1)
  rw [h1, ha.z hk, hb.z hk, Core.compare_mul_pos _ _ _ (o_pow_pos _)]
theorem o_cmpV {f : CmpOp} {a b : UInt64} {n n' : Int} (h : FP.dcmp a b = some (compare n n')) : cmpValue (FP.dcmp a b) f = if n < n' then -1 else if n = n' then 0 else 1 := by
  rw [h]
  by_cases h1 : n < n'
  · rw [if_pos h1, (Core.compare_lt_iff n n').mpr h1]; rfl
  · rw [if_neg h1]
    by_cases h2 : n = n'
    · rw [if_pos h2, (Core.compare_eq_iff n n').mpr h2]; rfl
    · rw [if_neg h2, (Core.compare_gt_iff n n').mpr (by omega)]; rfl
theorem oR.cv {f : CmpOp} {n n' : Int} {k : Nat} {a b : UInt64} (ha : oR n k a) (hb : oR n' k b) (hk : k ≤ 1074 := by decide) : cmpValue (FP.dcmp a b) f = if n < n' then -1 else if n = n' then 0 else 1 := o_cmpV (ha.cmp hb hk)
theorem oR.eq0 {f : CmpOp} {n n' : Int} {k : Nat} {a b : UInt64} (ha : oR n k a) (hb : oR n' k b) (e : n = n') (hk : k ≤ 1074 := by decide) : cmpValue (FP.dcmp a b) f = 0 := by
  rw [ha.cv hb hk, if_neg (by omega), if_pos e]
theorem oR.zero : oR 0 0 FP.dconst0 := by
  have : Core.DInt 0 FP.dconst0 := by
    show Core.Whole 0 (Core.val64 Core.dconst0)
    rw [Core.val64_dconst0]; show Core.signed false (0 * _) = 0 * _; rw [Nat.zero_mul, o_sgF]; simp
  exact .int this
theorem oR.one : oR 1 0 FP.dconst1 := .int Core.dint_one
theorem oR.uniq {n : Int} {k : Nat} {a b : UInt64} (ha : oR n k a) (hb : oR n k b) (hn : n ≠ 0) (hk : k ≤ 1074) : oz a = oz b := by rw [ha.z hk, hb.z hk]
theorem o_cvz {f : CmpOp} {a b : UInt64} (ha : NoNaN64 a) (hb : NoNaN64 b) : cmpValue (FP.dcmp a b) f = if oz a < oz b then -1 else if oz a = oz b then 0 else 1 :=
  o_cmpV (Core.dcmp_zval (val64_no.mp ha) (val64_no.mp hb))
theorem o_zx {n : Nat} {x : UInt64} (hx : oR (n : Int) 0 x) : oz x = ((n * 2 ^ 1074 : Nat) : Int) := by
  have h := hx.z (by decide)
  rw [h, ← Int.natCast_mul]
theorem o_rep {g k : Nat} (hg : g ≤ 2 ^ 53) (hk : k ≤ 1074) : ∃ V : Core.Datum, Core.fits Core.b64 V ∧ (∃ s c q, V = .fin s c q) ∧ Core.zmag Core.b64 V = g * 2 ^ (1074 - k) := by
  obtain ⟨V, fV, vV, eV⟩ := oRep.dy (n := (g : Int)) (k := k) (by rw [Int.natAbs_natCast]; exact hg) hk
  refine ⟨V, fV, vV, ?_⟩
  have h := congrArg Int.natAbs eV
  rw [← Int.natCast_mul, Int.natAbs_natCast] at h
  rw [← h]; exact (Core.natAbs_signed _ _).symm
theorem o_U (k : Nat) (hk : k ≤ 1074) : (2 : Nat) ^ 1074 = 2 ^ k * 2 ^ (1074 - k) := by rw [← Nat.pow_add, show k + (1074 - k) = 1074 by omega]
theorem o_div_le {n m g k : Nat} {x y : UInt64} (hx : oR (n : Int) 0 x) (hy : oR (m : Int) 0 y) (hm : 0 < m) (hg : g ≤ 2 ^ 53) (hk : k ≤ 1074) (h : n * 2 ^ k ≤ g * m) : 0 ≤ oz (FP.ddiv x y) ∧ oz (FP.ddiv x y) ≤ ((g * 2 ^ (1074 - k) : Nat) : Int) := by
  have zx := o_zx hx
  have zy := o_zx hy
  have pm : 0 < m * 2 ^ 1074 := Nat.mul_pos hm (Nat.two_pow_pos _)
  have ny : oz y ≠ 0 := by rw [zy]; exact Int.ne_of_gt (Int.ofNat_lt.mpr pm)
  obtain ⟨V, fV, vV, zV⟩ := o_rep hg hk
  have l := o_ddiv_le hx.1 hy.1 ny fV (o_ne_of_fin vV) (by
    rw [zx, zy, zV, Int.natAbs_natCast, Int.natAbs_natCast]
    show n * 2 ^ 1074 * 2 ^ 1074 ≤ g * 2 ^ (1074 - k) * (m * 2 ^ 1074)
    have hU := o_U k hk
    generalize (2 : Nat) ^ 1074 = U at *
    generalize (2 : Nat) ^ (1074 - k) = B at *
    generalize (2 : Nat) ^ k = A at *
    have e1 : n * U * U = n * A * (B * U) := by rw [hU, ← Nat.mul_assoc n A B, Nat.mul_assoc (n * A) B]
    have e2 : g * B * (m * U) = g * m * (B * U) := by rw [Nat.mul_assoc, ← Nat.mul_assoc B m, Nat.mul_comm B m, Nat.mul_assoc m B, ← Nat.mul_assoc g m]
    rw [e1, e2]; exact Nat.mul_le_mul_right _ h)
  rw [zV] at l
  have s := (o_ddiv_sgn hx.1 hy.1 ny).1 (by rw [zx]; exact Int.natCast_nonneg _) (by rw [zy]; exact Int.ofNat_lt.mpr pm)
  generalize oz (FP.ddiv x y) = D at *
  generalize g * 2 ^ (1074 - k) = G at *
  omega
theorem o_div_ge {n m g k : Nat} {x y : UInt64} (hx : oR (n : Int) 0 x) (hy : oR (m : Int) 0 y) (hm : 0 < m) (hg : g ≤ 2 ^ 53) (hk : k ≤ 1074) (h : g * m ≤ n * 2 ^ k) : ((g * 2 ^ (1074 - k) : Nat) : Int) ≤ oz (FP.ddiv x y) := by
  have zx := o_zx hx
  have zy := o_zx hy
  have pm : 0 < m * 2 ^ 1074 := Nat.mul_pos hm (Nat.two_pow_pos _)
  have ny : oz y ≠ 0 := by rw [zy]; exact Int.ne_of_gt (Int.ofNat_lt.mpr pm)
  obtain ⟨V, fV, vV, zV⟩ := o_rep hg hk
  have l := o_ddiv_ge hx.1 hy.1 ny fV (by
    rw [zx, zy, zV, Int.natAbs_natCast, Int.natAbs_natCast]
    show g * 2 ^ (1074 - k) * (m * 2 ^ 1074) ≤ n * 2 ^ 1074 * 2 ^ 1074
    have hU := o_U k hk
    generalize (2 : Nat) ^ 1074 = U at *
    generalize (2 : Nat) ^ (1074 - k) = B at *
    generalize (2 : Nat) ^ k = A at *
    have e1 : n * U * U = n * A * (B * U) := by rw [hU, ← Nat.mul_assoc n A B, Nat.mul_assoc (n * A) B]
    have e2 : g * B * (m * U) = g * m * (B * U) := by rw [Nat.mul_assoc, ← Nat.mul_assoc B m, Nat.mul_comm B m, Nat.mul_assoc m B, ← Nat.mul_assoc g m]
    rw [e1, e2]; exact Nat.mul_le_mul_right _ h)
  rw [zV] at l
  have s := (o_ddiv_sgn hx.1 hy.1 ny).1 (by rw [zx]; exact Int.natCast_nonneg _) (by rw [zy]; exact Int.ofNat_lt.mpr pm)
  generalize oz (FP.ddiv x y) = D at *
  generalize g * 2 ^ (1074 - k) = G at *
  omega
theorem o_div_nn {n m : Nat} {x y : UInt64} (hx : oR (n : Int) 0 x) (hy : oR (m : Int) 0 y) (hm : 0 < m) : NoNaN64 (FP.ddiv x y) :=
  o_ddiv_nn hx.1 hy.1 (by rw [o_zx hy]; exact Int.ne_of_gt (Int.ofNat_lt.mpr (Nat.mul_pos hm (Nat.two_pow_pos _))))
theorem o_oz1 : oz FP.dconst1 = ((2 ^ 1074 : Nat) : Int) := by have := o_zx (n := 1) oR.one; rw [this, Nat.one_mul]
theorem o_oz0 : oz FP.dconst0 = 0 := by have := o_zx (n := 0) oR.zero; rw [this, Nat.zero_mul]; rfl
/-- n / m for 0 ≤ n < m: below 1, and above 0 where n is -/
theorem o_frac {n m : Nat} {x y : UInt64} (hx : oR (n : Int) 0 x) (hy : oR (m : Int) 0 y) (h : n < m) (hm : m ≤ 2 ^ 53) : 0 ≤ oz (FP.ddiv x y) ∧ oz (FP.ddiv x y) < oz FP.dconst1 ∧ (0 < n → 0 < oz (FP.ddiv x y)) := by
  have l := o_div_le (g := 2 ^ 53 - 1) (k := 53) hx hy (by omega) (by omega) (by decide) (by
    have e : (2 ^ 53 - 1) * m = 2 ^ 53 * m - m := by rw [Nat.sub_mul, Nat.one_mul]
    have e2 : n * 2 ^ 53 + 2 ^ 53 ≤ 2 ^ 53 * m := by rw [Nat.mul_comm (2 ^ 53) m, ← Nat.succ_mul]; exact Nat.mul_le_mul_right _ h
    rw [e]; exact Nat.le_trans (Nat.le_sub_of_add_le e2) (Nat.sub_le_sub_left hm _))
  refine ⟨l.1, ?_, fun hn => ?_⟩
  · rw [o_oz1]
    refine Int.lt_of_le_of_lt l.2 (Int.ofNat_lt.mpr ?_)
    rw [o_U 53 (by decide)]
    exact Nat.mul_lt_mul_of_pos_right (by decide) (Nat.two_pow_pos _)
  · have g := o_div_ge (g := 1) (k := 53) hx hy (by omega) (by decide) (by decide) (by rw [Nat.one_mul]; exact Nat.le_trans hm (Nat.le_mul_of_pos_left _ hn))
    have p : 0 < 1 * 2 ^ (1074 - 53) := by rw [Nat.one_mul]; exact Nat.two_pow_pos _
    exact Int.lt_of_lt_of_le (Int.ofNat_lt.mpr p) g
/-- quotients of one value round alike -/
theorem o_div_same {x y x' y' : UInt64} (hx : Core.DFin x) (hy : Core.DFin y) (hx' : Core.DFin x') (hy' : Core.DFin y') (zy : 0 < oz y) (zy' : 0 < oz y') (px : 0 ≤ oz x) (px' : 0 ≤ oz x') (h : oz x * oz y' = oz x' * oz y) : oz (FP.ddiv x y) = oz (FP.ddiv x' y') := by
  have n1 : oz y ≠ 0 := by omega
  have n2 : oz y' ≠ 0 := by omega
  by_cases h0 : oz x = 0
  · have h1 : oz x' = 0 := by
      rw [h0, Int.zero_mul] at h
      rcases Int.mul_eq_zero.mp h.symm with q | q
      · exact q
      · exact absurd q n1
    rw [(o_ddiv_sgn hx hy n1).2.2.2.2 h0, (o_ddiv_sgn hx' hy' n2).2.2.2.2 h1]
  · have h1 : oz x' ≠ 0 := fun q => by
      rw [q, Int.zero_mul] at h
      rcases Int.mul_eq_zero.mp h with q | q
      · exact h0 q
      · exact n2 q
    obtain ⟨s, t, c, q, d, r, e1, e2, hd, e3⟩ := o_quot hx hy n1
    obtain ⟨s', t', c', q', d', r', e1', e2', hd', e3'⟩ := o_quot hx' hy' n2
    have f1 : Core.b64.qmin ≤ q := (o_zmag e1).2
    have f2 : Core.b64.qmin ≤ r := (o_zmag e2).2
    have f1' : Core.b64.qmin ≤ q' := (o_zmag e1').2
    have f2' : Core.b64.qmin ≤ r' := (o_zmag e2').2
    have sg : ∀ {a : UInt64} {s : Bool} {c : Nat} {q : Int}, Core.val64 a = .fin s c q → 0 < oz a → s = false ∧ oz a = ((c * 2 ^ (q - Core.b64.qmin).toNat : Nat) : Int) := by
      intro a s c q e p
      have z : oz a = Core.signed s (c * 2 ^ (q - Core.b64.qmin).toNat) := by show Core.zval Core.b64 (Core.val64 a) = _; rw [e]; rfl
      rw [z] at p ⊢
      obtain ⟨p1, p2⟩ := Core.signed_pos p
      refine ⟨?_, p1⟩
      cases s
      · rfl
      · rw [p1] at p; rw [o_sgT] at p1; omega
    obtain ⟨rfl, z1⟩ := sg e1 (by omega)
    obtain ⟨rfl, z2⟩ := sg e2 zy
    obtain ⟨rfl, z1'⟩ := sg e1' (by omega)
    obtain ⟨rfl, z2'⟩ := sg e2' zy'
    rw [z1, z2, z1', z2', ← Int.natCast_mul, ← Int.natCast_mul] at h
    have h2 := Int.ofNat.inj h
    have key : c * d' * 2 ^ ((q - r) - (q' - r')).toNat = c' * d * 2 ^ ((q' - r') - (q - r)).toNat := by
      have hp : 0 < 2 ^ (min (q + r') (q' + r) - 2 * Core.b64.qmin).toNat := Nat.two_pow_pos _
      apply Nat.eq_of_mul_eq_mul_right hp
      rw [Nat.mul_assoc (c * d'), ← Nat.pow_add, Nat.mul_assoc (c' * d), ← Nat.pow_add]
      rw [show ((q - r) - (q' - r')).toNat + (min (q + r') (q' + r) - 2 * Core.b64.qmin).toNat = (q - Core.b64.qmin).toNat + (r' - Core.b64.qmin).toNat by omega]
      rw [show ((q' - r') - (q - r)).toNat + (min (q + r') (q' + r) - 2 * Core.b64.qmin).toNat = (q' - Core.b64.qmin).toNat + (r - Core.b64.qmin).toNat by omega]
      rw [Nat.pow_add, Nat.pow_add]
      generalize 2 ^ (q - Core.b64.qmin).toNat = A at *
      generalize 2 ^ (r' - Core.b64.qmin).toNat = B at *
      generalize 2 ^ (q' - Core.b64.qmin).toNat = A' at *
      generalize 2 ^ (r - Core.b64.qmin).toNat = B' at *
      rw [show c * d' * (A * B) = c * A * (d' * B) by rw [Nat.mul_assoc, Nat.mul_assoc, Nat.mul_left_comm d' A B]]
      rw [show c' * d * (A' * B') = c' * A' * (d * B') by rw [Nat.mul_assoc, Nat.mul_assoc, Nat.mul_left_comm d A' B']]
      exact h2
    have e4 := Core.roundRatio_congr (f := Core.b64) (s := (false != false)) (A := c) (B := d) (A' := c') (B' := d') (e := q - r) (e' := q' - r') (Nat.pos_of_ne_zero hd) (Nat.pos_of_ne_zero hd') key
    show Core.zval Core.b64 (Core.val64 (FP.ddiv x y)) = Core.zval Core.b64 (Core.val64 (FP.ddiv x' y'))
    rw [e3, e3', e4]
/-- an exact product, its value said as g / 2^j -/
theorem oR.mulTo {n n' g : Int} {k k' j : Nat} {a b : UInt64} (ha : oR n k a) (hb : oR n' k' b) (e : n * n' * ((2 ^ j : Nat) : Int) = g * ((2 ^ (k + k') : Nat) : Int)) (h : g.natAbs ≤ 2 ^ 53) (hk : k + k' ≤ 1074) (hj : j ≤ 1074) : oR g j (FP.dmul a b) := by
  have E : oz a * oz b = g * ((2 ^ (1074 - j) : Nat) : Int) * (Core.one64 : Int) := by
    have p := o_pow_pos (k + k')
    have p2 := o_pow_pos j
    have h1 := ha.2
    have h2 := hb.2
    have h3 : oz a * oz b * ((2 ^ (k + k') : Nat) : Int) = n * n' * ((Core.one64 : Int) * (Core.one64 : Int)) := by
      rw [Nat.pow_add, Int.natCast_mul]
      generalize ((2 ^ k : Nat) : Int) = X at *
      generalize ((2 ^ k' : Nat) : Int) = Y at *
      generalize (Core.one64 : Int) = U at *
      calc oz a * oz b * (X * Y) = oz a * X * (oz b * Y) := by rw [Int.mul_assoc, Int.mul_assoc, Int.mul_left_comm (oz b) X Y]
        _ = n * U * (n' * U) := by rw [h1, h2]
        _ = n * n' * (U * U) := by rw [Int.mul_assoc, Int.mul_assoc, Int.mul_left_comm U n' U]
    apply Int.eq_of_mul_eq_mul_right (Int.ne_of_gt p)
    rw [h3]
    apply Int.eq_of_mul_eq_mul_right (Int.ne_of_gt p2)
    have hU := o_one j hj
    generalize ((2 ^ (k + k') : Nat) : Int) = K at *
    generalize ((2 ^ j : Nat) : Int) = J at *
    generalize ((2 ^ (1074 - j) : Nat) : Int) = B at *
    generalize (Core.one64 : Int) = U at *
    calc n * n' * (U * U) * J = n * n' * J * (U * U) := by rw [Int.mul_right_comm]
      _ = g * K * (U * U) := by rw [e]
      _ = g * K * (U * (B * J)) := by rw [← hU]
      _ = g * B * U * K * J := by
        rw [Int.mul_assoc g K, Int.mul_assoc g B, Int.mul_assoc g (B * U), Int.mul_assoc g]
        congr 1
        rw [Int.mul_comm K, Int.mul_comm B U, Int.mul_assoc U B J |>.symm, Int.mul_right_comm (U * B) J K]
  obtain ⟨f, z⟩ := o_dmul ha.1 hb.1 E (oRep.dy h hj)
  exact .mk' f hj z
end OwnFP

theorem o_mul_abs {a b : Int} {A B : Nat} (ha : a.natAbs ≤ A) (hb : b.natAbs ≤ B) : (a * b).natAbs ≤ A * B := by rw [Int.natAbs_mul]; exact Nat.mul_le_mul ha hb

section OwnFP2
open Jvm.FP
theorem o_fin_le {D V : Core.Datum} (hn : D ≠ .nan) (hV : Core.fits Core.b64 V) (hv : ∃ s c q, V = .fin s c q) (e : (Core.zval Core.b64 D).natAbs ≤ Core.zmag Core.b64 V) : ∃ s c q, D = .fin s c q := by
  cases D with
  | nan => exact absurd rfl hn
  | fin s c q => exact ⟨s, c, q, rfl⟩
  | inf s =>
    obtain ⟨s', c, q, rfl⟩ := hv
    have h1 := Core.zmag_lt_top Core.good_b64 hV
    have h2 : (Core.zval Core.b64 (.inf s)).natAbs = Core.b64.tails * 2 ^ (Core.b64.exps - 2) := Core.natAbs_signed _ _
    rw [h2] at e
    exact absurd e (Nat.not_le_of_gt h1)
theorem o_dmul_le {a b : UInt64} {N : Int} (ha : Core.DFin a) (hb : Core.DFin b) (hN : oz a * oz b ≤ N * (Core.one64 : Int)) (h : oRep N) : oz (FP.dmul a b) ≤ N := by
  obtain ⟨V, fV, vV, eV⟩ := h
  have e : Core.val64 (FP.dmul a b) = Core.round Core.b64 (Core.exactProduct (Core.val64 a) (Core.val64 b)) := Core.val64_dmul a b
  have fa := Core.val64_fits a
  have fb := Core.val64_fits b
  obtain ⟨s, c, q, h1⟩ := ha
  obtain ⟨t, d, r, h2⟩ := hb
  have hN' : Core.zval Core.b64 (Core.val64 a) * Core.zval Core.b64 (Core.val64 b) ≤ N * (Core.one64 : Int) := hN
  rw [h1] at fa hN' e
  rw [h2] at fb hN' e
  obtain ⟨p1, p2, p3⟩ := Core.product_units fa fb
  rw [p1] at e
  have key : Core.signed (s != t) (Core.inUnits (c * d) (q + r) (2 * Core.b64.qmin)) ≤ Core.zval Core.b64 V * ((2 ^ (Core.b64.qmin - 2 * Core.b64.qmin).toNat : Nat) : Int) := by
    rw [p3, Core.signed_xor, o_two, eV]; exact hN'
  have q0 := Core.qmin_neg Core.good_b64
  have l := Core.zval_round_le Core.good_b64 fV (o_ne_of_fin vV) (e0 := 2 * Core.b64.qmin) (by omega) p2 key
  show Core.zval Core.b64 (Core.val64 (FP.dmul a b)) ≤ _
  rw [e, ← eV]; exact l
theorem o_dmul_ge {a b : UInt64} {N : Int} (ha : Core.DFin a) (hb : Core.DFin b) (hN : N * (Core.one64 : Int) ≤ oz a * oz b) (h : oRep N) : N ≤ oz (FP.dmul a b) := by
  obtain ⟨V, fV, vV, eV⟩ := h
  have e : Core.val64 (FP.dmul a b) = Core.round Core.b64 (Core.exactProduct (Core.val64 a) (Core.val64 b)) := Core.val64_dmul a b
  have fa := Core.val64_fits a
  have fb := Core.val64_fits b
  obtain ⟨s, c, q, h1⟩ := ha
  obtain ⟨t, d, r, h2⟩ := hb
  have hN' : N * (Core.one64 : Int) ≤ Core.zval Core.b64 (Core.val64 a) * Core.zval Core.b64 (Core.val64 b) := hN
  rw [h1] at fa hN' e
  rw [h2] at fb hN' e
  obtain ⟨p1, p2, p3⟩ := Core.product_units fa fb
  rw [p1] at e
  have key : Core.zval Core.b64 V * ((2 ^ (Core.b64.qmin - 2 * Core.b64.qmin).toNat : Nat) : Int) ≤ Core.signed (s != t) (Core.inUnits (c * d) (q + r) (2 * Core.b64.qmin)) := by
    rw [p3, Core.signed_xor, o_two, eV]; exact hN'
  have q0 := Core.qmin_neg Core.good_b64
  have l := Core.zval_round_ge Core.good_b64 fV (o_ne_of_fin vV) (e0 := 2 * Core.b64.qmin) (by omega) p2 key
  show _ ≤ Core.zval Core.b64 (Core.val64 (FP.dmul a b))
  rw [e, ← eV]; exact l
theorem o_dmul_nn {a b : UInt64} (ha : Core.DFin a) (hb : Core.DFin b) : NoNaN64 (FP.dmul a b) := val64_no.mpr (by
  have e : Core.val64 (FP.dmul a b) = Core.round Core.b64 (Core.exactProduct (Core.val64 a) (Core.val64 b)) := Core.val64_dmul a b
  obtain ⟨s, c, q, h1⟩ := ha
  obtain ⟨t, d, r, h2⟩ := hb
  rw [e, h1, h2]; exact Core.roundRatio_ne_nan _ _ _ _ _)
theorem o_div_fin {n m g k : Nat} {x y : UInt64} (hx : oR (n : Int) 0 x) (hy : oR (m : Int) 0 y) (hm : 0 < m) (hg : g ≤ 2 ^ 53) (hk : k ≤ 1074) (h : n * 2 ^ k ≤ g * m) : Core.DFin (FP.ddiv x y) := by
  obtain ⟨V, fV, vV, zV⟩ := o_rep hg hk
  have l := o_div_le hx hy hm hg hk h
  refine o_fin_le (val64_no.mp (o_div_nn hx hy hm)) fV vV ?_
  rw [zV]
  show (oz (FP.ddiv x y)).natAbs ≤ _
  generalize oz (FP.ddiv x y) = D at *
  generalize g * 2 ^ (1074 - k) = G at *
  omega
end OwnFP2


section OwnDrop
open Jvm.FP
theorem o_c37v : Core.val64 (4607182418791010209 : UInt64) = .fin false 9007199245733793 (-53) := by decide +kernel
theorem o_c37 : oR 9007199245733793 53 (4607182418791010209 : UInt64) := by
  refine .mk' ⟨_, _, _, o_c37v⟩ (by decide) ?_
  show Core.zval Core.b64 (Core.val64 (4607182418791010209 : UInt64)) = _
  rw [o_c37v]
  show ((9007199245733793 * 2 ^ ((-53 : Int) - Core.b64.qmin).toNat : Nat) : Int) = _
  rw [o_qmin, show ((-53 : Int) - (-1074)).toNat = 1074 - 53 from rfl, Int.natCast_mul]; rfl
theorem o_margin {e1 s1 e s : Nat} (he1 : 0 < e1) (h1 : e1 < 2147483648) (hs1 : 0 < s1) (h2 : s1 < 2147483648) (hs : 0 < s) (h : e1 * s ≤ e * s1) : ∃ g k, 4294967296 ≤ g ∧ g ≤ 2 ^ 53 ∧ k ≤ 1074 ∧ e1 * 2 ^ k ≤ g * s1 ∧ (g - 2) * s ≤ e * 2 ^ k := by
  obtain ⟨le, hle⟩ : ∃ le, le = e1.log2 := ⟨_, rfl⟩
  obtain ⟨ls, hls⟩ : ∃ ls, ls = s1.log2 := ⟨_, rfl⟩
  have a1 : 2 ^ le ≤ e1 := by rw [hle]; exact Nat.log2_self_le (by omega)
  have a2 : e1 < 2 ^ (le + 1) := by rw [hle]; exact Nat.lt_log2_self
  have b1 : 2 ^ ls ≤ s1 := by rw [hls]; exact Nat.log2_self_le (by omega)
  have b2 : s1 < 2 ^ (ls + 1) := by rw [hls]; exact Nat.lt_log2_self
  have le30 : le ≤ 30 := by
    by_cases q : le ≤ 30
    · exact q
    · have : (2 : Nat) ^ 31 ≤ 2 ^ le := Nat.pow_le_pow_right (by decide) (by omega)
      omega
  have ls30 : ls ≤ 30 := by
    by_cases q : ls ≤ 30
    · exact q
    · have : (2 : Nat) ^ 31 ≤ 2 ^ ls := Nat.pow_le_pow_right (by decide) (by omega)
      omega
  obtain ⟨k, hk⟩ : ∃ k, k = 33 + ls - le := ⟨_, rfl⟩
  have p1 : 2 ^ le * 2 ^ k = 2 ^ 32 * 2 ^ (ls + 1) := by rw [← Nat.pow_add, ← Nat.pow_add]; congr 1; omega
  have p2 : 2 ^ (le + 1) * 2 ^ k = 2 ^ 34 * 2 ^ ls := by rw [← Nat.pow_add, ← Nat.pow_add]; congr 1; omega
  have q1 : 2 ^ 32 * s1 ≤ e1 * 2 ^ k := Nat.le_trans (Nat.le_trans (Nat.mul_le_mul_left _ (Nat.le_of_lt b2)) (Nat.le_of_eq p1.symm)) (Nat.mul_le_mul_right _ a1)
  have q2 : e1 * 2 ^ k ≤ 2 ^ 34 * s1 := Nat.le_trans (Nat.le_trans (Nat.mul_le_mul_right _ (Nat.le_of_lt a2)) (Nat.le_of_eq p2)) (Nat.mul_le_mul_left _ b1)
  obtain ⟨A, hA⟩ : ∃ A, A = e1 * 2 ^ k := ⟨_, rfl⟩
  rw [← hA] at q1 q2
  obtain ⟨g, hg⟩ : ∃ g, g = (A + (s1 - 1)) / s1 := ⟨_, rfl⟩
  have d := Nat.div_add_mod (A + (s1 - 1)) s1
  have dm := Nat.mod_lt (A + (s1 - 1)) hs1
  rw [← hg] at d
  have g1 : A ≤ g * s1 := by rw [Nat.mul_comm g s1]; omega
  have g2 : g * s1 ≤ A + (s1 - 1) := by rw [Nat.mul_comm g s1]; omega
  have gl : 2 ^ 32 ≤ g := Nat.le_of_mul_le_mul_right (Nat.le_trans q1 g1) hs1
  have gu : g < 2 ^ 34 + 1 := Nat.lt_of_mul_lt_mul_right (a := s1) (by rw [Nat.add_mul, Nat.one_mul]; omega)
  refine ⟨g, k, by omega, by omega, by omega, by rw [← hA]; exact g1, ?_⟩
  have g3 : (g - 2) * s1 ≤ A := by
    have : (g - 2) * s1 + 2 * s1 = g * s1 := by rw [← Nat.add_mul, Nat.sub_add_cancel (by omega)]
    omega
  refine Nat.le_of_mul_le_mul_right (c := s1) ?_ hs1
  calc (g - 2) * s * s1 = (g - 2) * s1 * s := Nat.mul_right_comm _ _ _
    _ ≤ A * s := Nat.mul_le_mul_right _ g3
    _ = e1 * s * 2 ^ k := by rw [hA, Nat.mul_right_comm]
    _ ≤ e * s1 * 2 ^ k := Nat.mul_le_mul_right _ h
    _ = e * 2 ^ k * s1 := Nat.mul_right_comm _ _ _
theorem o_gc {g : Nat} (h : 4294967296 ≤ g) : g * 9007199245733793 ≤ (g - 2) * 2 ^ 53 := by
  have e : (g - 2) * 2 ^ 53 = g * 2 ^ 53 - 2 * 2 ^ 53 := Nat.sub_mul _ _ _
  rw [e]; omega
/-- e1 / s1 ≤ e / s: then the second quotient isn't below the first one's (1 - 1e-9)th -/
theorem o_drop {e1 s1 e s : Nat} {x1 y1 x y : UInt64} (X1 : oR (e1 : Int) 0 x1) (Y1 : oR (s1 : Int) 0 y1) (X : oR (e : Int) 0 x) (Y : oR (s : Int) 0 y) (h1 : e1 < 2147483648) (hs1 : 0 < s1) (h2 : s1 < 2147483648) (hs : 0 < s) (h : e1 * s ≤ e * s1) :
    oz (FP.dmul (FP.ddiv x1 y1) (4607182418791010209 : UInt64)) ≤ oz (FP.ddiv x y) := by
  have c0 : (0 : Int) ≤ oz (4607182418791010209 : UInt64) := by rw [o_c37.z (by decide)]; exact Int.mul_nonneg (by decide) (Int.natCast_nonneg _)
  rcases Nat.eq_zero_or_pos e1 with q | q
  · have f := o_div_fin X1 Y1 hs1 (g := 0) (k := 0) (by decide) (by decide) (by rw [q]; omega)
    have l := o_div_le X1 Y1 hs1 (g := 0) (k := 0) (by decide) (by decide) (by rw [q]; omega)
    have z : oz (FP.ddiv x1 y1) = 0 := by have := l.1; have := l.2; rw [Nat.zero_mul] at this; omega
    have u := o_dmul_le f o_c37.1 (N := 0) (by rw [z]; omega) (by have := oRep.dy (n := 0) (k := 0) (by decide) (by decide); rwa [Int.zero_mul] at this)
    have g := o_div_ge X Y hs (g := 0) (k := 0) (by decide) (by decide) (by omega)
    rw [Nat.zero_mul] at g
    exact Int.le_trans u g
  · obtain ⟨g, k, g1, g2, k1, a1, a2⟩ := o_margin q h1 hs1 h2 hs h
    have f := o_div_fin X1 Y1 hs1 g2 k1 a1
    have l := o_div_le X1 Y1 hs1 g2 k1 a1
    have r := o_div_ge X Y hs (g := g - 2) (k := k) (by omega) k1 a2
    refine Int.le_trans (o_dmul_le f o_c37.1 (N := (((g - 2) * 2 ^ (1074 - k) : Nat) : Int)) ?_ ?_) r
    · rw [o_c37.z (by decide)]
      have hU := o_one 53 (by decide)
      rw [hU]
      have t := o_gc g1
      refine Int.le_trans (Int.mul_le_mul_of_nonneg_right l.2 (Int.mul_nonneg (by decide) (Int.natCast_nonneg _))) ?_
      generalize (2 : Nat) ^ (1074 - k) = B at *
      rw [show (9007199245733793 : Int) = ((9007199245733793 : Nat) : Int) from rfl]
      generalize (2 : Nat) ^ (1074 - 53) = E at *
      rw [← Int.natCast_mul, ← Int.natCast_mul, ← Int.natCast_mul, ← Int.natCast_mul]
      refine Int.ofNat_le.mpr ?_
      calc g * B * (9007199245733793 * E) = g * 9007199245733793 * (B * E) := by rw [Nat.mul_assoc, Nat.mul_assoc, Nat.mul_left_comm B]
        _ ≤ (g - 2) * 2 ^ 53 * (B * E) := Nat.mul_le_mul_right _ t
        _ = (g - 2) * B * (E * 2 ^ 53) := by rw [Nat.mul_assoc, Nat.mul_assoc, Nat.mul_left_comm (2 ^ 53) B, Nat.mul_comm (2 ^ 53) E]
    · have := oRep.dy (n := ((g - 2 : Nat) : Int)) (k := k) (by rw [Int.natAbs_natCast]; omega) k1
      rwa [← Int.natCast_mul] at this
end OwnDrop


theorem o_cmpLe (x y : Int64) : XT.cmpL x y = (if y < x then 1 else if x = y then 0 else -1) := rfl
theorem o_cmpL (x y : Int64) : 0 < XT.cmpL x y ↔ y.toInt < x.toInt := by
  rw [o_cmpLe, ← Int64.lt_iff_toInt_lt]
  by_cases h : y < x
  · simp [h]
  · by_cases h2 : x = y
    · simp [h2]
    · simp [h, h2]
theorem o_cmpL0 (x y : Int64) : XT.cmpL x y = 0 ↔ x.toInt = y.toInt := by
  rw [o_cmpLe, Int64.toInt_inj]
  by_cases h : y < x
  · rw [if_pos h]
    refine ⟨fun q => absurd q (by decide), fun q => ?_⟩
    subst q; exact absurd h (Int64.lt_irrefl)
  · rw [if_neg h]
    by_cases h2 : x = y
    · simp [h2]
    · rw [if_neg h2]; exact ⟨fun q => absurd q (by decide), fun q => absurd q h2⟩
theorem o_cmpLl (x y : Int64) : XT.cmpL x y < 0 ↔ x.toInt < y.toInt := by
  rw [o_cmpLe]
  by_cases h : y < x
  · rw [if_pos h]
    have := Int64.lt_iff_toInt_lt.mp h
    exact ⟨fun q => absurd q (by decide), fun q => absurd q (by omega)⟩
  · rw [if_neg h]
    have h' : ¬ y.toInt < x.toInt := fun q => h (Int64.lt_iff_toInt_lt.mpr q)
    by_cases h2 : x = y
    · rw [if_pos h2, h2]; exact ⟨fun q => absurd q (by decide), fun q => absurd q (by omega)⟩
    · rw [if_neg h2]
      have h3 : x.toInt ≠ y.toInt := fun q => h2 (Int64.toInt_inj.mp q)
      exact ⟨fun _ => by omega, fun _ => by decide⟩
theorem o_mulb {a b A B : Int} (ha : 0 ≤ a ∧ a ≤ A) (hb : 0 ≤ b ∧ b ≤ B) : 0 ≤ a * b ∧ a * b ≤ A * B := ⟨Int.mul_nonneg ha.1 hb.1, Int.mul_le_mul ha.2 hb.2 hb.1 (by omega)⟩
theorem o_mul64 {x y : Int64} {a b : Int} (hx : x.toInt = a) (hy : y.toInt = b) (ha : 0 ≤ a ∧ a ≤ 2147483647) (hb : 0 ≤ b ∧ b ≤ 2147483647) : (x * y).toInt = a * b ∧ 0 ≤ a * b ∧ a * b ≤ 4611686014132420609 := by
  have q := o_mulb ha hb
  refine ⟨?_, q.1, by omega⟩
  rw [Jvm.Kit.i64_mul (by rw [hx, hy]; omega) (by rw [hx, hy]; omega), hx, hy]
theorem o_m31 (x : Int32) : 0 ≤ (x &&& 2147483647).toInt ∧ (x &&& 2147483647).toInt ≤ 2147483647 := by
  have h := Jvm.Kit.i32_mask x 2147483647 (k := 31) (by decide) (by decide)
  omega
theorem o_m31l (x : Int64) : 0 ≤ (x &&& 2147483647).toInt ∧ (x &&& 2147483647).toInt ≤ 2147483647 := by
  have h := Jvm.Kit.i64_mask x 2147483647 (k := 31) (by decide) (by decide)
  omega
theorem o_l2dN {x : Int64} (h : 0 ≤ x.toInt ∧ x.toInt ≤ 9007199254740992) : oR ((x.toInt.toNat : Nat) : Int) 0 (FP.l2d x) := (oR.l2d (by omega)).cast (by omega)
theorem o_i2dN {x : Int32} (h : 0 ≤ x.toInt) : oR ((x.toInt.toNat : Nat) : Int) 0 (FP.i2d x) := (oR.i2d x).cast (by omega)
theorem o_toNatM {a b : Int} (ha : 0 ≤ a) (hb : 0 ≤ b) : (((a.toNat * b.toNat : Nat)) : Int) = a * b := by rw [Int.natCast_mul, Int.toNat_of_nonneg ha, Int.toNat_of_nonneg hb]
theorem o_lm : cmpValue (FP.dcmp (13830554455654793216 : UInt64) FP.dconst0) .l < 0 := by decide +kernel
/-- the second comes ahead of the first -/
def oP (e s v e1 s1 v1 : Int) : Prop := e1 * s < e * s1 ∨ (e * s1 = e1 * s ∧ v < v1)

theorem d1_0 : decode jdk_29_method_65_code 0 = .ok (.iload_n 0, 1) := by decide +kernel
theorem d1_1 : decode jdk_29_method_65_code 1 = .ok (.iload_n 1, 1) := by decide +kernel
theorem d1_2 : decode jdk_29_method_65_code 2 = .ok (.if_icmp .lt 7, 3) := by decide +kernel
theorem d1_5 : decode jdk_29_method_65_code 5 = .ok (.iload_n 0, 1) := by decide +kernel
theorem d1_6 : decode jdk_29_method_65_code 6 = .ok (.goto 4, 3) := by decide +kernel
theorem d1_9 : decode jdk_29_method_65_code 9 = .ok (.iload_n 1, 1) := by decide +kernel
theorem d1_10 : decode jdk_29_method_65_code 10 = .ok (.ireturn, 1) := by decide +kernel
theorem pd_1 : parseMethodDescriptor "(II)I" = some ⟨[.int, .int], some .int⟩ := by decide +kernel
set_option maxHeartbeats 4000000 in
theorem ef_1 (m : MethodId) (x0 : Int32) (x1 : Int32) : entryFrame m ([(.int x0), (.int x1)] : List Value).toArray 2 = mkF m 0 #[.val (.int x0), .val (.int x1)] [] := by first | (simp [entryFrame, mkF, argsToLocals, Value.category, maxLocals]; done) | rfl
set_option maxHeartbeats 40000000 in
theorem rmMx (l : Launch) (Z : State) (a0 : Array Value) (hw : ∀ d ∈ tables_1, d.before a0 Z = true) (x y : Int32) (L : List oEnt) :
    oMeets l Z (⟨"java/lang/Math", "max", "(II)I"⟩ : MethodName) jdk_29_method_65_code 2 (some .int) ({ frames := 0, cells := 0, slots := 0, locals := 0 } : Room) [(.int x), (.int y)] L (fun v L' => ∃ r : Int32, v = some (.int r) ∧ (x.toInt ≤ r.toInt ∧ y.toInt ≤ r.toInt ∧ (r = x ∨ r = y)) ∧ L = L') := by
  refine oMeets.of (y := (⟨"java/lang/Math", "max", "(II)I"⟩ : MethodName)) (Jvm.Free.JP.mathPlain rfl (by decide +kernel)) fun p' e' s' m below meth c T cx o => ?_
  refine oGo.top (ef_1 m _ _) ?_
  refine g_iloadN cx o (pc' := 1) d1_0 rfl rfl ?_
  refine g_iloadN cx o (pc' := 2) d1_1 rfl rfl ?_
  refine g_icmp_lt cx o (pc' := 9) (pc2 := 5) d1_2 (by decide) (by decide) rfl (fun c2 => ?_) (fun c2 => ?_)
  · refine g_iloadN cx o (pc' := 10) d1_9 rfl rfl ?_
    have c := Int32.lt_iff_toInt_lt.mp c2
    exact g_ireturn cx o d1_10 (by decide) (by decide) ⟨_, rfl, ⟨by omega, by omega, Or.inr rfl⟩, rfl⟩
  · refine g_iloadN cx o (pc' := 6) d1_5 rfl rfl ?_
    refine g_goto cx o (pc' := 10) d1_6 (by decide) (by decide) ?_
    have c : ¬ _ := fun z => c2 (Int32.lt_iff_toInt_lt.mpr z)
    exact g_ireturn cx o d1_10 (by decide) (by decide) ⟨_, rfl, ⟨by omega, by omega, Or.inl rfl⟩, rfl⟩
theorem d9_0 : decode jdk_29_method_45_code 0 = .ok (.lload_n 0, 1) := by decide +kernel
theorem d9_1 : decode jdk_29_method_45_code 1 = .ok (.bipush 32, 2) := by decide +kernel
theorem d9_3 : decode jdk_29_method_45_code 3 = .ok (.lshr, 1) := by decide +kernel
theorem d9_4 : decode jdk_29_method_45_code 4 = .ok (.lstore 4, 2) := by decide +kernel
theorem d9_6 : decode jdk_29_method_45_code 6 = .ok (.lload_n 0, 1) := by decide +kernel
theorem d9_7 : decode jdk_29_method_45_code 7 = .ok (.ldc2_w 138, 3) := by decide +kernel
theorem d9_10 : decode jdk_29_method_45_code 10 = .ok (.land, 1) := by decide +kernel
theorem d9_11 : decode jdk_29_method_45_code 11 = .ok (.lstore 6, 2) := by decide +kernel
theorem d9_13 : decode jdk_29_method_45_code 13 = .ok (.lload_n 2, 1) := by decide +kernel
theorem d9_14 : decode jdk_29_method_45_code 14 = .ok (.bipush 32, 2) := by decide +kernel
theorem d9_16 : decode jdk_29_method_45_code 16 = .ok (.lshr, 1) := by decide +kernel
theorem d9_17 : decode jdk_29_method_45_code 17 = .ok (.lstore 8, 2) := by decide +kernel
theorem d9_19 : decode jdk_29_method_45_code 19 = .ok (.lload_n 2, 1) := by decide +kernel
theorem d9_20 : decode jdk_29_method_45_code 20 = .ok (.ldc2_w 138, 3) := by decide +kernel
theorem d9_23 : decode jdk_29_method_45_code 23 = .ok (.land, 1) := by decide +kernel
theorem d9_24 : decode jdk_29_method_45_code 24 = .ok (.lstore 10, 2) := by decide +kernel
theorem d9_26 : decode jdk_29_method_45_code 26 = .ok (.lload 6, 2) := by decide +kernel
theorem d9_28 : decode jdk_29_method_45_code 28 = .ok (.lload 10, 2) := by decide +kernel
theorem d9_30 : decode jdk_29_method_45_code 30 = .ok (.lmul, 1) := by decide +kernel
theorem d9_31 : decode jdk_29_method_45_code 31 = .ok (.lstore 12, 2) := by decide +kernel
theorem d9_33 : decode jdk_29_method_45_code 33 = .ok (.lload 4, 2) := by decide +kernel
theorem d9_35 : decode jdk_29_method_45_code 35 = .ok (.lload 10, 2) := by decide +kernel
theorem d9_37 : decode jdk_29_method_45_code 37 = .ok (.lmul, 1) := by decide +kernel
theorem d9_38 : decode jdk_29_method_45_code 38 = .ok (.lload 12, 2) := by decide +kernel
theorem d9_40 : decode jdk_29_method_45_code 40 = .ok (.bipush 32, 2) := by decide +kernel
theorem d9_42 : decode jdk_29_method_45_code 42 = .ok (.lushr, 1) := by decide +kernel
theorem d9_43 : decode jdk_29_method_45_code 43 = .ok (.ladd, 1) := by decide +kernel
theorem d9_44 : decode jdk_29_method_45_code 44 = .ok (.lstore 14, 2) := by decide +kernel
theorem d9_46 : decode jdk_29_method_45_code 46 = .ok (.lload 14, 2) := by decide +kernel
theorem d9_48 : decode jdk_29_method_45_code 48 = .ok (.ldc2_w 138, 3) := by decide +kernel
theorem d9_51 : decode jdk_29_method_45_code 51 = .ok (.land, 1) := by decide +kernel
theorem d9_52 : decode jdk_29_method_45_code 52 = .ok (.lstore 16, 2) := by decide +kernel
theorem d9_54 : decode jdk_29_method_45_code 54 = .ok (.lload 14, 2) := by decide +kernel
theorem d9_56 : decode jdk_29_method_45_code 56 = .ok (.bipush 32, 2) := by decide +kernel
theorem d9_58 : decode jdk_29_method_45_code 58 = .ok (.lshr, 1) := by decide +kernel
theorem d9_59 : decode jdk_29_method_45_code 59 = .ok (.lstore 18, 2) := by decide +kernel
theorem d9_61 : decode jdk_29_method_45_code 61 = .ok (.lload 16, 2) := by decide +kernel
theorem d9_63 : decode jdk_29_method_45_code 63 = .ok (.lload 6, 2) := by decide +kernel
theorem d9_65 : decode jdk_29_method_45_code 65 = .ok (.lload 8, 2) := by decide +kernel
theorem d9_67 : decode jdk_29_method_45_code 67 = .ok (.lmul, 1) := by decide +kernel
theorem d9_68 : decode jdk_29_method_45_code 68 = .ok (.ladd, 1) := by decide +kernel
theorem d9_69 : decode jdk_29_method_45_code 69 = .ok (.lstore 16, 2) := by decide +kernel
theorem d9_71 : decode jdk_29_method_45_code 71 = .ok (.lload 4, 2) := by decide +kernel
theorem d9_73 : decode jdk_29_method_45_code 73 = .ok (.lload 8, 2) := by decide +kernel
theorem d9_75 : decode jdk_29_method_45_code 75 = .ok (.lmul, 1) := by decide +kernel
theorem d9_76 : decode jdk_29_method_45_code 76 = .ok (.lload 18, 2) := by decide +kernel
theorem d9_78 : decode jdk_29_method_45_code 78 = .ok (.ladd, 1) := by decide +kernel
theorem d9_79 : decode jdk_29_method_45_code 79 = .ok (.lload 16, 2) := by decide +kernel
theorem d9_81 : decode jdk_29_method_45_code 81 = .ok (.bipush 32, 2) := by decide +kernel
theorem d9_83 : decode jdk_29_method_45_code 83 = .ok (.lshr, 1) := by decide +kernel
theorem d9_84 : decode jdk_29_method_45_code 84 = .ok (.ladd, 1) := by decide +kernel
theorem d9_85 : decode jdk_29_method_45_code 85 = .ok (.lreturn, 1) := by decide +kernel
theorem pd_9 : parseMethodDescriptor "(JJ)J" = some ⟨[.long, .long], some .long⟩ := by decide +kernel
set_option maxHeartbeats 4000000 in
theorem ef_9 (m : MethodId) (x0 : Int64) (x1 : Int64) : entryFrame m ([(.long x0), (.long x1)] : List Value).toArray 20 = mkF m 0 #[.val (.long x0), .second, .val (.long x1), .second, .unset, .unset, .unset, .unset, .unset, .unset, .unset, .unset, .unset, .unset, .unset, .unset, .unset, .unset, .unset, .unset] [] := by first | (simp [entryFrame, mkF, argsToLocals, Value.category, maxLocals]; done) | rfl
set_option maxHeartbeats 40000000 in
theorem rmMh (l : Launch) (Z : State) (a0 : Array Value) (hw : ∀ d ∈ tables_1, d.before a0 Z = true) (x y : Int64) (L : List oEnt) (hx : 0 ≤ x.toInt ∧ x.toInt ≤ 2147483647) (hy : 0 ≤ y.toInt ∧ y.toInt ≤ 2147483647) :
    oMeets l Z (⟨"java/lang/Math", "multiplyHigh", "(JJ)J"⟩ : MethodName) jdk_29_method_45_code 20 (some .long) ({ frames := 0, cells := 0, slots := 0, locals := 0 } : Room) [(.long x), (.long y)] L (fun v L' => v = some (.long 0) ∧ L = L') := by
  refine oMeets.of (y := (⟨"java/lang/Math", "multiplyHigh", "(JJ)J"⟩ : MethodName)) (Jvm.Free.JP.mathPlain rfl (by decide +kernel)) fun p' e' s' m below meth c T cx o => ?_
  refine oGo.top (ef_9 m _ _) ?_
  refine g_lloadN cx o (pc' := 1) d9_0 rfl rfl ?_
  refine g_bipush cx o (pc' := 3) (32 : Int32) d9_1 rfl (by decide) ?_
  refine g_lshr cx o (pc' := 4) d9_3 rfl ?_
  refine g_lstoreV cx o (pc' := 6) (fun w' => #[.val (.long x), .second, .val (.long y), .second, .val (.long w'), .second, .unset, .unset, .unset, .unset, .unset, .unset, .unset, .unset, .unset, .unset, .unset, .unset, .unset, .unset]) d9_4 rfl (fun _ => rfl) (fun x1 h_x1 => ?_)
  refine g_lloadN cx o (pc' := 7) d9_6 rfl rfl ?_
  refine g_ldc2L cx o (pc' := 10) (z := 4294967295) (hw _ (List.mem_of_getElem? (i := 57) rfl)) d9_7 rfl ?_
  refine g_land cx o (pc' := 11) d9_10 rfl ?_
  refine g_lstoreV cx o (pc' := 13) (fun w' => #[.val (.long x), .second, .val (.long y), .second, .val (.long x1), .second, .val (.long w'), .second, .unset, .unset, .unset, .unset, .unset, .unset, .unset, .unset, .unset, .unset, .unset, .unset]) d9_11 rfl (fun _ => rfl) (fun x2 h_x2 => ?_)
  refine g_lloadN cx o (pc' := 14) d9_13 rfl rfl ?_
  refine g_bipush cx o (pc' := 16) (32 : Int32) d9_14 rfl (by decide) ?_
  refine g_lshr cx o (pc' := 17) d9_16 rfl ?_
  refine g_lstoreV cx o (pc' := 19) (fun w' => #[.val (.long x), .second, .val (.long y), .second, .val (.long x1), .second, .val (.long x2), .second, .val (.long w'), .second, .unset, .unset, .unset, .unset, .unset, .unset, .unset, .unset, .unset, .unset]) d9_17 rfl (fun _ => rfl) (fun y1 h_y1 => ?_)
  refine g_lloadN cx o (pc' := 20) d9_19 rfl rfl ?_
  refine g_ldc2L cx o (pc' := 23) (z := 4294967295) (hw _ (List.mem_of_getElem? (i := 57) rfl)) d9_20 rfl ?_
  refine g_land cx o (pc' := 24) d9_23 rfl ?_
  refine g_lstoreV cx o (pc' := 26) (fun w' => #[.val (.long x), .second, .val (.long y), .second, .val (.long x1), .second, .val (.long x2), .second, .val (.long y1), .second, .val (.long w'), .second, .unset, .unset, .unset, .unset, .unset, .unset, .unset, .unset]) d9_24 rfl (fun _ => rfl) (fun y2 h_y2 => ?_)
  refine g_lload cx o (pc' := 28) d9_26 rfl rfl ?_
  refine g_lload cx o (pc' := 30) d9_28 rfl rfl ?_
  refine g_lmul cx o (pc' := 31) d9_30 rfl ?_
  refine g_lstoreV cx o (pc' := 33) (fun w' => #[.val (.long x), .second, .val (.long y), .second, .val (.long x1), .second, .val (.long x2), .second, .val (.long y1), .second, .val (.long y2), .second, .val (.long w'), .second, .unset, .unset, .unset, .unset, .unset, .unset]) d9_31 rfl (fun _ => rfl) (fun z2 h_z2 => ?_)
  refine g_lload cx o (pc' := 35) d9_33 rfl rfl ?_
  refine g_lload cx o (pc' := 37) d9_35 rfl rfl ?_
  refine g_lmul cx o (pc' := 38) d9_37 rfl ?_
  refine g_lload cx o (pc' := 40) d9_38 rfl rfl ?_
  refine g_bipush cx o (pc' := 42) (32 : Int32) d9_40 rfl (by decide) ?_
  refine g_lushr cx o (pc' := 43) d9_42 rfl ?_
  refine g_ladd cx o (pc' := 44) d9_43 rfl ?_
  refine g_lstoreV cx o (pc' := 46) (fun w' => #[.val (.long x), .second, .val (.long y), .second, .val (.long x1), .second, .val (.long x2), .second, .val (.long y1), .second, .val (.long y2), .second, .val (.long z2), .second, .val (.long w'), .second, .unset, .unset, .unset, .unset]) d9_44 rfl (fun _ => rfl) (fun tt h_tt => ?_)
  refine g_lload cx o (pc' := 48) d9_46 rfl rfl ?_
  refine g_ldc2L cx o (pc' := 51) (z := 4294967295) (hw _ (List.mem_of_getElem? (i := 57) rfl)) d9_48 rfl ?_
  refine g_land cx o (pc' := 52) d9_51 rfl ?_
  refine g_lstoreV cx o (pc' := 54) (fun w' => #[.val (.long x), .second, .val (.long y), .second, .val (.long x1), .second, .val (.long x2), .second, .val (.long y1), .second, .val (.long y2), .second, .val (.long z2), .second, .val (.long tt), .second, .val (.long w'), .second, .unset, .unset]) d9_52 rfl (fun _ => rfl) (fun z1 h_z1 => ?_)
  refine g_lload cx o (pc' := 56) d9_54 rfl rfl ?_
  refine g_bipush cx o (pc' := 58) (32 : Int32) d9_56 rfl (by decide) ?_
  refine g_lshr cx o (pc' := 59) d9_58 rfl ?_
  refine g_lstoreV cx o (pc' := 61) (fun w' => #[.val (.long x), .second, .val (.long y), .second, .val (.long x1), .second, .val (.long x2), .second, .val (.long y1), .second, .val (.long y2), .second, .val (.long z2), .second, .val (.long tt), .second, .val (.long z1), .second, .val (.long w'), .second]) d9_59 rfl (fun _ => rfl) (fun z0 h_z0 => ?_)
  refine g_lload cx o (pc' := 63) d9_61 rfl rfl ?_
  refine g_lload cx o (pc' := 65) d9_63 rfl rfl ?_
  refine g_lload cx o (pc' := 67) d9_65 rfl rfl ?_
  refine g_lmul cx o (pc' := 68) d9_67 rfl ?_
  refine g_ladd cx o (pc' := 69) d9_68 rfl ?_
  refine g_lstoreV cx o (pc' := 71) (fun w' => #[.val (.long x), .second, .val (.long y), .second, .val (.long x1), .second, .val (.long x2), .second, .val (.long y1), .second, .val (.long y2), .second, .val (.long z2), .second, .val (.long tt), .second, .val (.long w'), .second, .val (.long z0), .second]) d9_69 rfl (fun _ => rfl) (fun zb h_zb => ?_)
  refine g_lload cx o (pc' := 73) d9_71 rfl rfl ?_
  refine g_lload cx o (pc' := 75) d9_73 rfl rfl ?_
  refine g_lmul cx o (pc' := 76) d9_75 rfl ?_
  refine g_lload cx o (pc' := 78) d9_76 rfl rfl ?_
  refine g_ladd cx o (pc' := 79) d9_78 rfl ?_
  refine g_lload cx o (pc' := 81) d9_79 rfl rfl ?_
  refine g_bipush cx o (pc' := 83) (32 : Int32) d9_81 rfl (by decide) ?_
  refine g_lshr cx o (pc' := 84) d9_83 rfl ?_
  refine g_ladd cx o (pc' := 85) d9_84 rfl ?_
  have ex1 : x1 = 0 := Int64.toInt_inj.mp (by rw [h_x1, Jvm.Kit.i64_shr _ _ (k := 32) (by decide)]; show _ = (0 : Int); omega)
  have ey1 : y1 = 0 := Int64.toInt_inj.mp (by rw [h_y1, Jvm.Kit.i64_shr _ _ (k := 32) (by decide)]; show _ = (0 : Int); omega)
  have kx2 : x2.toInt = x.toInt := by rw [h_x2, Jvm.Kit.i64_mask _ _ (k := 32) (by decide) (by decide)]; omega
  have ky2 : y2.toInt = y.toInt := by rw [h_y2, Jvm.Kit.i64_mask _ _ (k := 32) (by decide) (by decide)]; omega
  have kz2 := o_mul64 kx2 ky2 hx hy
  rw [← h_z2] at kz2
  rw [ex1, Int64.zero_mul, Int64.zero_add] at h_tt
  have kt : tt.toInt = z2.toInt / 2 ^ 32 := by rw [h_tt]; exact Jvm.Kit.i64_lushr (Jvm.Kit.i64_nonneg.mpr (by omega)) (by decide) (by decide)
  have kz1 : z1.toInt = tt.toInt := by rw [h_z1, Jvm.Kit.i64_mask _ _ (k := 32) (by decide) (by decide)]; omega
  have ez0 : z0 = 0 := Int64.toInt_inj.mp (by rw [h_z0, Jvm.Kit.i64_shr _ _ (k := 32) (by decide)]; show _ = (0 : Int); omega)
  rw [ey1, Int64.mul_zero, Int64.add_zero] at h_zb
  have ezb : zb >>> ((32 : Int32).toInt64 &&& 63) = 0 := Int64.toInt_inj.mp (by rw [Jvm.Kit.i64_shr _ _ (k := 32) (by decide), h_zb]; show _ = (0 : Int); omega)
  have ef : x1 * y1 + z0 + (zb >>> ((32 : Int32).toInt64 &&& 63)) = 0 := by rw [ezb, ex1, ey1, ez0]; rfl
  exact g_lreturn cx o d9_85 (by decide) (by decide) ⟨by rw [ef], rfl⟩
theorem d11_0 : decode jdk_35_method_42_code 0 = .ok (.lload_n 0, 1) := by decide +kernel
theorem d11_1 : decode jdk_35_method_42_code 1 = .ok (.lload_n 2, 1) := by decide +kernel
theorem d11_2 : decode jdk_35_method_42_code 2 = .ok (.lcmp, 1) := by decide +kernel
theorem d11_3 : decode jdk_35_method_42_code 3 = .ok (.ifCond .ge 7, 3) := by decide +kernel
theorem d11_6 : decode jdk_35_method_42_code 6 = .ok (.iconst (-1), 1) := by decide +kernel
theorem d11_7 : decode jdk_35_method_42_code 7 = .ok (.goto 14, 3) := by decide +kernel
theorem d11_10 : decode jdk_35_method_42_code 10 = .ok (.lload_n 0, 1) := by decide +kernel
theorem d11_11 : decode jdk_35_method_42_code 11 = .ok (.lload_n 2, 1) := by decide +kernel
theorem d11_12 : decode jdk_35_method_42_code 12 = .ok (.lcmp, 1) := by decide +kernel
theorem d11_13 : decode jdk_35_method_42_code 13 = .ok (.ifCond .ne 7, 3) := by decide +kernel
theorem d11_16 : decode jdk_35_method_42_code 16 = .ok (.iconst 0, 1) := by decide +kernel
theorem d11_17 : decode jdk_35_method_42_code 17 = .ok (.goto 4, 3) := by decide +kernel
theorem d11_20 : decode jdk_35_method_42_code 20 = .ok (.iconst 1, 1) := by decide +kernel
theorem d11_21 : decode jdk_35_method_42_code 21 = .ok (.ireturn, 1) := by decide +kernel
theorem pn_11 : plainName "java/lang/Long" = true := by first | (simp [plainName, overriddenIn]; done) | decide +kernel
theorem pd_11 : parseMethodDescriptor "(JJ)I" = some ⟨[.long, .long], some .int⟩ := by decide +kernel
set_option maxHeartbeats 4000000 in
theorem ef_11 (m : MethodId) (x0 : Int64) (x1 : Int64) : entryFrame m ([(.long x0), (.long x1)] : List Value).toArray 4 = mkF m 0 #[.val (.long x0), .second, .val (.long x1), .second] [] := by first | (simp [entryFrame, mkF, argsToLocals, Value.category, maxLocals]; done) | rfl
set_option maxHeartbeats 40000000 in
theorem rmLc (l : Launch) (Z : State) (a0 : Array Value) (hw : ∀ d ∈ tables_1, d.before a0 Z = true) (x y : Int64) (L : List oEnt) :
    oMeets l Z (⟨"java/lang/Long", "compare", "(JJ)I"⟩ : MethodName) jdk_35_method_42_code 4 (some .int) ({ frames := 0, cells := 0, slots := 0, locals := 0 } : Room) [(.long x), (.long y)] L (fun v L' => ∃ r : Int32, v = some (.int r) ∧ (0 < r ↔ y.toInt < x.toInt) ∧ L = L') := by
  refine oMeets.of (y := (⟨"java/lang/Long", "compare", "(JJ)I"⟩ : MethodName)) (plainFor_of_name pn_11) fun p' e' s' m below meth c T cx o => ?_
  refine oGo.top (ef_11 m _ _) ?_
  refine g_lloadN cx o (pc' := 1) d11_0 rfl rfl ?_
  refine g_lloadN cx o (pc' := 2) d11_1 rfl rfl ?_
  refine g_lcmp cx o (pc' := 3) d11_2 rfl ?_
  refine g_if_ge cx o (pc' := 10) (pc2 := 6) d11_3 (by decide) (by decide) rfl (fun c3 => ?_) (fun c3 => ?_)
  · have c : ¬ _ := fun z => c3 ((o_cmpLl _ _).mpr z)
    refine g_lloadN cx o (pc' := 11) d11_10 rfl rfl ?_
    refine g_lloadN cx o (pc' := 12) d11_11 rfl rfl ?_
    refine g_lcmp cx o (pc' := 13) d11_12 rfl ?_
    refine g_if_ne cx o (pc' := 20) (pc2 := 16) d11_13 (by decide) (by decide) rfl (fun c13 => ?_) (fun c13 => ?_)
    · refine g_iconst cx o (pc' := 21) (1 : Int32) d11_20 rfl rfl ?_
      have d : ¬ _ := fun z => c13 ((o_cmpL0 _ _).mpr z)
      exact g_ireturn cx o d11_21 (by decide) (by decide) ⟨_, rfl, ⟨fun _ => by omega, fun _ => by decide⟩, rfl⟩
    · refine g_iconst cx o (pc' := 17) (0 : Int32) d11_16 rfl rfl ?_
      refine g_goto cx o (pc' := 21) d11_17 (by decide) (by decide) ?_
      have d := (o_cmpL0 _ _).mp c13
      exact g_ireturn cx o d11_21 (by decide) (by decide) ⟨_, rfl, ⟨fun q => absurd q (by decide), fun q => absurd q (by omega)⟩, rfl⟩
  · refine g_iconst cx o (pc' := 7) (-1 : Int32) d11_6 rfl rfl ?_
    refine g_goto cx o (pc' := 21) d11_7 (by decide) (by decide) ?_
    have c := (o_cmpLl _ _).mp c3
    exact g_ireturn cx o d11_21 (by decide) (by decide) ⟨_, rfl, ⟨fun q => absurd q (by decide), fun q => absurd q (by omega)⟩, rfl⟩
theorem d10_0 : decode jdk_35_method_43_code 0 = .ok (.lload_n 0, 1) := by decide +kernel
theorem d10_1 : decode jdk_35_method_43_code 1 = .ok (.ldc2_w 168, 3) := by decide +kernel
theorem d10_4 : decode jdk_35_method_43_code 4 = .ok (.ladd, 1) := by decide +kernel
theorem d10_5 : decode jdk_35_method_43_code 5 = .ok (.lload_n 2, 1) := by decide +kernel
theorem d10_6 : decode jdk_35_method_43_code 6 = .ok (.ldc2_w 168, 3) := by decide +kernel
theorem d10_9 : decode jdk_35_method_43_code 9 = .ok (.ladd, 1) := by decide +kernel
theorem d10_10 : decode jdk_35_method_43_code 10 = .ok (.invokestatic 302, 3) := by decide +kernel
theorem d10_13 : decode jdk_35_method_43_code 13 = .ok (.ireturn, 1) := by decide +kernel
theorem pn_10 : plainName "java/lang/Long" = true := by first | (simp [plainName, overriddenIn]; done) | decide +kernel
theorem pd_10 : parseMethodDescriptor "(JJ)I" = some ⟨[.long, .long], some .int⟩ := by decide +kernel
set_option maxHeartbeats 4000000 in
theorem ef_10 (m : MethodId) (x0 : Int64) (x1 : Int64) : entryFrame m ([(.long x0), (.long x1)] : List Value).toArray 4 = mkF m 0 #[.val (.long x0), .second, .val (.long x1), .second] [] := by first | (simp [entryFrame, mkF, argsToLocals, Value.category, maxLocals]; done) | rfl
set_option maxHeartbeats 40000000 in
theorem rmCu (l : Launch) (Z : State) (a0 : Array Value) (hw : ∀ d ∈ tables_1, d.before a0 Z = true) (x y : Int64) (L : List oEnt) (hx : 0 ≤ x.toInt) (hy : 0 ≤ y.toInt) :
    oMeets l Z (⟨"java/lang/Long", "compareUnsigned", "(JJ)I"⟩ : MethodName) jdk_35_method_43_code 4 (some .int) ({ frames := 1, cells := 0, slots := 0, locals := 15 } : Room) [(.long x), (.long y)] L (fun v L' => ∃ r : Int32, v = some (.int r) ∧ (0 < r ↔ y.toInt < x.toInt) ∧ L = L') := by
  refine oMeets.of (y := (⟨"java/lang/Long", "compareUnsigned", "(JJ)I"⟩ : MethodName)) (plainFor_of_name pn_10) fun p' e' s' m below meth c T cx o => ?_
  refine oGo.top (ef_10 m _ _) ?_
  refine g_lloadN cx o (pc' := 1) d10_0 rfl rfl ?_
  refine g_ldc2L cx o (pc' := 4) (z := (-9223372036854775808)) (hw _ (List.mem_of_getElem? (i := 62) rfl)) d10_1 rfl ?_
  refine g_ladd cx o (pc' := 5) d10_4 rfl ?_
  refine g_lloadN cx o (pc' := 6) d10_5 rfl rfl ?_
  refine g_ldc2L cx o (pc' := 9) (z := (-9223372036854775808)) (hw _ (List.mem_of_getElem? (i := 62) rfl)) d10_6 rfl ?_
  refine g_ladd cx o (pc' := 10) d10_9 rfl ?_
  refine g_static cx o (pc' := 13) (y := (⟨"java/lang/Long", "compare", "(JJ)I"⟩ : MethodName)) (hw _ (List.mem_of_getElem? (i := 63) rfl)) (hw _ (List.mem_of_getElem? (i := 64) rfl)) (hw _ (List.mem_of_getElem? (i := 60) rfl)) (hw _ (List.mem_of_getElem? (i := 65) rfl)) (rmLc l Z a0 hw _ _ _)  rfl pd_11 rfl (by decide) rfl 0 (Nat.le_of_eq rfl) (by decide) (by decide) (by decide) (by decide) d10_10 rfl (fun T v L hQ o => ?_)
  obtain ⟨r, rfl, kr, rfl⟩ := hQ
  simp only [Option.toList_some, Option.toList_none, List.cons_append, List.nil_append]
  have e1 : (-9223372036854775808 : Int64).toInt = -9223372036854775808 := by decide
  have x63 := x.toInt_lt
  have y63 := y.toInt_lt
  rw [Jvm.Kit.i64_add (by rw [e1]; omega) (by rw [e1]; omega), Jvm.Kit.i64_add (by rw [e1]; omega) (by rw [e1]; omega), e1] at kr
  exact g_ireturn cx o d10_13 (by decide) (by decide) ⟨r, rfl, kr.trans ⟨fun q => by omega, fun q => by omega⟩, rfl⟩
theorem d8_0 : decode prog_38_method_14_code 0 = .ok (.lload_n 0, 1) := by decide +kernel
theorem d8_1 : decode prog_38_method_14_code 1 = .ok (.iload 6, 2) := by decide +kernel
theorem d8_3 : decode prog_38_method_14_code 3 = .ok (.i2l, 1) := by decide +kernel
theorem d8_4 : decode prog_38_method_14_code 4 = .ok (.invokestatic 74, 3) := by decide +kernel
theorem d8_7 : decode prog_38_method_14_code 7 = .ok (.lstore 8, 2) := by decide +kernel
theorem d8_9 : decode prog_38_method_14_code 9 = .ok (.lload 4, 2) := by decide +kernel
theorem d8_11 : decode prog_38_method_14_code 11 = .ok (.iload_n 2, 1) := by decide +kernel
theorem d8_12 : decode prog_38_method_14_code 12 = .ok (.i2l, 1) := by decide +kernel
theorem d8_13 : decode prog_38_method_14_code 13 = .ok (.invokestatic 74, 3) := by decide +kernel
theorem d8_16 : decode prog_38_method_14_code 16 = .ok (.lstore 10, 2) := by decide +kernel
theorem d8_18 : decode prog_38_method_14_code 18 = .ok (.lload_n 0, 1) := by decide +kernel
theorem d8_19 : decode prog_38_method_14_code 19 = .ok (.iload 6, 2) := by decide +kernel
theorem d8_21 : decode prog_38_method_14_code 21 = .ok (.i2l, 1) := by decide +kernel
theorem d8_22 : decode prog_38_method_14_code 22 = .ok (.lmul, 1) := by decide +kernel
theorem d8_23 : decode prog_38_method_14_code 23 = .ok (.lstore 12, 2) := by decide +kernel
theorem d8_25 : decode prog_38_method_14_code 25 = .ok (.lload 4, 2) := by decide +kernel
theorem d8_27 : decode prog_38_method_14_code 27 = .ok (.iload_n 2, 1) := by decide +kernel
theorem d8_28 : decode prog_38_method_14_code 28 = .ok (.i2l, 1) := by decide +kernel
theorem d8_29 : decode prog_38_method_14_code 29 = .ok (.lmul, 1) := by decide +kernel
theorem d8_30 : decode prog_38_method_14_code 30 = .ok (.lstore 14, 2) := by decide +kernel
theorem d8_32 : decode prog_38_method_14_code 32 = .ok (.lload 8, 2) := by decide +kernel
theorem d8_34 : decode prog_38_method_14_code 34 = .ok (.lload 10, 2) := by decide +kernel
theorem d8_36 : decode prog_38_method_14_code 36 = .ok (.lcmp, 1) := by decide +kernel
theorem d8_37 : decode prog_38_method_14_code 37 = .ok (.ifCond .eq 19, 3) := by decide +kernel
theorem d8_40 : decode prog_38_method_14_code 40 = .ok (.lload 8, 2) := by decide +kernel
theorem d8_42 : decode prog_38_method_14_code 42 = .ok (.lload 10, 2) := by decide +kernel
theorem d8_44 : decode prog_38_method_14_code 44 = .ok (.lcmp, 1) := by decide +kernel
theorem d8_45 : decode prog_38_method_14_code 45 = .ok (.ifCond .le 7, 3) := by decide +kernel
theorem d8_48 : decode prog_38_method_14_code 48 = .ok (.iconst 1, 1) := by decide +kernel
theorem d8_49 : decode prog_38_method_14_code 49 = .ok (.goto 44, 3) := by decide +kernel
theorem d8_52 : decode prog_38_method_14_code 52 = .ok (.iconst 0, 1) := by decide +kernel
theorem d8_53 : decode prog_38_method_14_code 53 = .ok (.goto 40, 3) := by decide +kernel
theorem d8_56 : decode prog_38_method_14_code 56 = .ok (.lload 12, 2) := by decide +kernel
theorem d8_58 : decode prog_38_method_14_code 58 = .ok (.lload 14, 2) := by decide +kernel
theorem d8_60 : decode prog_38_method_14_code 60 = .ok (.lcmp, 1) := by decide +kernel
theorem d8_61 : decode prog_38_method_14_code 61 = .ok (.ifCond .eq 21, 3) := by decide +kernel
theorem d8_64 : decode prog_38_method_14_code 64 = .ok (.lload 12, 2) := by decide +kernel
theorem d8_66 : decode prog_38_method_14_code 66 = .ok (.lload 14, 2) := by decide +kernel
theorem d8_68 : decode prog_38_method_14_code 68 = .ok (.invokestatic 80, 3) := by decide +kernel
theorem d8_71 : decode prog_38_method_14_code 71 = .ok (.ifCond .le 7, 3) := by decide +kernel
theorem d8_74 : decode prog_38_method_14_code 74 = .ok (.iconst 1, 1) := by decide +kernel
theorem d8_75 : decode prog_38_method_14_code 75 = .ok (.goto 18, 3) := by decide +kernel
theorem d8_78 : decode prog_38_method_14_code 78 = .ok (.iconst 0, 1) := by decide +kernel
theorem d8_79 : decode prog_38_method_14_code 79 = .ok (.goto 14, 3) := by decide +kernel
theorem d8_82 : decode prog_38_method_14_code 82 = .ok (.iload_n 3, 1) := by decide +kernel
theorem d8_83 : decode prog_38_method_14_code 83 = .ok (.iload 7, 2) := by decide +kernel
theorem d8_85 : decode prog_38_method_14_code 85 = .ok (.if_icmp .ge 7, 3) := by decide +kernel
theorem d8_88 : decode prog_38_method_14_code 88 = .ok (.iconst 1, 1) := by decide +kernel
theorem d8_89 : decode prog_38_method_14_code 89 = .ok (.goto 4, 3) := by decide +kernel
theorem d8_92 : decode prog_38_method_14_code 92 = .ok (.iconst 0, 1) := by decide +kernel
theorem d8_93 : decode prog_38_method_14_code 93 = .ok (.ireturn, 1) := by decide +kernel
theorem pn_8 : plainName "com/example/cachesmith/cachesmith/solver/Knapsack" = true := by first | (simp [plainName, overriddenIn]; done) | decide +kernel
theorem pd_8 : parseMethodDescriptor "(JIIJII)Z" = some ⟨[.long, .int, .int, .long, .int, .int], some .boolean⟩ := by decide +kernel
set_option maxHeartbeats 4000000 in
theorem ef_8 (m : MethodId) (x0 : Int64) (x1 : Int32) (x2 : Int32) (x3 : Int64) (x4 : Int32) (x5 : Int32) : entryFrame m ([(.long x0), (.int x1), (.int x2), (.long x3), (.int x4), (.int x5)] : List Value).toArray 16 = mkF m 0 #[.val (.long x0), .second, .val (.int x1), .val (.int x2), .val (.long x3), .second, .val (.int x4), .val (.int x5), .unset, .unset, .unset, .unset, .unset, .unset, .unset, .unset] [] := by first | (simp [entryFrame, mkF, argsToLocals, Value.category, maxLocals]; done) | rfl
set_option maxHeartbeats 40000000 in
theorem rmPs (l : Launch) (Z : State) (a0 : Array Value) (hw : ∀ d ∈ tables_1, d.before a0 Z = true) (e e1 : Int64) (s v s1 v1 : Int32) (L : List oEnt) (he : 0 ≤ e.toInt ∧ e.toInt ≤ 2147483647) (hs : 1 ≤ s.toInt) (he1 : 0 ≤ e1.toInt ∧ e1.toInt ≤ 2147483647) (hs1 : 1 ≤ s1.toInt) :
    oMeets l Z (⟨"com/example/cachesmith/cachesmith/solver/Knapsack", "precedes", "(JIIJII)Z"⟩ : MethodName) prog_38_method_14_code 16 (some .boolean) ({ frames := 2, cells := 0, slots := 0, locals := 46 } : Room) [(.long e), (.int s), (.int v), (.long e1), (.int s1), (.int v1)] L (fun w L' => ∃ r : Int32, w = some (.int r) ∧ ((r = 1 ∧ oP e.toInt s.toInt v.toInt e1.toInt s1.toInt v1.toInt) ∨ (r = 0 ∧ ¬ oP e.toInt s.toInt v.toInt e1.toInt s1.toInt v1.toInt)) ∧ L = L') := by
  refine oMeets.of (y := (⟨"com/example/cachesmith/cachesmith/solver/Knapsack", "precedes", "(JIIJII)Z"⟩ : MethodName)) (plainFor_of_name pn_8) fun p' e' s' m below meth c T cx o => ?_
  refine oGo.top (ef_8 m _ _ _ _ _ _) ?_
  have u1 := s.toInt_lt
  have u2 := s1.toInt_lt
  have j1 : s.toInt64.toInt = s.toInt := Jvm.Kit.i64_of_i32 s
  have j2 : s1.toInt64.toInt = s1.toInt := Jvm.Kit.i64_of_i32 s1
  refine g_lloadN cx o (pc' := 1) d8_0 rfl rfl ?_
  refine g_iload cx o (pc' := 3) d8_1 rfl rfl ?_
  refine g_i2l cx o (pc' := 4) d8_3 rfl ?_
  refine g_static cx o (pc' := 7) (y := (⟨"java/lang/Math", "multiplyHigh", "(JJ)J"⟩ : MethodName)) (hw _ (List.mem_of_getElem? (i := 54) rfl)) (hw _ (List.mem_of_getElem? (i := 55) rfl)) (hw _ (List.mem_of_getElem? (i := 3) rfl)) (hw _ (List.mem_of_getElem? (i := 56) rfl)) (rmMh l Z a0 hw _ _ _ he (by rw [j2]; omega))  rfl pd_9 rfl (by decide) rfl 0 (Nat.le_of_eq rfl) (by decide) (by decide) (by decide) (by decide) d8_4 rfl (fun T v L hQ o => ?_)
  obtain ⟨rfl, rfl⟩ := hQ
  simp only [Option.toList_some, Option.toList_none, List.cons_append, List.nil_append]
  refine g_lstore cx o (pc' := 9) (l' := #[.val (.long e), .second, .val (.int s), .val (.int v), .val (.long e1), .second, .val (.int s1), .val (.int v1), .val (.long (0 : Int64)), .second, .unset, .unset, .unset, .unset, .unset, .unset]) d8_7 rfl rfl ?_
  refine g_lload cx o (pc' := 11) d8_9 rfl rfl ?_
  refine g_iloadN cx o (pc' := 12) d8_11 rfl rfl ?_
  refine g_i2l cx o (pc' := 13) d8_12 rfl ?_
  refine g_static cx o (pc' := 16) (y := (⟨"java/lang/Math", "multiplyHigh", "(JJ)J"⟩ : MethodName)) (hw _ (List.mem_of_getElem? (i := 54) rfl)) (hw _ (List.mem_of_getElem? (i := 55) rfl)) (hw _ (List.mem_of_getElem? (i := 3) rfl)) (hw _ (List.mem_of_getElem? (i := 56) rfl)) (rmMh l Z a0 hw _ _ _ he1 (by rw [j1]; omega))  rfl pd_9 rfl (by decide) rfl 0 (Nat.le_of_eq rfl) (by decide) (by decide) (by decide) (by decide) d8_13 rfl (fun T v L hQ o => ?_)
  obtain ⟨rfl, rfl⟩ := hQ
  simp only [Option.toList_some, Option.toList_none, List.cons_append, List.nil_append]
  refine g_lstore cx o (pc' := 18) (l' := #[.val (.long e), .second, .val (.int s), .val (.int v), .val (.long e1), .second, .val (.int s1), .val (.int v1), .val (.long (0 : Int64)), .second, .val (.long (0 : Int64)), .second, .unset, .unset, .unset, .unset]) d8_16 rfl rfl ?_
  refine g_lloadN cx o (pc' := 19) d8_18 rfl rfl ?_
  refine g_iload cx o (pc' := 21) d8_19 rfl rfl ?_
  refine g_i2l cx o (pc' := 22) d8_21 rfl ?_
  refine g_lmul cx o (pc' := 23) d8_22 rfl ?_
  refine g_lstoreV cx o (pc' := 25) (fun w' => #[.val (.long e), .second, .val (.int s), .val (.int v), .val (.long e1), .second, .val (.int s1), .val (.int v1), .val (.long (0 : Int64)), .second, .val (.long (0 : Int64)), .second, .val (.long w'), .second, .unset, .unset]) d8_23 rfl (fun _ => rfl) (fun lo h_lo => ?_)
  refine g_lload cx o (pc' := 27) d8_25 rfl rfl ?_
  refine g_iloadN cx o (pc' := 28) d8_27 rfl rfl ?_
  refine g_i2l cx o (pc' := 29) d8_28 rfl ?_
  refine g_lmul cx o (pc' := 30) d8_29 rfl ?_
  refine g_lstoreV cx o (pc' := 32) (fun w' => #[.val (.long e), .second, .val (.int s), .val (.int v), .val (.long e1), .second, .val (.int s1), .val (.int v1), .val (.long (0 : Int64)), .second, .val (.long (0 : Int64)), .second, .val (.long lo), .second, .val (.long w'), .second]) d8_30 rfl (fun _ => rfl) (fun lo1 h_lo1 => ?_)
  refine g_lload cx o (pc' := 34) d8_32 rfl rfl ?_
  refine g_lload cx o (pc' := 36) d8_34 rfl rfl ?_
  refine g_lcmp cx o (pc' := 37) d8_36 rfl ?_
  have k1 := o_mul64 (x := e) (y := s1.toInt64) rfl j2 he (by omega)
  rw [← h_lo] at k1
  have k2 := o_mul64 (x := e1) (y := s.toInt64) rfl j1 he1 (by omega)
  rw [← h_lo1] at k2
  refine g_if_eq cx o (pc' := 56) (pc2 := 40) d8_37 (by decide) (by decide) rfl (fun c37 => ?_) (fun c37 => absurd (by decide) c37)
  refine g_lload cx o (pc' := 58) d8_56 rfl rfl ?_
  refine g_lload cx o (pc' := 60) d8_58 rfl rfl ?_
  refine g_lcmp cx o (pc' := 61) d8_60 rfl ?_
  refine g_if_eq cx o (pc' := 82) (pc2 := 64) d8_61 (by decide) (by decide) rfl (fun c61 => ?_) (fun c61 => ?_)
  · have c := (o_cmpL0 _ _).mp c61
    rw [k1.1, k2.1] at c
    refine g_iloadN cx o (pc' := 83) d8_82 rfl rfl ?_
    refine g_iload cx o (pc' := 85) d8_83 rfl rfl ?_
    refine g_icmp_ge cx o (pc' := 92) (pc2 := 88) d8_85 (by decide) (by decide) rfl (fun c85 => ?_) (fun c85 => ?_)
    · refine g_iconst cx o (pc' := 93) (0 : Int32) d8_92 rfl rfl ?_
      have d : ¬ _ := fun z => c85 (Int32.lt_iff_toInt_lt.mpr z)
      exact g_ireturnZ cx o d8_93 (by decide) (by decide) (by decide) ⟨_, rfl, Or.inr ⟨rfl, fun q => q.elim (fun z => by omega) (fun z => d z.2)⟩, rfl⟩
    · refine g_iconst cx o (pc' := 89) (1 : Int32) d8_88 rfl rfl ?_
      refine g_goto cx o (pc' := 93) d8_89 (by decide) (by decide) ?_
      exact g_ireturnZ cx o d8_93 (by decide) (by decide) (by decide) ⟨_, rfl, Or.inl ⟨rfl, Or.inr ⟨c, Int32.lt_iff_toInt_lt.mp c85⟩⟩, rfl⟩
  · have c : ¬ _ := fun z => c61 ((o_cmpL0 _ _).mpr z)
    rw [k1.1, k2.1] at c
    refine g_lload cx o (pc' := 66) d8_64 rfl rfl ?_
    refine g_lload cx o (pc' := 68) d8_66 rfl rfl ?_
    refine g_static cx o (pc' := 71) (y := (⟨"java/lang/Long", "compareUnsigned", "(JJ)I"⟩ : MethodName)) (hw _ (List.mem_of_getElem? (i := 58) rfl)) (hw _ (List.mem_of_getElem? (i := 59) rfl)) (hw _ (List.mem_of_getElem? (i := 60) rfl)) (hw _ (List.mem_of_getElem? (i := 61) rfl)) (rmCu l Z a0 hw _ _ _ (by rw [k1.1]; exact k1.2.1) (by rw [k2.1]; exact k2.2.1))  rfl pd_10 rfl (by decide) rfl 0 (Nat.le_of_eq rfl) (by decide) (by decide) (by decide) (by decide) d8_68 rfl (fun T v L hQ o => ?_)
    obtain ⟨r, rfl, kr, rfl⟩ := hQ
    simp only [Option.toList_some, Option.toList_none, List.cons_append, List.nil_append]
    rw [k1.1, k2.1] at kr
    refine g_if_le cx o (pc' := 78) (pc2 := 74) d8_71 (by decide) (by decide) rfl (fun c71 => ?_) (fun c71 => ?_)
    · refine g_iconst cx o (pc' := 79) (0 : Int32) d8_78 rfl rfl ?_
      refine g_goto cx o (pc' := 93) d8_79 (by decide) (by decide) ?_
      have d : ¬ _ := fun z => c71 (kr.mpr z)
      exact g_ireturnZ cx o d8_93 (by decide) (by decide) (by decide) ⟨_, rfl, Or.inr ⟨rfl, fun q => q.elim d (fun z => c z.1)⟩, rfl⟩
    · refine g_iconst cx o (pc' := 75) (1 : Int32) d8_74 rfl rfl ?_
      refine g_goto cx o (pc' := 93) d8_75 (by decide) (by decide) ?_
      exact g_ireturnZ cx o d8_93 (by decide) (by decide) (by decide) ⟨_, rfl, Or.inl ⟨rfl, Or.inl (kr.mp c71)⟩, rfl⟩
theorem fs_Knapsack {Z : State} {a0 : Array Value} (hw : ∀ d ∈ tables_1, d.before a0 Z = true) : ∀ t ∈ ([("com/example/cachesmith/cachesmith/solver/Knapsack", "videos", "[I", .null), ("com/example/cachesmith/cachesmith/solver/Knapsack", "sizes", "[I", .null), ("com/example/cachesmith/cachesmith/solver/Knapsack", "excesses", "[J", .null), ("com/example/cachesmith/cachesmith/solver/Knapsack", "least", "D", (.double 0)), ("com/example/cachesmith/cachesmith/solver/Knapsack", "capacity", "I", (.int 0)), ("com/example/cachesmith/cachesmith/solver/Knapsack", "count", "I", (.int 0)), ("com/example/cachesmith/cachesmith/solver/Knapsack", "held", "J", (.long 0))] : oFs), Laid Z a0 "com/example/cachesmith/cachesmith/solver/Knapsack" t.1 t.2.1 t.2.2.1 ∧ ∃ ty, parseFieldDescriptor t.2.2.1 = some ty ∧ defaultValue ty = t.2.2.2 := by
  intro t ht
  simp only [List.mem_cons, List.not_mem_nil, or_false] at ht
  rcases ht with rfl | rfl | rfl | rfl | rfl | rfl | rfl
  · exact ⟨Or.inl (hw _ (List.mem_of_getElem? (i := 17) rfl)), (.array .int), by first | decide | decide +kernel, rfl⟩
  · exact ⟨Or.inl (hw _ (List.mem_of_getElem? (i := 19) rfl)), (.array .int), by first | decide | decide +kernel, rfl⟩
  · exact ⟨Or.inl (hw _ (List.mem_of_getElem? (i := 22) rfl)), (.array .long), by first | decide | decide +kernel, rfl⟩
  · exact ⟨Or.inl (hw _ (List.mem_of_getElem? (i := 25) rfl)), .double, by first | decide | decide +kernel, rfl⟩
  · exact ⟨Or.inr (hw _ (List.mem_of_getElem? (i := 27) rfl)), .int, by first | decide | decide +kernel, rfl⟩
  · exact ⟨Or.inl (hw _ (List.mem_of_getElem? (i := 34) rfl)), .int, by first | decide | decide +kernel, rfl⟩
  · exact ⟨Or.inl (hw _ (List.mem_of_getElem? (i := 40) rfl)), .long, by first | decide | decide +kernel, rfl⟩
theorem d2_0 : decode prog_38_method_1_code 0 = .ok (.aload_n 0, 1) := by decide +kernel
theorem d2_1 : decode prog_38_method_1_code 1 = .ok (.invokespecial 1, 3) := by decide +kernel
theorem d2_4 : decode prog_38_method_1_code 4 = .ok (.aload_n 0, 1) := by decide +kernel
theorem d2_5 : decode prog_38_method_1_code 5 = .ok (.iconst 4, 1) := by decide +kernel
theorem d2_6 : decode prog_38_method_1_code 6 = .ok (.newarray .int, 2) := by decide +kernel
theorem d2_8 : decode prog_38_method_1_code 8 = .ok (.putfield 7, 3) := by decide +kernel
theorem d2_11 : decode prog_38_method_1_code 11 = .ok (.aload_n 0, 1) := by decide +kernel
theorem d2_12 : decode prog_38_method_1_code 12 = .ok (.iconst 4, 1) := by decide +kernel
theorem d2_13 : decode prog_38_method_1_code 13 = .ok (.newarray .int, 2) := by decide +kernel
theorem d2_15 : decode prog_38_method_1_code 15 = .ok (.putfield 13, 3) := by decide +kernel
theorem d2_18 : decode prog_38_method_1_code 18 = .ok (.aload_n 0, 1) := by decide +kernel
theorem d2_19 : decode prog_38_method_1_code 19 = .ok (.iconst 4, 1) := by decide +kernel
theorem d2_20 : decode prog_38_method_1_code 20 = .ok (.newarray .long, 2) := by decide +kernel
theorem d2_22 : decode prog_38_method_1_code 22 = .ok (.putfield 16, 3) := by decide +kernel
theorem d2_25 : decode prog_38_method_1_code 25 = .ok (.aload_n 0, 1) := by decide +kernel
theorem d2_26 : decode prog_38_method_1_code 26 = .ok (.ldc2_w 20, 3) := by decide +kernel
theorem d2_29 : decode prog_38_method_1_code 29 = .ok (.putfield 22, 3) := by decide +kernel
theorem d2_32 : decode prog_38_method_1_code 32 = .ok (.aload_n 0, 1) := by decide +kernel
theorem d2_33 : decode prog_38_method_1_code 33 = .ok (.iload_n 1, 1) := by decide +kernel
theorem d2_34 : decode prog_38_method_1_code 34 = .ok (.putfield 26, 3) := by decide +kernel
theorem d2_37 : decode prog_38_method_1_code 37 = .ok (.return_, 1) := by decide +kernel
theorem pn_2 : plainName "com/example/cachesmith/cachesmith/solver/Knapsack" = true := by first | (simp [plainName, overriddenIn]; done) | decide +kernel
theorem pd_2 : parseMethodDescriptor "(I)V" = some ⟨[.int], none⟩ := by decide +kernel
set_option maxHeartbeats 4000000 in
theorem ef_2 (m : MethodId) (x0 : Addr) (x1 : Int32) : entryFrame m ([(.ref x0), (.int x1)] : List Value).toArray 2 = mkF m 0 #[.val (.ref x0), .val (.int x1)] [] := by first | (simp [entryFrame, mkF, argsToLocals, Value.category, maxLocals]; done) | rfl
set_option maxHeartbeats 40000000 in
theorem rmI (l : Launch) (Z : State) (a0 : Array Value) (hw : ∀ d ∈ tables_1, d.before a0 Z = true) (kr : Addr) (cap : Int32) (F : List oEnt) :
    oMeets l Z (⟨"com/example/cachesmith/cachesmith/solver/Knapsack", "<init>", "(I)V"⟩ : MethodName) prog_38_method_1_code 2 none ({ frames := 1, cells := 3, slots := 12, locals := 16 } : Room) [(.ref kr), (.int cap)] ((kr, oObj Z a0 "com/example/cachesmith/cachesmith/solver/Knapsack" [("com/example/cachesmith/cachesmith/solver/Knapsack", "videos", "[I", .null), ("com/example/cachesmith/cachesmith/solver/Knapsack", "sizes", "[I", .null), ("com/example/cachesmith/cachesmith/solver/Knapsack", "excesses", "[J", .null), ("com/example/cachesmith/cachesmith/solver/Knapsack", "least", "D", (.double 0)), ("com/example/cachesmith/cachesmith/solver/Knapsack", "capacity", "I", (.int 0)), ("com/example/cachesmith/cachesmith/solver/Knapsack", "count", "I", (.int 0)), ("com/example/cachesmith/cachesmith/solver/Knapsack", "held", "J", (.long 0))]) :: F) (fun v L' => v = none ∧ ∃ er sr vr, L' = (er, oArr Z .long [.long 0, .long 0, .long 0, .long 0]) :: (sr, oArr Z .int [.int 0, .int 0, .int 0, .int 0]) :: (vr, oArr Z .int [.int 0, .int 0, .int 0, .int 0]) :: (kr, oObj Z a0 "com/example/cachesmith/cachesmith/solver/Knapsack" [("com/example/cachesmith/cachesmith/solver/Knapsack", "videos", "[I", (.ref vr)), ("com/example/cachesmith/cachesmith/solver/Knapsack", "sizes", "[I", (.ref sr)), ("com/example/cachesmith/cachesmith/solver/Knapsack", "excesses", "[J", (.ref er)), ("com/example/cachesmith/cachesmith/solver/Knapsack", "least", "D", (.double (13830554455654793216 : UInt64))), ("com/example/cachesmith/cachesmith/solver/Knapsack", "capacity", "I", (.int cap)), ("com/example/cachesmith/cachesmith/solver/Knapsack", "count", "I", (.int 0)), ("com/example/cachesmith/cachesmith/solver/Knapsack", "held", "J", (.long 0))]) :: F) := by
  refine oMeets.of (y := (⟨"com/example/cachesmith/cachesmith/solver/Knapsack", "<init>", "(I)V"⟩ : MethodName)) (plainFor_of_name pn_2) fun p' e' s' m below meth c T cx o => ?_
  refine oGo.top (ef_2 m _ _) ?_
  refine g_aloadN cx o (pc' := 1) d2_0 rfl rfl rfl ?_
  refine g_initO cx o (pc' := 4) (hw _ (List.mem_of_getElem? (i := 12) rfl)) (hw _ (List.mem_of_getElem? (i := 13) rfl)) (hw _ (List.mem_of_getElem? (i := 14) rfl)) rfl 0 (Nat.le_of_eq rfl) (by decide) (by decide) d2_1 rfl (fun T o => ?_)
  refine g_aloadN cx o (pc' := 5) d2_4 rfl rfl rfl ?_
  refine g_iconst cx o (pc' := 6) (4 : Int32) d2_5 rfl rfl ?_
  refine g_newarray cx o (pc' := 8) (vs := [.int (0 : Int32), .int (0 : Int32), .int (0 : Int32), .int (0 : Int32)]) (hw _ (List.mem_of_getElem? (i := 15) rfl)) rfl 4 4 rfl rfl (by decide) (by decide) (by decide) (by decide) d2_6 rfl (fun T vr o => ?_)
  refine g_putfield cx o (pc' := 11) (hw _ (List.mem_of_getElem? (i := 16) rfl)) (Or.inl (hw _ (List.mem_of_getElem? (i := 17) rfl))) (hw _ (List.mem_of_getElem? (i := 7) rfl)) 1 0 rfl rfl ["videos", "sizes", "excesses", "least", "capacity", "count", "held"] rfl (by decide) (ty := (.array .int)) (by first | decide | decide +kernel) rfl rfl d2_8 rfl (fun T o => ?_)
  simp only [List.set_cons_zero, List.set_cons_succ] at o
  refine g_aloadN cx o (pc' := 12) d2_11 rfl rfl rfl ?_
  refine g_iconst cx o (pc' := 13) (4 : Int32) d2_12 rfl rfl ?_
  refine g_newarray cx o (pc' := 15) (vs := [.int (0 : Int32), .int (0 : Int32), .int (0 : Int32), .int (0 : Int32)]) (hw _ (List.mem_of_getElem? (i := 15) rfl)) rfl 4 4 rfl rfl (by decide) (by decide) (by decide) (by decide) d2_13 rfl (fun T sr o => ?_)
  refine g_putfield cx o (pc' := 18) (hw _ (List.mem_of_getElem? (i := 18) rfl)) (Or.inl (hw _ (List.mem_of_getElem? (i := 19) rfl))) (hw _ (List.mem_of_getElem? (i := 7) rfl)) 2 1 rfl rfl ["videos", "sizes", "excesses", "least", "capacity", "count", "held"] rfl (by decide) (ty := (.array .int)) (by first | decide | decide +kernel) rfl rfl d2_15 rfl (fun T o => ?_)
  simp only [List.set_cons_zero, List.set_cons_succ] at o
  refine g_aloadN cx o (pc' := 19) d2_18 rfl rfl rfl ?_
  refine g_iconst cx o (pc' := 20) (4 : Int32) d2_19 rfl rfl ?_
  refine g_newarray cx o (pc' := 22) (vs := [.long (0 : Int64), .long (0 : Int64), .long (0 : Int64), .long (0 : Int64)]) (hw _ (List.mem_of_getElem? (i := 20) rfl)) rfl 4 4 rfl rfl (by decide) (by decide) (by decide) (by decide) d2_20 rfl (fun T er o => ?_)
  refine g_putfield cx o (pc' := 25) (hw _ (List.mem_of_getElem? (i := 21) rfl)) (Or.inl (hw _ (List.mem_of_getElem? (i := 22) rfl))) (hw _ (List.mem_of_getElem? (i := 7) rfl)) 3 2 rfl rfl ["videos", "sizes", "excesses", "least", "capacity", "count", "held"] rfl (by decide) (ty := (.array .long)) (by first | decide | decide +kernel) rfl rfl d2_22 rfl (fun T o => ?_)
  simp only [List.set_cons_zero, List.set_cons_succ] at o
  refine g_aloadN cx o (pc' := 26) d2_25 rfl rfl rfl ?_
  refine g_ldc2D cx o (pc' := 29) (hw _ (List.mem_of_getElem? (i := 23) rfl)) d2_26 rfl ?_
  refine g_putfield cx o (pc' := 32) (hw _ (List.mem_of_getElem? (i := 24) rfl)) (Or.inl (hw _ (List.mem_of_getElem? (i := 25) rfl))) (hw _ (List.mem_of_getElem? (i := 7) rfl)) 3 3 rfl rfl ["videos", "sizes", "excesses", "least", "capacity", "count", "held"] rfl (by decide) (ty := .double) (by first | decide | decide +kernel) rfl rfl d2_29 rfl (fun T o => ?_)
  simp only [List.set_cons_zero, List.set_cons_succ] at o
  refine g_aloadN cx o (pc' := 33) d2_32 rfl rfl rfl ?_
  refine g_iloadN cx o (pc' := 34) d2_33 rfl rfl ?_
  refine g_putfield cx o (pc' := 37) (hw _ (List.mem_of_getElem? (i := 26) rfl)) (Or.inr ⟨(hw _ (List.mem_of_getElem? (i := 27) rfl)), rfl, rfl⟩) (hw _ (List.mem_of_getElem? (i := 7) rfl)) 3 4 rfl rfl ["videos", "sizes", "excesses", "least", "capacity", "count", "held"] rfl (by decide) (ty := .int) (by first | decide | decide +kernel) rfl rfl d2_34 rfl (fun T o => ?_)
  simp only [List.set_cons_zero, List.set_cons_succ] at o
  exact g_return cx o d2_37 (by decide) (by decide) ⟨rfl, _, _, _, rfl⟩
theorem d5_0 : decode prog_38_method_12_code 0 = .ok (.aload_n 0, 1) := by decide +kernel
theorem d5_1 : decode prog_38_method_12_code 1 = .ok (.getfield 7, 3) := by decide +kernel
theorem d5_4 : decode prog_38_method_12_code 4 = .ok (.iload_n 1, 1) := by decide +kernel
theorem d5_5 : decode prog_38_method_12_code 5 = .ok (.iload_n 2, 1) := by decide +kernel
theorem d5_6 : decode prog_38_method_12_code 6 = .ok (.iastore, 1) := by decide +kernel
theorem d5_7 : decode prog_38_method_12_code 7 = .ok (.aload_n 0, 1) := by decide +kernel
theorem d5_8 : decode prog_38_method_12_code 8 = .ok (.getfield 13, 3) := by decide +kernel
theorem d5_11 : decode prog_38_method_12_code 11 = .ok (.iload_n 1, 1) := by decide +kernel
theorem d5_12 : decode prog_38_method_12_code 12 = .ok (.iload_n 3, 1) := by decide +kernel
theorem d5_13 : decode prog_38_method_12_code 13 = .ok (.iastore, 1) := by decide +kernel
theorem d5_14 : decode prog_38_method_12_code 14 = .ok (.aload_n 0, 1) := by decide +kernel
theorem d5_15 : decode prog_38_method_12_code 15 = .ok (.getfield 16, 3) := by decide +kernel
theorem d5_18 : decode prog_38_method_12_code 18 = .ok (.iload_n 1, 1) := by decide +kernel
theorem d5_19 : decode prog_38_method_12_code 19 = .ok (.lload 4, 2) := by decide +kernel
theorem d5_21 : decode prog_38_method_12_code 21 = .ok (.lastore, 1) := by decide +kernel
theorem d5_22 : decode prog_38_method_12_code 22 = .ok (.return_, 1) := by decide +kernel
theorem pn_5 : plainName "com/example/cachesmith/cachesmith/solver/Knapsack" = true := by first | (simp [plainName, overriddenIn]; done) | decide +kernel
theorem pd_5 : parseMethodDescriptor "(IIIJ)V" = some ⟨[.int, .int, .int, .long], none⟩ := by decide +kernel
set_option maxHeartbeats 4000000 in
theorem ef_5p0 (m : MethodId) (x0 : Addr) (x1 : Int32) (x2 : Int32) (x3 : Int32) (x4 : Int64) : entryFrame m ([(.ref x0), (.int x1), (.int x2), (.int x3), (.long x4)] : List Value).toArray 6 = mkF m 0 #[.val (.ref x0), .val (.int x1), .val (.int x2), .val (.int x3), .val (.long x4), .second] [] := by first | (simp [entryFrame, mkF, argsToLocals, Value.category, maxLocals]; done) | rfl
set_option maxHeartbeats 40000000 in
theorem put0 (l : Launch) (Z : State) (a0 : Array Value) (hw : ∀ d ∈ tables_1, d.before a0 Z = true) (er sr vr kr : Addr) (cap : Int32) (F : List oEnt) (cnt : Int32) (held : Int64) (lst : UInt64) (x0 x1 x2 x3 : Int64) (y0 y1 y2 y3 z0 z1 z2 z3 : Int32) (v s : Int32) (e : Int64) :
    oMeets l Z (⟨"com/example/cachesmith/cachesmith/solver/Knapsack", "put", "(IIIJ)V"⟩ : MethodName) prog_38_method_12_code 6 none ({ frames := 0, cells := 0, slots := 0, locals := 0 } : Room) [(.ref kr), (.int (0 : Int32)), (.int v), (.int s), (.long e)] ((er, oArr Z .long [.long x0, .long x1, .long x2, .long x3]) :: (sr, oArr Z .int [.int y0, .int y1, .int y2, .int y3]) :: (vr, oArr Z .int [.int z0, .int z1, .int z2, .int z3]) :: (kr, oObj Z a0 "com/example/cachesmith/cachesmith/solver/Knapsack" [("com/example/cachesmith/cachesmith/solver/Knapsack", "videos", "[I", (.ref vr)), ("com/example/cachesmith/cachesmith/solver/Knapsack", "sizes", "[I", (.ref sr)), ("com/example/cachesmith/cachesmith/solver/Knapsack", "excesses", "[J", (.ref er)), ("com/example/cachesmith/cachesmith/solver/Knapsack", "least", "D", (.double lst)), ("com/example/cachesmith/cachesmith/solver/Knapsack", "capacity", "I", (.int cap)), ("com/example/cachesmith/cachesmith/solver/Knapsack", "count", "I", (.int cnt)), ("com/example/cachesmith/cachesmith/solver/Knapsack", "held", "J", (.long held))]) :: F) (fun w L' => w = none ∧ L' = (er, oArr Z .long [.long e, .long x1, .long x2, .long x3]) :: (sr, oArr Z .int [.int s, .int y1, .int y2, .int y3]) :: (vr, oArr Z .int [.int v, .int z1, .int z2, .int z3]) :: (kr, oObj Z a0 "com/example/cachesmith/cachesmith/solver/Knapsack" [("com/example/cachesmith/cachesmith/solver/Knapsack", "videos", "[I", (.ref vr)), ("com/example/cachesmith/cachesmith/solver/Knapsack", "sizes", "[I", (.ref sr)), ("com/example/cachesmith/cachesmith/solver/Knapsack", "excesses", "[J", (.ref er)), ("com/example/cachesmith/cachesmith/solver/Knapsack", "least", "D", (.double lst)), ("com/example/cachesmith/cachesmith/solver/Knapsack", "capacity", "I", (.int cap)), ("com/example/cachesmith/cachesmith/solver/Knapsack", "count", "I", (.int cnt)), ("com/example/cachesmith/cachesmith/solver/Knapsack", "held", "J", (.long held))]) :: F) := by
  refine oMeets.of (y := (⟨"com/example/cachesmith/cachesmith/solver/Knapsack", "put", "(IIIJ)V"⟩ : MethodName)) (plainFor_of_name pn_5) fun p' e' s' m below meth c T cx o => ?_
  refine oGo.top (ef_5p0 m _ _ _ _ _) ?_
  refine g_aloadN cx o (pc' := 1) d5_0 rfl rfl rfl ?_
  refine g_getfield cx o (pc' := 4) (hw _ (List.mem_of_getElem? (i := 16) rfl)) 3 0 rfl rfl d5_1 rfl (fun T o => ?_)
  refine g_iloadN cx o (pc' := 5) d5_4 rfl rfl ?_
  refine g_iloadN cx o (pc' := 6) d5_5 rfl rfl ?_
  refine g_iastore cx o (pc' := 7) 2 0 rfl (by decide) (Nat.le_of_ble_eq_true rfl) d5_6 rfl (fun T o => ?_)
  simp only [List.set_cons_zero, List.set_cons_succ] at o
  refine g_aloadN cx o (pc' := 8) d5_7 rfl rfl rfl ?_
  refine g_getfield cx o (pc' := 11) (hw _ (List.mem_of_getElem? (i := 18) rfl)) 3 1 rfl rfl d5_8 rfl (fun T o => ?_)
  refine g_iloadN cx o (pc' := 12) d5_11 rfl rfl ?_
  refine g_iloadN cx o (pc' := 13) d5_12 rfl rfl ?_
  refine g_iastore cx o (pc' := 14) 1 0 rfl (by decide) (Nat.le_of_ble_eq_true rfl) d5_13 rfl (fun T o => ?_)
  simp only [List.set_cons_zero, List.set_cons_succ] at o
  refine g_aloadN cx o (pc' := 15) d5_14 rfl rfl rfl ?_
  refine g_getfield cx o (pc' := 18) (hw _ (List.mem_of_getElem? (i := 21) rfl)) 3 2 rfl rfl d5_15 rfl (fun T o => ?_)
  refine g_iloadN cx o (pc' := 19) d5_18 rfl rfl ?_
  refine g_lload cx o (pc' := 21) d5_19 rfl rfl ?_
  refine g_lastore cx o (pc' := 22) 0 0 rfl (by decide) (Nat.le_of_ble_eq_true rfl) d5_21 rfl (fun T o => ?_)
  simp only [List.set_cons_zero, List.set_cons_succ] at o
  exact g_return cx o d5_22 (by decide) (by decide) ⟨rfl, rfl⟩
set_option maxHeartbeats 4000000 in
theorem ef_5p1 (m : MethodId) (x0 : Addr) (x1 : Int32) (x2 : Int32) (x3 : Int32) (x4 : Int64) : entryFrame m ([(.ref x0), (.int x1), (.int x2), (.int x3), (.long x4)] : List Value).toArray 6 = mkF m 0 #[.val (.ref x0), .val (.int x1), .val (.int x2), .val (.int x3), .val (.long x4), .second] [] := by first | (simp [entryFrame, mkF, argsToLocals, Value.category, maxLocals]; done) | rfl
set_option maxHeartbeats 40000000 in
theorem put1 (l : Launch) (Z : State) (a0 : Array Value) (hw : ∀ d ∈ tables_1, d.before a0 Z = true) (er sr vr kr : Addr) (cap : Int32) (F : List oEnt) (cnt : Int32) (held : Int64) (lst : UInt64) (x0 x1 x2 x3 : Int64) (y0 y1 y2 y3 z0 z1 z2 z3 : Int32) (v s : Int32) (e : Int64) :
    oMeets l Z (⟨"com/example/cachesmith/cachesmith/solver/Knapsack", "put", "(IIIJ)V"⟩ : MethodName) prog_38_method_12_code 6 none ({ frames := 0, cells := 0, slots := 0, locals := 0 } : Room) [(.ref kr), (.int (1 : Int32)), (.int v), (.int s), (.long e)] ((er, oArr Z .long [.long x0, .long x1, .long x2, .long x3]) :: (sr, oArr Z .int [.int y0, .int y1, .int y2, .int y3]) :: (vr, oArr Z .int [.int z0, .int z1, .int z2, .int z3]) :: (kr, oObj Z a0 "com/example/cachesmith/cachesmith/solver/Knapsack" [("com/example/cachesmith/cachesmith/solver/Knapsack", "videos", "[I", (.ref vr)), ("com/example/cachesmith/cachesmith/solver/Knapsack", "sizes", "[I", (.ref sr)), ("com/example/cachesmith/cachesmith/solver/Knapsack", "excesses", "[J", (.ref er)), ("com/example/cachesmith/cachesmith/solver/Knapsack", "least", "D", (.double lst)), ("com/example/cachesmith/cachesmith/solver/Knapsack", "capacity", "I", (.int cap)), ("com/example/cachesmith/cachesmith/solver/Knapsack", "count", "I", (.int cnt)), ("com/example/cachesmith/cachesmith/solver/Knapsack", "held", "J", (.long held))]) :: F) (fun w L' => w = none ∧ L' = (er, oArr Z .long [.long x0, .long e, .long x2, .long x3]) :: (sr, oArr Z .int [.int y0, .int s, .int y2, .int y3]) :: (vr, oArr Z .int [.int z0, .int v, .int z2, .int z3]) :: (kr, oObj Z a0 "com/example/cachesmith/cachesmith/solver/Knapsack" [("com/example/cachesmith/cachesmith/solver/Knapsack", "videos", "[I", (.ref vr)), ("com/example/cachesmith/cachesmith/solver/Knapsack", "sizes", "[I", (.ref sr)), ("com/example/cachesmith/cachesmith/solver/Knapsack", "excesses", "[J", (.ref er)), ("com/example/cachesmith/cachesmith/solver/Knapsack", "least", "D", (.double lst)), ("com/example/cachesmith/cachesmith/solver/Knapsack", "capacity", "I", (.int cap)), ("com/example/cachesmith/cachesmith/solver/Knapsack", "count", "I", (.int cnt)), ("com/example/cachesmith/cachesmith/solver/Knapsack", "held", "J", (.long held))]) :: F) := by
  refine oMeets.of (y := (⟨"com/example/cachesmith/cachesmith/solver/Knapsack", "put", "(IIIJ)V"⟩ : MethodName)) (plainFor_of_name pn_5) fun p' e' s' m below meth c T cx o => ?_
  refine oGo.top (ef_5p1 m _ _ _ _ _) ?_
  refine g_aloadN cx o (pc' := 1) d5_0 rfl rfl rfl ?_
  refine g_getfield cx o (pc' := 4) (hw _ (List.mem_of_getElem? (i := 16) rfl)) 3 0 rfl rfl d5_1 rfl (fun T o => ?_)
  refine g_iloadN cx o (pc' := 5) d5_4 rfl rfl ?_
  refine g_iloadN cx o (pc' := 6) d5_5 rfl rfl ?_
  refine g_iastore cx o (pc' := 7) 2 1 rfl (by decide) (Nat.le_of_ble_eq_true rfl) d5_6 rfl (fun T o => ?_)
  simp only [List.set_cons_zero, List.set_cons_succ] at o
  refine g_aloadN cx o (pc' := 8) d5_7 rfl rfl rfl ?_
  refine g_getfield cx o (pc' := 11) (hw _ (List.mem_of_getElem? (i := 18) rfl)) 3 1 rfl rfl d5_8 rfl (fun T o => ?_)
  refine g_iloadN cx o (pc' := 12) d5_11 rfl rfl ?_
  refine g_iloadN cx o (pc' := 13) d5_12 rfl rfl ?_
  refine g_iastore cx o (pc' := 14) 1 1 rfl (by decide) (Nat.le_of_ble_eq_true rfl) d5_13 rfl (fun T o => ?_)
  simp only [List.set_cons_zero, List.set_cons_succ] at o
  refine g_aloadN cx o (pc' := 15) d5_14 rfl rfl rfl ?_
  refine g_getfield cx o (pc' := 18) (hw _ (List.mem_of_getElem? (i := 21) rfl)) 3 2 rfl rfl d5_15 rfl (fun T o => ?_)
  refine g_iloadN cx o (pc' := 19) d5_18 rfl rfl ?_
  refine g_lload cx o (pc' := 21) d5_19 rfl rfl ?_
  refine g_lastore cx o (pc' := 22) 0 1 rfl (by decide) (Nat.le_of_ble_eq_true rfl) d5_21 rfl (fun T o => ?_)
  simp only [List.set_cons_zero, List.set_cons_succ] at o
  exact g_return cx o d5_22 (by decide) (by decide) ⟨rfl, rfl⟩
theorem d12_0 : decode prog_38_method_11_code 0 = .ok (.aload_n 0, 1) := by decide +kernel
theorem d12_1 : decode prog_38_method_11_code 1 = .ok (.iload_n 2, 1) := by decide +kernel
theorem d12_2 : decode prog_38_method_11_code 2 = .ok (.aload_n 0, 1) := by decide +kernel
theorem d12_3 : decode prog_38_method_11_code 3 = .ok (.getfield 7, 3) := by decide +kernel
theorem d12_6 : decode prog_38_method_11_code 6 = .ok (.iload_n 1, 1) := by decide +kernel
theorem d12_7 : decode prog_38_method_11_code 7 = .ok (.iaload, 1) := by decide +kernel
theorem d12_8 : decode prog_38_method_11_code 8 = .ok (.aload_n 0, 1) := by decide +kernel
theorem d12_9 : decode prog_38_method_11_code 9 = .ok (.getfield 13, 3) := by decide +kernel
theorem d12_12 : decode prog_38_method_11_code 12 = .ok (.iload_n 1, 1) := by decide +kernel
theorem d12_13 : decode prog_38_method_11_code 13 = .ok (.iaload, 1) := by decide +kernel
theorem d12_14 : decode prog_38_method_11_code 14 = .ok (.aload_n 0, 1) := by decide +kernel
theorem d12_15 : decode prog_38_method_11_code 15 = .ok (.getfield 16, 3) := by decide +kernel
theorem d12_18 : decode prog_38_method_11_code 18 = .ok (.iload_n 1, 1) := by decide +kernel
theorem d12_19 : decode prog_38_method_11_code 19 = .ok (.laload, 1) := by decide +kernel
theorem d12_20 : decode prog_38_method_11_code 20 = .ok (.invokevirtual 56, 3) := by decide +kernel
theorem d12_23 : decode prog_38_method_11_code 23 = .ok (.return_, 1) := by decide +kernel
theorem pn_12 : plainName "com/example/cachesmith/cachesmith/solver/Knapsack" = true := by first | (simp [plainName, overriddenIn]; done) | decide +kernel
theorem pd_12 : parseMethodDescriptor "(II)V" = some ⟨[.int, .int], none⟩ := by decide +kernel
set_option maxHeartbeats 4000000 in
theorem ef_12 (m : MethodId) (x0 : Addr) (x1 : Int32) (x2 : Int32) : entryFrame m ([(.ref x0), (.int x1), (.int x2)] : List Value).toArray 3 = mkF m 0 #[.val (.ref x0), .val (.int x1), .val (.int x2)] [] := by first | (simp [entryFrame, mkF, argsToLocals, Value.category, maxLocals]; done) | rfl
set_option maxHeartbeats 40000000 in
theorem rmMv (l : Launch) (Z : State) (a0 : Array Value) (hw : ∀ d ∈ tables_1, d.before a0 Z = true) (er sr vr kr : Addr) (cap : Int32) (F : List oEnt) (cnt : Int32) (held : Int64) (lst : UInt64) (x0 x1 x2 x3 : Int64) (y0 y1 y2 y3 z0 z1 z2 z3 : Int32) :
    oMeets l Z (⟨"com/example/cachesmith/cachesmith/solver/Knapsack", "move", "(II)V"⟩ : MethodName) prog_38_method_11_code 3 none ({ frames := 1, cells := 0, slots := 0, locals := 17 } : Room) [(.ref kr), (.int (0 : Int32)), (.int (1 : Int32))] ((er, oArr Z .long [.long x0, .long x1, .long x2, .long x3]) :: (sr, oArr Z .int [.int y0, .int y1, .int y2, .int y3]) :: (vr, oArr Z .int [.int z0, .int z1, .int z2, .int z3]) :: (kr, oObj Z a0 "com/example/cachesmith/cachesmith/solver/Knapsack" [("com/example/cachesmith/cachesmith/solver/Knapsack", "videos", "[I", (.ref vr)), ("com/example/cachesmith/cachesmith/solver/Knapsack", "sizes", "[I", (.ref sr)), ("com/example/cachesmith/cachesmith/solver/Knapsack", "excesses", "[J", (.ref er)), ("com/example/cachesmith/cachesmith/solver/Knapsack", "least", "D", (.double lst)), ("com/example/cachesmith/cachesmith/solver/Knapsack", "capacity", "I", (.int cap)), ("com/example/cachesmith/cachesmith/solver/Knapsack", "count", "I", (.int cnt)), ("com/example/cachesmith/cachesmith/solver/Knapsack", "held", "J", (.long held))]) :: F) (fun w L' => w = none ∧ L' = (er, oArr Z .long [.long x0, .long x0, .long x2, .long x3]) :: (sr, oArr Z .int [.int y0, .int y0, .int y2, .int y3]) :: (vr, oArr Z .int [.int z0, .int z0, .int z2, .int z3]) :: (kr, oObj Z a0 "com/example/cachesmith/cachesmith/solver/Knapsack" [("com/example/cachesmith/cachesmith/solver/Knapsack", "videos", "[I", (.ref vr)), ("com/example/cachesmith/cachesmith/solver/Knapsack", "sizes", "[I", (.ref sr)), ("com/example/cachesmith/cachesmith/solver/Knapsack", "excesses", "[J", (.ref er)), ("com/example/cachesmith/cachesmith/solver/Knapsack", "least", "D", (.double lst)), ("com/example/cachesmith/cachesmith/solver/Knapsack", "capacity", "I", (.int cap)), ("com/example/cachesmith/cachesmith/solver/Knapsack", "count", "I", (.int cnt)), ("com/example/cachesmith/cachesmith/solver/Knapsack", "held", "J", (.long held))]) :: F) := by
  refine oMeets.of (y := (⟨"com/example/cachesmith/cachesmith/solver/Knapsack", "move", "(II)V"⟩ : MethodName)) (plainFor_of_name pn_12) fun p' e' s' m below meth c T cx o => ?_
  refine oGo.top (ef_12 m _ _ _) ?_
  refine g_aloadN cx o (pc' := 1) d12_0 rfl rfl rfl ?_
  refine g_iloadN cx o (pc' := 2) d12_1 rfl rfl ?_
  refine g_aloadN cx o (pc' := 3) d12_2 rfl rfl rfl ?_
  refine g_getfield cx o (pc' := 6) (hw _ (List.mem_of_getElem? (i := 16) rfl)) 3 0 rfl rfl d12_3 rfl (fun T o => ?_)
  refine g_iloadN cx o (pc' := 7) d12_6 rfl rfl ?_
  refine g_iaload cx o (pc' := 8)  2 0 rfl (by decide) rfl d12_7 rfl ?_
  refine g_aloadN cx o (pc' := 9) d12_8 rfl rfl rfl ?_
  refine g_getfield cx o (pc' := 12) (hw _ (List.mem_of_getElem? (i := 18) rfl)) 3 1 rfl rfl d12_9 rfl (fun T o => ?_)
  refine g_iloadN cx o (pc' := 13) d12_12 rfl rfl ?_
  refine g_iaload cx o (pc' := 14)  1 0 rfl (by decide) rfl d12_13 rfl ?_
  refine g_aloadN cx o (pc' := 15) d12_14 rfl rfl rfl ?_
  refine g_getfield cx o (pc' := 18) (hw _ (List.mem_of_getElem? (i := 21) rfl)) 3 2 rfl rfl d12_15 rfl (fun T o => ?_)
  refine g_iloadN cx o (pc' := 19) d12_18 rfl rfl ?_
  refine g_laload cx o (pc' := 20)  0 0 rfl (by decide) rfl d12_19 rfl ?_
  refine g_private cx o (pc' := 23) (y := (⟨"com/example/cachesmith/cachesmith/solver/Knapsack", "put", "(IIIJ)V"⟩ : MethodName)) (hw _ (List.mem_of_getElem? (i := 35) rfl)) (hw _ (List.mem_of_getElem? (i := 31) rfl)) rfl (hw _ (List.mem_of_getElem? (i := 36) rfl)) (hw _ (List.mem_of_getElem? (i := 37) rfl)) (hw _ (List.mem_of_getElem? (i := 8) rfl)) (hw _ (List.mem_of_getElem? (i := 38) rfl)) 3 rfl (put1 l Z a0 hw er sr vr kr _ _ _ _ _ _ _ _ _ _ _ _ _ _ _ _ _ _ _ _)  rfl pd_5 rfl (by decide) rfl 0 (Nat.le_of_eq rfl) (by decide) (by decide) (by decide) (by decide) d12_20 rfl (fun T v L hQ o => ?_)
  obtain ⟨rfl, rfl⟩ := hQ
  simp only [Option.toList_some, Option.toList_none, List.cons_append, List.nil_append]
  exact g_return cx o d12_23 (by decide) (by decide) ⟨rfl, rfl⟩
theorem d13_0 : decode prog_38_method_10_code 0 = .ok (.aload_n 0, 1) := by decide +kernel
theorem d13_1 : decode prog_38_method_10_code 1 = .ok (.dup, 1) := by decide +kernel
theorem d13_2 : decode prog_38_method_10_code 2 = .ok (.getfield 33, 3) := by decide +kernel
theorem d13_5 : decode prog_38_method_10_code 5 = .ok (.aload_n 0, 1) := by decide +kernel
theorem d13_6 : decode prog_38_method_10_code 6 = .ok (.getfield 13, 3) := by decide +kernel
theorem d13_9 : decode prog_38_method_10_code 9 = .ok (.iconst 0, 1) := by decide +kernel
theorem d13_10 : decode prog_38_method_10_code 10 = .ok (.iaload, 1) := by decide +kernel
theorem d13_11 : decode prog_38_method_10_code 11 = .ok (.i2l, 1) := by decide +kernel
theorem d13_12 : decode prog_38_method_10_code 12 = .ok (.lsub, 1) := by decide +kernel
theorem d13_13 : decode prog_38_method_10_code 13 = .ok (.putfield 33, 3) := by decide +kernel
theorem d13_16 : decode prog_38_method_10_code 16 = .ok (.aload_n 0, 1) := by decide +kernel
theorem d13_17 : decode prog_38_method_10_code 17 = .ok (.dup, 1) := by decide +kernel
theorem d13_18 : decode prog_38_method_10_code 18 = .ok (.getfield 30, 3) := by decide +kernel
theorem d13_21 : decode prog_38_method_10_code 21 = .ok (.iconst 1, 1) := by decide +kernel
theorem d13_22 : decode prog_38_method_10_code 22 = .ok (.isub, 1) := by decide +kernel
theorem d13_23 : decode prog_38_method_10_code 23 = .ok (.putfield 30, 3) := by decide +kernel
theorem d13_26 : decode prog_38_method_10_code 26 = .ok (.aload_n 0, 1) := by decide +kernel
theorem d13_27 : decode prog_38_method_10_code 27 = .ok (.getfield 7, 3) := by decide +kernel
theorem d13_30 : decode prog_38_method_10_code 30 = .ok (.aload_n 0, 1) := by decide +kernel
theorem d13_31 : decode prog_38_method_10_code 31 = .ok (.getfield 30, 3) := by decide +kernel
theorem d13_34 : decode prog_38_method_10_code 34 = .ok (.iaload, 1) := by decide +kernel
theorem d13_35 : decode prog_38_method_10_code 35 = .ok (.istore_n 1, 1) := by decide +kernel
theorem d13_36 : decode prog_38_method_10_code 36 = .ok (.aload_n 0, 1) := by decide +kernel
theorem d13_37 : decode prog_38_method_10_code 37 = .ok (.getfield 13, 3) := by decide +kernel
theorem d13_40 : decode prog_38_method_10_code 40 = .ok (.aload_n 0, 1) := by decide +kernel
theorem d13_41 : decode prog_38_method_10_code 41 = .ok (.getfield 30, 3) := by decide +kernel
theorem d13_44 : decode prog_38_method_10_code 44 = .ok (.iaload, 1) := by decide +kernel
theorem d13_45 : decode prog_38_method_10_code 45 = .ok (.istore_n 2, 1) := by decide +kernel
theorem d13_46 : decode prog_38_method_10_code 46 = .ok (.aload_n 0, 1) := by decide +kernel
theorem d13_47 : decode prog_38_method_10_code 47 = .ok (.getfield 16, 3) := by decide +kernel
theorem d13_50 : decode prog_38_method_10_code 50 = .ok (.aload_n 0, 1) := by decide +kernel
theorem d13_51 : decode prog_38_method_10_code 51 = .ok (.getfield 30, 3) := by decide +kernel
theorem d13_54 : decode prog_38_method_10_code 54 = .ok (.laload, 1) := by decide +kernel
theorem d13_55 : decode prog_38_method_10_code 55 = .ok (.lstore_n 3, 1) := by decide +kernel
theorem d13_56 : decode prog_38_method_10_code 56 = .ok (.iconst 0, 1) := by decide +kernel
theorem d13_57 : decode prog_38_method_10_code 57 = .ok (.istore 5, 2) := by decide +kernel
theorem d13_59 : decode prog_38_method_10_code 59 = .ok (.iconst 2, 1) := by decide +kernel
theorem d13_60 : decode prog_38_method_10_code 60 = .ok (.iload 5, 2) := by decide +kernel
theorem d13_62 : decode prog_38_method_10_code 62 = .ok (.imul, 1) := by decide +kernel
theorem d13_63 : decode prog_38_method_10_code 63 = .ok (.iconst 1, 1) := by decide +kernel
theorem d13_64 : decode prog_38_method_10_code 64 = .ok (.iadd, 1) := by decide +kernel
theorem d13_65 : decode prog_38_method_10_code 65 = .ok (.aload_n 0, 1) := by decide +kernel
theorem d13_66 : decode prog_38_method_10_code 66 = .ok (.getfield 30, 3) := by decide +kernel
theorem d13_69 : decode prog_38_method_10_code 69 = .ok (.if_icmp .ge 87, 3) := by decide +kernel
theorem d13_72 : decode prog_38_method_10_code 72 = .ok (.iconst 2, 1) := by decide +kernel
theorem d13_73 : decode prog_38_method_10_code 73 = .ok (.iload 5, 2) := by decide +kernel
theorem d13_75 : decode prog_38_method_10_code 75 = .ok (.imul, 1) := by decide +kernel
theorem d13_76 : decode prog_38_method_10_code 76 = .ok (.iconst 1, 1) := by decide +kernel
theorem d13_77 : decode prog_38_method_10_code 77 = .ok (.iadd, 1) := by decide +kernel
theorem d13_78 : decode prog_38_method_10_code 78 = .ok (.istore 6, 2) := by decide +kernel
theorem d13_80 : decode prog_38_method_10_code 80 = .ok (.iload 6, 2) := by decide +kernel
theorem d13_82 : decode prog_38_method_10_code 82 = .ok (.iconst 1, 1) := by decide +kernel
theorem d13_83 : decode prog_38_method_10_code 83 = .ok (.iadd, 1) := by decide +kernel
theorem d13_84 : decode prog_38_method_10_code 84 = .ok (.aload_n 0, 1) := by decide +kernel
theorem d13_85 : decode prog_38_method_10_code 85 = .ok (.getfield 30, 3) := by decide +kernel
theorem d13_88 : decode prog_38_method_10_code 88 = .ok (.if_icmp .ge 38, 3) := by decide +kernel
theorem d13_91 : decode prog_38_method_10_code 91 = .ok (.aload_n 0, 1) := by decide +kernel
theorem d13_92 : decode prog_38_method_10_code 92 = .ok (.aload_n 0, 1) := by decide +kernel
theorem d13_93 : decode prog_38_method_10_code 93 = .ok (.getfield 16, 3) := by decide +kernel
theorem d13_96 : decode prog_38_method_10_code 96 = .ok (.iload 6, 2) := by decide +kernel
theorem d13_98 : decode prog_38_method_10_code 98 = .ok (.laload, 1) := by decide +kernel
theorem d13_99 : decode prog_38_method_10_code 99 = .ok (.aload_n 0, 1) := by decide +kernel
theorem d13_100 : decode prog_38_method_10_code 100 = .ok (.getfield 13, 3) := by decide +kernel
theorem d13_103 : decode prog_38_method_10_code 103 = .ok (.iload 6, 2) := by decide +kernel
theorem d13_105 : decode prog_38_method_10_code 105 = .ok (.iaload, 1) := by decide +kernel
theorem d13_106 : decode prog_38_method_10_code 106 = .ok (.aload_n 0, 1) := by decide +kernel
theorem d13_107 : decode prog_38_method_10_code 107 = .ok (.getfield 7, 3) := by decide +kernel
theorem d13_110 : decode prog_38_method_10_code 110 = .ok (.iload 6, 2) := by decide +kernel
theorem d13_112 : decode prog_38_method_10_code 112 = .ok (.iaload, 1) := by decide +kernel
theorem d13_113 : decode prog_38_method_10_code 113 = .ok (.iload 6, 2) := by decide +kernel
theorem d13_115 : decode prog_38_method_10_code 115 = .ok (.iconst 1, 1) := by decide +kernel
theorem d13_116 : decode prog_38_method_10_code 116 = .ok (.iadd, 1) := by decide +kernel
theorem d13_117 : decode prog_38_method_10_code 117 = .ok (.invokevirtual 39, 3) := by decide +kernel
theorem d13_120 : decode prog_38_method_10_code 120 = .ok (.ifCond .eq 6, 3) := by decide +kernel
theorem d13_123 : decode prog_38_method_10_code 123 = .ok (.iinc 6 1, 3) := by decide +kernel
theorem d13_126 : decode prog_38_method_10_code 126 = .ok (.aload_n 0, 1) := by decide +kernel
theorem d13_127 : decode prog_38_method_10_code 127 = .ok (.lload_n 3, 1) := by decide +kernel
theorem d13_128 : decode prog_38_method_10_code 128 = .ok (.iload_n 2, 1) := by decide +kernel
theorem d13_129 : decode prog_38_method_10_code 129 = .ok (.iload_n 1, 1) := by decide +kernel
theorem d13_130 : decode prog_38_method_10_code 130 = .ok (.iload 6, 2) := by decide +kernel
theorem d13_132 : decode prog_38_method_10_code 132 = .ok (.invokevirtual 39, 3) := by decide +kernel
theorem d13_135 : decode prog_38_method_10_code 135 = .ok (.ifCond .ne 6, 3) := by decide +kernel
theorem d13_138 : decode prog_38_method_10_code 138 = .ok (.goto 18, 3) := by decide +kernel
theorem d13_141 : decode prog_38_method_10_code 141 = .ok (.aload_n 0, 1) := by decide +kernel
theorem d13_142 : decode prog_38_method_10_code 142 = .ok (.iload 6, 2) := by decide +kernel
theorem d13_144 : decode prog_38_method_10_code 144 = .ok (.iload 5, 2) := by decide +kernel
theorem d13_146 : decode prog_38_method_10_code 146 = .ok (.invokevirtual 52, 3) := by decide +kernel
theorem d13_149 : decode prog_38_method_10_code 149 = .ok (.iload 6, 2) := by decide +kernel
theorem d13_151 : decode prog_38_method_10_code 151 = .ok (.istore 5, 2) := by decide +kernel
theorem d13_153 : decode prog_38_method_10_code 153 = .ok (.goto (-94), 3) := by decide +kernel
theorem d13_156 : decode prog_38_method_10_code 156 = .ok (.aload_n 0, 1) := by decide +kernel
theorem d13_157 : decode prog_38_method_10_code 157 = .ok (.iload 5, 2) := by decide +kernel
theorem d13_159 : decode prog_38_method_10_code 159 = .ok (.iload_n 1, 1) := by decide +kernel
theorem d13_160 : decode prog_38_method_10_code 160 = .ok (.iload_n 2, 1) := by decide +kernel
theorem d13_161 : decode prog_38_method_10_code 161 = .ok (.lload_n 3, 1) := by decide +kernel
theorem d13_162 : decode prog_38_method_10_code 162 = .ok (.invokevirtual 56, 3) := by decide +kernel
theorem d13_165 : decode prog_38_method_10_code 165 = .ok (.return_, 1) := by decide +kernel
theorem pn_13 : plainName "com/example/cachesmith/cachesmith/solver/Knapsack" = true := by first | (simp [plainName, overriddenIn]; done) | decide +kernel
theorem pd_13 : parseMethodDescriptor "()V" = some ⟨[], none⟩ := by decide +kernel
set_option maxHeartbeats 4000000 in
theorem ef_13 (m : MethodId) (x0 : Addr) : entryFrame m ([(.ref x0)] : List Value).toArray 7 = mkF m 0 #[.val (.ref x0), .unset, .unset, .unset, .unset, .unset, .unset] [] := by first | (simp [entryFrame, mkF, argsToLocals, Value.category, maxLocals]; done) | rfl
set_option maxHeartbeats 40000000 in
theorem rmRl (l : Launch) (Z : State) (a0 : Array Value) (hw : ∀ d ∈ tables_1, d.before a0 Z = true) (er sr vr kr : Addr) (cap : Int32) (F : List oEnt) (held : Int64) (lst : UInt64) (x0 x1 x2 x3 : Int64) (y0 y1 y2 y3 z0 z1 z2 z3 : Int32) :
    oMeets l Z (⟨"com/example/cachesmith/cachesmith/solver/Knapsack", "removeLast", "()V"⟩ : MethodName) prog_38_method_10_code 7 none ({ frames := 1, cells := 0, slots := 0, locals := 17 } : Room) [(.ref kr)] ((er, oArr Z .long [.long x0, .long x1, .long x2, .long x3]) :: (sr, oArr Z .int [.int y0, .int y1, .int y2, .int y3]) :: (vr, oArr Z .int [.int z0, .int z1, .int z2, .int z3]) :: (kr, oObj Z a0 "com/example/cachesmith/cachesmith/solver/Knapsack" [("com/example/cachesmith/cachesmith/solver/Knapsack", "videos", "[I", (.ref vr)), ("com/example/cachesmith/cachesmith/solver/Knapsack", "sizes", "[I", (.ref sr)), ("com/example/cachesmith/cachesmith/solver/Knapsack", "excesses", "[J", (.ref er)), ("com/example/cachesmith/cachesmith/solver/Knapsack", "least", "D", (.double lst)), ("com/example/cachesmith/cachesmith/solver/Knapsack", "capacity", "I", (.int cap)), ("com/example/cachesmith/cachesmith/solver/Knapsack", "count", "I", (.int 2)), ("com/example/cachesmith/cachesmith/solver/Knapsack", "held", "J", (.long held))]) :: F) (fun w L' => w = none ∧ L' = (er, oArr Z .long [.long x1, .long x1, .long x2, .long x3]) :: (sr, oArr Z .int [.int y1, .int y1, .int y2, .int y3]) :: (vr, oArr Z .int [.int z1, .int z1, .int z2, .int z3]) :: (kr, oObj Z a0 "com/example/cachesmith/cachesmith/solver/Knapsack" [("com/example/cachesmith/cachesmith/solver/Knapsack", "videos", "[I", (.ref vr)), ("com/example/cachesmith/cachesmith/solver/Knapsack", "sizes", "[I", (.ref sr)), ("com/example/cachesmith/cachesmith/solver/Knapsack", "excesses", "[J", (.ref er)), ("com/example/cachesmith/cachesmith/solver/Knapsack", "least", "D", (.double lst)), ("com/example/cachesmith/cachesmith/solver/Knapsack", "capacity", "I", (.int cap)), ("com/example/cachesmith/cachesmith/solver/Knapsack", "count", "I", (.int 1)), ("com/example/cachesmith/cachesmith/solver/Knapsack", "held", "J", (.long (held - y0.toInt64)))]) :: F) := by
  refine oMeets.of (y := (⟨"com/example/cachesmith/cachesmith/solver/Knapsack", "removeLast", "()V"⟩ : MethodName)) (plainFor_of_name pn_13) fun p' e' s' m below meth c T cx o => ?_
  refine oGo.top (ef_13 m _) ?_
  refine g_aloadN cx o (pc' := 1) d13_0 rfl rfl rfl ?_
  refine g_dup cx o (pc' := 2) d13_1 rfl rfl ?_
  refine g_getfield cx o (pc' := 5) (hw _ (List.mem_of_getElem? (i := 39) rfl)) 3 6 rfl rfl d13_2 rfl (fun T o => ?_)
  refine g_aloadN cx o (pc' := 6) d13_5 rfl rfl rfl ?_
  refine g_getfield cx o (pc' := 9) (hw _ (List.mem_of_getElem? (i := 18) rfl)) 3 1 rfl rfl d13_6 rfl (fun T o => ?_)
  refine g_iconst cx o (pc' := 10) (0 : Int32) d13_9 rfl rfl ?_
  refine g_iaload cx o (pc' := 11)  1 0 rfl (by decide) rfl d13_10 rfl ?_
  refine g_i2l cx o (pc' := 12) d13_11 rfl ?_
  refine g_lsub cx o (pc' := 13) d13_12 rfl ?_
  refine g_putfield cx o (pc' := 16) (hw _ (List.mem_of_getElem? (i := 39) rfl)) (Or.inl (hw _ (List.mem_of_getElem? (i := 40) rfl))) (hw _ (List.mem_of_getElem? (i := 7) rfl)) 3 6 rfl rfl ["videos", "sizes", "excesses", "least", "capacity", "count", "held"] rfl (by decide) (ty := .long) (by first | decide | decide +kernel) rfl rfl d13_13 rfl (fun T o => ?_)
  simp only [List.set_cons_zero, List.set_cons_succ] at o
  refine g_aloadN cx o (pc' := 17) d13_16 rfl rfl rfl ?_
  refine g_dup cx o (pc' := 18) d13_17 rfl rfl ?_
  refine g_getfield cx o (pc' := 21) (hw _ (List.mem_of_getElem? (i := 33) rfl)) 3 5 rfl rfl d13_18 rfl (fun T o => ?_)
  refine g_iconst cx o (pc' := 22) (1 : Int32) d13_21 rfl rfl ?_
  refine g_isub cx o (pc' := 23) d13_22 rfl ?_
  refine g_putfield cx o (pc' := 26) (hw _ (List.mem_of_getElem? (i := 33) rfl)) (Or.inl (hw _ (List.mem_of_getElem? (i := 34) rfl))) (hw _ (List.mem_of_getElem? (i := 7) rfl)) 3 5 rfl rfl ["videos", "sizes", "excesses", "least", "capacity", "count", "held"] rfl (by decide) (ty := .int) (by first | decide | decide +kernel) rfl rfl d13_23 rfl (fun T o => ?_)
  simp only [List.set_cons_zero, List.set_cons_succ] at o
  refine g_aloadN cx o (pc' := 27) d13_26 rfl rfl rfl ?_
  refine g_getfield cx o (pc' := 30) (hw _ (List.mem_of_getElem? (i := 16) rfl)) 3 0 rfl rfl d13_27 rfl (fun T o => ?_)
  refine g_aloadN cx o (pc' := 31) d13_30 rfl rfl rfl ?_
  refine g_getfield cx o (pc' := 34) (hw _ (List.mem_of_getElem? (i := 33) rfl)) 3 5 rfl rfl d13_31 rfl (fun T o => ?_)
  refine g_iaload cx o (pc' := 35)  2 1 rfl (by decide) rfl d13_34 rfl ?_
  refine g_istoreN cx o (pc' := 36) (l' := #[.val (.ref kr), .val (.int z1), .unset, .unset, .unset, .unset, .unset]) d13_35 rfl rfl ?_
  refine g_aloadN cx o (pc' := 37) d13_36 rfl rfl rfl ?_
  refine g_getfield cx o (pc' := 40) (hw _ (List.mem_of_getElem? (i := 18) rfl)) 3 1 rfl rfl d13_37 rfl (fun T o => ?_)
  refine g_aloadN cx o (pc' := 41) d13_40 rfl rfl rfl ?_
  refine g_getfield cx o (pc' := 44) (hw _ (List.mem_of_getElem? (i := 33) rfl)) 3 5 rfl rfl d13_41 rfl (fun T o => ?_)
  refine g_iaload cx o (pc' := 45)  1 1 rfl (by decide) rfl d13_44 rfl ?_
  refine g_istoreN cx o (pc' := 46) (l' := #[.val (.ref kr), .val (.int z1), .val (.int y1), .unset, .unset, .unset, .unset]) d13_45 rfl rfl ?_
  refine g_aloadN cx o (pc' := 47) d13_46 rfl rfl rfl ?_
  refine g_getfield cx o (pc' := 50) (hw _ (List.mem_of_getElem? (i := 21) rfl)) 3 2 rfl rfl d13_47 rfl (fun T o => ?_)
  refine g_aloadN cx o (pc' := 51) d13_50 rfl rfl rfl ?_
  refine g_getfield cx o (pc' := 54) (hw _ (List.mem_of_getElem? (i := 33) rfl)) 3 5 rfl rfl d13_51 rfl (fun T o => ?_)
  refine g_laload cx o (pc' := 55)  0 1 rfl (by decide) rfl d13_54 rfl ?_
  refine g_lstoreN cx o (pc' := 56) (l' := #[.val (.ref kr), .val (.int z1), .val (.int y1), .val (.long x1), .second, .unset, .unset]) d13_55 rfl rfl ?_
  refine g_iconst cx o (pc' := 57) (0 : Int32) d13_56 rfl rfl ?_
  refine g_istore cx o (pc' := 59) (l' := #[.val (.ref kr), .val (.int z1), .val (.int y1), .val (.long x1), .second, .val (.int (0 : Int32)), .unset]) d13_57 rfl rfl ?_
  refine g_iconst cx o (pc' := 60) (2 : Int32) d13_59 rfl rfl ?_
  refine g_iload cx o (pc' := 62) d13_60 rfl rfl ?_
  refine g_imul cx o (pc' := 63) d13_62 rfl ?_
  refine g_iconst cx o (pc' := 64) (1 : Int32) d13_63 rfl rfl ?_
  refine g_iadd cx o (pc' := 65) d13_64 rfl ?_
  refine g_aloadN cx o (pc' := 66) d13_65 rfl rfl rfl ?_
  refine g_getfield cx o (pc' := 69) (hw _ (List.mem_of_getElem? (i := 33) rfl)) 3 5 rfl rfl d13_66 rfl (fun T o => ?_)
  refine g_icmp_ge cx o (pc' := 156) (pc2 := 72) d13_69 (by decide) (by decide) rfl (fun c69 => ?_) (fun c69 => absurd c69 (by decide))
  refine g_aloadN cx o (pc' := 157) d13_156 rfl rfl rfl ?_
  refine g_iload cx o (pc' := 159) d13_157 rfl rfl ?_
  refine g_iloadN cx o (pc' := 160) d13_159 rfl rfl ?_
  refine g_iloadN cx o (pc' := 161) d13_160 rfl rfl ?_
  refine g_lloadN cx o (pc' := 162) d13_161 rfl rfl ?_
  refine g_private cx o (pc' := 165) (y := (⟨"com/example/cachesmith/cachesmith/solver/Knapsack", "put", "(IIIJ)V"⟩ : MethodName)) (hw _ (List.mem_of_getElem? (i := 35) rfl)) (hw _ (List.mem_of_getElem? (i := 31) rfl)) rfl (hw _ (List.mem_of_getElem? (i := 36) rfl)) (hw _ (List.mem_of_getElem? (i := 37) rfl)) (hw _ (List.mem_of_getElem? (i := 8) rfl)) (hw _ (List.mem_of_getElem? (i := 38) rfl)) 3 rfl (put0 l Z a0 hw er sr vr kr _ _ _ _ _ _ _ _ _ _ _ _ _ _ _ _ _ _ _ _)  rfl pd_5 rfl (by decide) rfl 0 (Nat.le_of_eq rfl) (by decide) (by decide) (by decide) (by decide) d13_162 rfl (fun T v L hQ o => ?_)
  obtain ⟨rfl, rfl⟩ := hQ
  simp only [Option.toList_some, Option.toList_none, List.cons_append, List.nil_append]
  exact g_return cx o d13_165 (by decide) (by decide) ⟨rfl, rfl⟩
theorem d7_0 : decode prog_38_method_13_code 0 = .ok (.lload_n 1, 1) := by decide +kernel
theorem d7_1 : decode prog_38_method_13_code 1 = .ok (.iload_n 3, 1) := by decide +kernel
theorem d7_2 : decode prog_38_method_13_code 2 = .ok (.iload 4, 2) := by decide +kernel
theorem d7_4 : decode prog_38_method_13_code 4 = .ok (.aload_n 0, 1) := by decide +kernel
theorem d7_5 : decode prog_38_method_13_code 5 = .ok (.getfield 16, 3) := by decide +kernel
theorem d7_8 : decode prog_38_method_13_code 8 = .ok (.iload 5, 2) := by decide +kernel
theorem d7_10 : decode prog_38_method_13_code 10 = .ok (.laload, 1) := by decide +kernel
theorem d7_11 : decode prog_38_method_13_code 11 = .ok (.aload_n 0, 1) := by decide +kernel
theorem d7_12 : decode prog_38_method_13_code 12 = .ok (.getfield 13, 3) := by decide +kernel
theorem d7_15 : decode prog_38_method_13_code 15 = .ok (.iload 5, 2) := by decide +kernel
theorem d7_17 : decode prog_38_method_13_code 17 = .ok (.iaload, 1) := by decide +kernel
theorem d7_18 : decode prog_38_method_13_code 18 = .ok (.aload_n 0, 1) := by decide +kernel
theorem d7_19 : decode prog_38_method_13_code 19 = .ok (.getfield 7, 3) := by decide +kernel
theorem d7_22 : decode prog_38_method_13_code 22 = .ok (.iload 5, 2) := by decide +kernel
theorem d7_24 : decode prog_38_method_13_code 24 = .ok (.iaload, 1) := by decide +kernel
theorem d7_25 : decode prog_38_method_13_code 25 = .ok (.invokestatic 71, 3) := by decide +kernel
theorem d7_28 : decode prog_38_method_13_code 28 = .ok (.ireturn, 1) := by decide +kernel
theorem pn_7 : plainName "com/example/cachesmith/cachesmith/solver/Knapsack" = true := by first | (simp [plainName, overriddenIn]; done) | decide +kernel
theorem pd_7 : parseMethodDescriptor "(JIII)Z" = some ⟨[.long, .int, .int, .int], some .boolean⟩ := by decide +kernel
set_option maxHeartbeats 4000000 in
theorem ef_7 (m : MethodId) (x0 : Addr) (x1 : Int64) (x2 : Int32) (x3 : Int32) (x4 : Int32) : entryFrame m ([(.ref x0), (.long x1), (.int x2), (.int x3), (.int x4)] : List Value).toArray 6 = mkF m 0 #[.val (.ref x0), .val (.long x1), .second, .val (.int x2), .val (.int x3), .val (.int x4)] [] := by first | (simp [entryFrame, mkF, argsToLocals, Value.category, maxLocals]; done) | rfl
set_option maxHeartbeats 40000000 in
theorem rmPr (l : Launch) (Z : State) (a0 : Array Value) (hw : ∀ d ∈ tables_1, d.before a0 Z = true) (er sr vr kr : Addr) (cap : Int32) (F : List oEnt) (cnt : Int32) (held : Int64) (lst : UInt64) (x0 x1 x2 x3 : Int64) (y0 y1 y2 y3 z0 z1 z2 z3 : Int32) (e : Int64) (s v : Int32) (he : 0 ≤ e.toInt ∧ e.toInt ≤ 2147483647) (hs : 1 ≤ s.toInt) (hx : 0 ≤ x0.toInt ∧ x0.toInt ≤ 2147483647) (hy : 1 ≤ y0.toInt) :
    oMeets l Z (⟨"com/example/cachesmith/cachesmith/solver/Knapsack", "precedes", "(JIII)Z"⟩ : MethodName) prog_38_method_13_code 6 (some .boolean) ({ frames := 3, cells := 0, slots := 0, locals := 73 } : Room) [(.ref kr), (.long e), (.int s), (.int v), (.int (0 : Int32))] ((er, oArr Z .long [.long x0, .long x1, .long x2, .long x3]) :: (sr, oArr Z .int [.int y0, .int y1, .int y2, .int y3]) :: (vr, oArr Z .int [.int z0, .int z1, .int z2, .int z3]) :: (kr, oObj Z a0 "com/example/cachesmith/cachesmith/solver/Knapsack" [("com/example/cachesmith/cachesmith/solver/Knapsack", "videos", "[I", (.ref vr)), ("com/example/cachesmith/cachesmith/solver/Knapsack", "sizes", "[I", (.ref sr)), ("com/example/cachesmith/cachesmith/solver/Knapsack", "excesses", "[J", (.ref er)), ("com/example/cachesmith/cachesmith/solver/Knapsack", "least", "D", (.double lst)), ("com/example/cachesmith/cachesmith/solver/Knapsack", "capacity", "I", (.int cap)), ("com/example/cachesmith/cachesmith/solver/Knapsack", "count", "I", (.int cnt)), ("com/example/cachesmith/cachesmith/solver/Knapsack", "held", "J", (.long held))]) :: F) (fun w L' => ∃ r : Int32, w = some (.int r) ∧ ((r = 1 ∧ oP e.toInt s.toInt v.toInt x0.toInt y0.toInt z0.toInt) ∨ (r = 0 ∧ ¬ oP e.toInt s.toInt v.toInt x0.toInt y0.toInt z0.toInt)) ∧ L' = (er, oArr Z .long [.long x0, .long x1, .long x2, .long x3]) :: (sr, oArr Z .int [.int y0, .int y1, .int y2, .int y3]) :: (vr, oArr Z .int [.int z0, .int z1, .int z2, .int z3]) :: (kr, oObj Z a0 "com/example/cachesmith/cachesmith/solver/Knapsack" [("com/example/cachesmith/cachesmith/solver/Knapsack", "videos", "[I", (.ref vr)), ("com/example/cachesmith/cachesmith/solver/Knapsack", "sizes", "[I", (.ref sr)), ("com/example/cachesmith/cachesmith/solver/Knapsack", "excesses", "[J", (.ref er)), ("com/example/cachesmith/cachesmith/solver/Knapsack", "least", "D", (.double lst)), ("com/example/cachesmith/cachesmith/solver/Knapsack", "capacity", "I", (.int cap)), ("com/example/cachesmith/cachesmith/solver/Knapsack", "count", "I", (.int cnt)), ("com/example/cachesmith/cachesmith/solver/Knapsack", "held", "J", (.long held))]) :: F) := by
  refine oMeets.of (y := (⟨"com/example/cachesmith/cachesmith/solver/Knapsack", "precedes", "(JIII)Z"⟩ : MethodName)) (plainFor_of_name pn_7) fun p' e' s' m below meth c T cx o => ?_
  refine oGo.top (ef_7 m _ _ _ _ _) ?_
  refine g_lloadN cx o (pc' := 1) d7_0 rfl rfl ?_
  refine g_iloadN cx o (pc' := 2) d7_1 rfl rfl ?_
  refine g_iload cx o (pc' := 4) d7_2 rfl rfl ?_
  refine g_aloadN cx o (pc' := 5) d7_4 rfl rfl rfl ?_
  refine g_getfield cx o (pc' := 8) (hw _ (List.mem_of_getElem? (i := 21) rfl)) 3 2 rfl rfl d7_5 rfl (fun T o => ?_)
  refine g_iload cx o (pc' := 10) d7_8 rfl rfl ?_
  refine g_laload cx o (pc' := 11)  0 0 rfl (by decide) rfl d7_10 rfl ?_
  refine g_aloadN cx o (pc' := 12) d7_11 rfl rfl rfl ?_
  refine g_getfield cx o (pc' := 15) (hw _ (List.mem_of_getElem? (i := 18) rfl)) 3 1 rfl rfl d7_12 rfl (fun T o => ?_)
  refine g_iload cx o (pc' := 17) d7_15 rfl rfl ?_
  refine g_iaload cx o (pc' := 18)  1 0 rfl (by decide) rfl d7_17 rfl ?_
  refine g_aloadN cx o (pc' := 19) d7_18 rfl rfl rfl ?_
  refine g_getfield cx o (pc' := 22) (hw _ (List.mem_of_getElem? (i := 16) rfl)) 3 0 rfl rfl d7_19 rfl (fun T o => ?_)
  refine g_iload cx o (pc' := 24) d7_22 rfl rfl ?_
  refine g_iaload cx o (pc' := 25)  2 0 rfl (by decide) rfl d7_24 rfl ?_
  refine g_static cx o (pc' := 28) (y := (⟨"com/example/cachesmith/cachesmith/solver/Knapsack", "precedes", "(JIIJII)Z"⟩ : MethodName)) (hw _ (List.mem_of_getElem? (i := 51) rfl)) (hw _ (List.mem_of_getElem? (i := 52) rfl)) (hw _ (List.mem_of_getElem? (i := 8) rfl)) (hw _ (List.mem_of_getElem? (i := 53) rfl)) (rmPs l Z a0 hw _ _ _ _ _ _ _ he hs hx hy)  rfl pd_8 rfl (by decide) rfl 0 (Nat.le_of_eq rfl) (by decide) (by decide) (by decide) (by decide) d7_25 rfl (fun T v L hQ o => ?_)
  obtain ⟨r, rfl, kr_, rfl⟩ := hQ
  simp only [Option.toList_some, Option.toList_none, List.cons_append, List.nil_append]
  have hz : r &&& 1 = r := by rcases kr_ with ⟨q, _⟩ | ⟨q, _⟩ <;> rw [q] <;> decide
  exact g_ireturnZ cx o d7_28 hz (by decide) (by decide) ⟨r, rfl, kr_, rfl⟩
theorem d6_0 : decode prog_38_method_8_code 0 = .ok (.iload_n 1, 1) := by decide +kernel
theorem d6_1 : decode prog_38_method_8_code 1 = .ok (.ifCond .ne 46, 3) := by decide +kernel
theorem d6_4 : decode prog_38_method_8_code 4 = .ok (.aload_n 0, 1) := by decide +kernel
theorem d6_5 : decode prog_38_method_8_code 5 = .ok (.getfield 33, 3) := by decide +kernel
theorem d6_8 : decode prog_38_method_8_code 8 = .ok (.aload_n 0, 1) := by decide +kernel
theorem d6_9 : decode prog_38_method_8_code 9 = .ok (.getfield 26, 3) := by decide +kernel
theorem d6_12 : decode prog_38_method_8_code 12 = .ok (.i2l, 1) := by decide +kernel
theorem d6_13 : decode prog_38_method_8_code 13 = .ok (.lcmp, 1) := by decide +kernel
theorem d6_14 : decode prog_38_method_8_code 14 = .ok (.ifCond .le 33, 3) := by decide +kernel
theorem d6_17 : decode prog_38_method_8_code 17 = .ok (.aload_n 0, 1) := by decide +kernel
theorem d6_18 : decode prog_38_method_8_code 18 = .ok (.getfield 26, 3) := by decide +kernel
theorem d6_21 : decode prog_38_method_8_code 21 = .ok (.i2l, 1) := by decide +kernel
theorem d6_22 : decode prog_38_method_8_code 22 = .ok (.aload_n 0, 1) := by decide +kernel
theorem d6_23 : decode prog_38_method_8_code 23 = .ok (.getfield 33, 3) := by decide +kernel
theorem d6_26 : decode prog_38_method_8_code 26 = .ok (.aload_n 0, 1) := by decide +kernel
theorem d6_27 : decode prog_38_method_8_code 27 = .ok (.getfield 13, 3) := by decide +kernel
theorem d6_30 : decode prog_38_method_8_code 30 = .ok (.iconst 0, 1) := by decide +kernel
theorem d6_31 : decode prog_38_method_8_code 31 = .ok (.iaload, 1) := by decide +kernel
theorem d6_32 : decode prog_38_method_8_code 32 = .ok (.i2l, 1) := by decide +kernel
theorem d6_33 : decode prog_38_method_8_code 33 = .ok (.lsub, 1) := by decide +kernel
theorem d6_34 : decode prog_38_method_8_code 34 = .ok (.lsub, 1) := by decide +kernel
theorem d6_35 : decode prog_38_method_8_code 35 = .ok (.l2d, 1) := by decide +kernel
theorem d6_36 : decode prog_38_method_8_code 36 = .ok (.aload_n 0, 1) := by decide +kernel
theorem d6_37 : decode prog_38_method_8_code 37 = .ok (.getfield 13, 3) := by decide +kernel
theorem d6_40 : decode prog_38_method_8_code 40 = .ok (.iconst 0, 1) := by decide +kernel
theorem d6_41 : decode prog_38_method_8_code 41 = .ok (.iaload, 1) := by decide +kernel
theorem d6_42 : decode prog_38_method_8_code 42 = .ok (.i2d, 1) := by decide +kernel
theorem d6_43 : decode prog_38_method_8_code 43 = .ok (.ddiv, 1) := by decide +kernel
theorem d6_44 : decode prog_38_method_8_code 44 = .ok (.goto 4, 3) := by decide +kernel
theorem d6_47 : decode prog_38_method_8_code 47 = .ok (.dconst 1, 1) := by decide +kernel
theorem d6_48 : decode prog_38_method_8_code 48 = .ok (.dreturn, 1) := by decide +kernel
theorem pn_6 : plainName "com/example/cachesmith/cachesmith/solver/Knapsack" = true := by first | (simp [plainName, overriddenIn]; done) | decide +kernel
theorem pd_6 : parseMethodDescriptor "(I)D" = some ⟨[.int], some .double⟩ := by decide +kernel
set_option maxHeartbeats 4000000 in
theorem ef_6 (m : MethodId) (x0 : Addr) (x1 : Int32) : entryFrame m ([(.ref x0), (.int x1)] : List Value).toArray 2 = mkF m 0 #[.val (.ref x0), .val (.int x1)] [] := by first | (simp [entryFrame, mkF, argsToLocals, Value.category, maxLocals]; done) | rfl
set_option maxHeartbeats 40000000 in
theorem rmSh (l : Launch) (Z : State) (a0 : Array Value) (hw : ∀ d ∈ tables_1, d.before a0 Z = true) (er sr vr kr : Addr) (cap : Int32) (F : List oEnt) (cnt : Int32) (held : Int64) (lst : UInt64) (x0 x1 x2 x3 : Int64) (y0 y1 y2 y3 z0 z1 z2 z3 : Int32) (i : Int32) (hn : cap.toInt < held.toInt → NoNaN64 (FP.ddiv (FP.l2d (cap.toInt64 - (held - y0.toInt64))) (FP.i2d y0))) :
    oMeets l Z (⟨"com/example/cachesmith/cachesmith/solver/Knapsack", "share", "(I)D"⟩ : MethodName) prog_38_method_8_code 2 (some .double) ({ frames := 0, cells := 0, slots := 0, locals := 0 } : Room) [(.ref kr), (.int i)] ((er, oArr Z .long [.long x0, .long x1, .long x2, .long x3]) :: (sr, oArr Z .int [.int y0, .int y1, .int y2, .int y3]) :: (vr, oArr Z .int [.int z0, .int z1, .int z2, .int z3]) :: (kr, oObj Z a0 "com/example/cachesmith/cachesmith/solver/Knapsack" [("com/example/cachesmith/cachesmith/solver/Knapsack", "videos", "[I", (.ref vr)), ("com/example/cachesmith/cachesmith/solver/Knapsack", "sizes", "[I", (.ref sr)), ("com/example/cachesmith/cachesmith/solver/Knapsack", "excesses", "[J", (.ref er)), ("com/example/cachesmith/cachesmith/solver/Knapsack", "least", "D", (.double lst)), ("com/example/cachesmith/cachesmith/solver/Knapsack", "capacity", "I", (.int cap)), ("com/example/cachesmith/cachesmith/solver/Knapsack", "count", "I", (.int cnt)), ("com/example/cachesmith/cachesmith/solver/Knapsack", "held", "J", (.long held))]) :: F) (fun w L' => ∃ d : UInt64, w = some (.double d) ∧ ((i = 0 ∧ cap.toInt < held.toInt ∧ d = (FP.ddiv (FP.l2d (cap.toInt64 - (held - y0.toInt64))) (FP.i2d y0))) ∨ ((i ≠ 0 ∨ held.toInt ≤ cap.toInt) ∧ d = FP.dconst1)) ∧ L' = (er, oArr Z .long [.long x0, .long x1, .long x2, .long x3]) :: (sr, oArr Z .int [.int y0, .int y1, .int y2, .int y3]) :: (vr, oArr Z .int [.int z0, .int z1, .int z2, .int z3]) :: (kr, oObj Z a0 "com/example/cachesmith/cachesmith/solver/Knapsack" [("com/example/cachesmith/cachesmith/solver/Knapsack", "videos", "[I", (.ref vr)), ("com/example/cachesmith/cachesmith/solver/Knapsack", "sizes", "[I", (.ref sr)), ("com/example/cachesmith/cachesmith/solver/Knapsack", "excesses", "[J", (.ref er)), ("com/example/cachesmith/cachesmith/solver/Knapsack", "least", "D", (.double lst)), ("com/example/cachesmith/cachesmith/solver/Knapsack", "capacity", "I", (.int cap)), ("com/example/cachesmith/cachesmith/solver/Knapsack", "count", "I", (.int cnt)), ("com/example/cachesmith/cachesmith/solver/Knapsack", "held", "J", (.long held))]) :: F) := by
  refine oMeets.of (y := (⟨"com/example/cachesmith/cachesmith/solver/Knapsack", "share", "(I)D"⟩ : MethodName)) (plainFor_of_name pn_6) fun p' e' s' m below meth c T cx o => ?_
  refine oGo.top (ef_6 m _ _) ?_
  refine g_iloadN cx o (pc' := 1) d6_0 rfl rfl ?_
  refine g_if_ne cx o (pc' := 47) (pc2 := 4) d6_1 (by decide) (by decide) rfl (fun c1 => ?_) (fun c1 => ?_)
  · refine g_dconst1 cx o (pc' := 48) d6_47 rfl ?_
    exact g_dreturn cx o d6_48 (by decide) (by decide) ⟨_, rfl, Or.inr ⟨Or.inl c1, rfl⟩, rfl⟩
  · refine g_aloadN cx o (pc' := 5) d6_4 rfl rfl rfl ?_
    refine g_getfield cx o (pc' := 8) (hw _ (List.mem_of_getElem? (i := 39) rfl)) 3 6 rfl rfl d6_5 rfl (fun T o => ?_)
    refine g_aloadN cx o (pc' := 9) d6_8 rfl rfl rfl ?_
    refine g_getfield cx o (pc' := 12) (hw _ (List.mem_of_getElem? (i := 26) rfl)) 3 4 rfl rfl d6_9 rfl (fun T o => ?_)
    refine g_i2l cx o (pc' := 13) d6_12 rfl ?_
    refine g_lcmp cx o (pc' := 14) d6_13 rfl ?_
    refine g_if_le cx o (pc' := 47) (pc2 := 17) d6_14 (by decide) (by decide) rfl (fun c14 => ?_) (fun c14 => ?_)
    · have c : ¬ cap.toInt < held.toInt := fun q => c14 ((o_cmpL _ _).mpr (by rw [Jvm.Kit.i64_of_i32]; exact q))
      refine g_dconst1 cx o (pc' := 48) d6_47 rfl ?_
      exact g_dreturn cx o d6_48 (by decide) (by decide) ⟨_, rfl, Or.inr ⟨Or.inr (by omega), rfl⟩, rfl⟩
    · have c : cap.toInt < held.toInt := by have q := (o_cmpL _ _).mp c14; rw [Jvm.Kit.i64_of_i32] at q; exact q
      refine g_aloadN cx o (pc' := 18) d6_17 rfl rfl rfl ?_
      refine g_getfield cx o (pc' := 21) (hw _ (List.mem_of_getElem? (i := 26) rfl)) 3 4 rfl rfl d6_18 rfl (fun T o => ?_)
      refine g_i2l cx o (pc' := 22) d6_21 rfl ?_
      refine g_aloadN cx o (pc' := 23) d6_22 rfl rfl rfl ?_
      refine g_getfield cx o (pc' := 26) (hw _ (List.mem_of_getElem? (i := 39) rfl)) 3 6 rfl rfl d6_23 rfl (fun T o => ?_)
      refine g_aloadN cx o (pc' := 27) d6_26 rfl rfl rfl ?_
      refine g_getfield cx o (pc' := 30) (hw _ (List.mem_of_getElem? (i := 18) rfl)) 3 1 rfl rfl d6_27 rfl (fun T o => ?_)
      refine g_iconst cx o (pc' := 31) (0 : Int32) d6_30 rfl rfl ?_
      refine g_iaload cx o (pc' := 32)  1 0 rfl (by decide) rfl d6_31 rfl ?_
      refine g_i2l cx o (pc' := 33) d6_32 rfl ?_
      refine g_lsub cx o (pc' := 34) d6_33 rfl ?_
      refine g_lsub cx o (pc' := 35) d6_34 rfl ?_
      refine g_l2d cx o (pc' := 36) d6_35 rfl ?_
      refine g_aloadN cx o (pc' := 37) d6_36 rfl rfl rfl ?_
      refine g_getfield cx o (pc' := 40) (hw _ (List.mem_of_getElem? (i := 18) rfl)) 3 1 rfl rfl d6_37 rfl (fun T o => ?_)
      refine g_iconst cx o (pc' := 41) (0 : Int32) d6_40 rfl rfl ?_
      refine g_iaload cx o (pc' := 42)  1 0 rfl (by decide) rfl d6_41 rfl ?_
      refine g_i2d cx o (pc' := 43) d6_42 rfl ?_
      refine g_ddiv cx o (pc' := 44) d6_43 rfl (hn c) ?_
      refine g_goto cx o (pc' := 48) d6_44 (by decide) (by decide) ?_
      exact g_dreturn cx o d6_48 (by decide) (by decide) ⟨_, rfl, Or.inl ⟨c1, c, rfl⟩, rfl⟩
theorem d4_0 : decode prog_38_method_3_code 0 = .ok (.aload_n 0, 1) := by decide +kernel
theorem d4_1 : decode prog_38_method_3_code 1 = .ok (.getfield 22, 3) := by decide +kernel
theorem d4_4 : decode prog_38_method_3_code 4 = .ok (.dconst 0, 1) := by decide +kernel
theorem d4_5 : decode prog_38_method_3_code 5 = .ok (.dcmp .l, 1) := by decide +kernel
theorem d4_6 : decode prog_38_method_3_code 6 = .ok (.ifCond .lt 32, 3) := by decide +kernel
theorem d4_9 : decode prog_38_method_3_code 9 = .ok (.lload_n 3, 1) := by decide +kernel
theorem d4_10 : decode prog_38_method_3_code 10 = .ok (.l2d, 1) := by decide +kernel
theorem d4_11 : decode prog_38_method_3_code 11 = .ok (.iload_n 2, 1) := by decide +kernel
theorem d4_12 : decode prog_38_method_3_code 12 = .ok (.i2d, 1) := by decide +kernel
theorem d4_13 : decode prog_38_method_3_code 13 = .ok (.ddiv, 1) := by decide +kernel
theorem d4_14 : decode prog_38_method_3_code 14 = .ok (.aload_n 0, 1) := by decide +kernel
theorem d4_15 : decode prog_38_method_3_code 15 = .ok (.getfield 22, 3) := by decide +kernel
theorem d4_18 : decode prog_38_method_3_code 18 = .ok (.ldc2_w 37, 3) := by decide +kernel
theorem d4_21 : decode prog_38_method_3_code 21 = .ok (.dmul, 1) := by decide +kernel
theorem d4_22 : decode prog_38_method_3_code 22 = .ok (.dcmp .g, 1) := by decide +kernel
theorem d4_23 : decode prog_38_method_3_code 23 = .ok (.ifCond .lt 14, 3) := by decide +kernel
theorem d4_26 : decode prog_38_method_3_code 26 = .ok (.aload_n 0, 1) := by decide +kernel
theorem d4_27 : decode prog_38_method_3_code 27 = .ok (.lload_n 3, 1) := by decide +kernel
theorem d4_28 : decode prog_38_method_3_code 28 = .ok (.iload_n 2, 1) := by decide +kernel
theorem d4_29 : decode prog_38_method_3_code 29 = .ok (.iload_n 1, 1) := by decide +kernel
theorem d4_30 : decode prog_38_method_3_code 30 = .ok (.iconst 0, 1) := by decide +kernel
theorem d4_31 : decode prog_38_method_3_code 31 = .ok (.invokevirtual 39, 3) := by decide +kernel
theorem d4_34 : decode prog_38_method_3_code 34 = .ok (.ifCond .ne 4, 3) := by decide +kernel
theorem d4_37 : decode prog_38_method_3_code 37 = .ok (.return_, 1) := by decide +kernel
theorem d4_38 : decode prog_38_method_3_code 38 = .ok (.aload_n 0, 1) := by decide +kernel
theorem d4_39 : decode prog_38_method_3_code 39 = .ok (.getfield 30, 3) := by decide +kernel
theorem d4_42 : decode prog_38_method_3_code 42 = .ok (.aload_n 0, 1) := by decide +kernel
theorem d4_43 : decode prog_38_method_3_code 43 = .ok (.getfield 7, 3) := by decide +kernel
theorem d4_46 : decode prog_38_method_3_code 46 = .ok (.arraylength, 1) := by decide +kernel
theorem d4_47 : decode prog_38_method_3_code 47 = .ok (.if_icmp .ne 54, 3) := by decide +kernel
theorem d4_50 : decode prog_38_method_3_code 50 = .ok (.aload_n 0, 1) := by decide +kernel
theorem d4_51 : decode prog_38_method_3_code 51 = .ok (.aload_n 0, 1) := by decide +kernel
theorem d4_52 : decode prog_38_method_3_code 52 = .ok (.getfield 7, 3) := by decide +kernel
theorem d4_55 : decode prog_38_method_3_code 55 = .ok (.iconst 2, 1) := by decide +kernel
theorem d4_56 : decode prog_38_method_3_code 56 = .ok (.aload_n 0, 1) := by decide +kernel
theorem d4_57 : decode prog_38_method_3_code 57 = .ok (.getfield 30, 3) := by decide +kernel
theorem d4_60 : decode prog_38_method_3_code 60 = .ok (.imul, 1) := by decide +kernel
theorem d4_61 : decode prog_38_method_3_code 61 = .ok (.invokestatic 43, 3) := by decide +kernel
theorem d4_64 : decode prog_38_method_3_code 64 = .ok (.putfield 7, 3) := by decide +kernel
theorem d4_67 : decode prog_38_method_3_code 67 = .ok (.aload_n 0, 1) := by decide +kernel
theorem d4_68 : decode prog_38_method_3_code 68 = .ok (.aload_n 0, 1) := by decide +kernel
theorem d4_69 : decode prog_38_method_3_code 69 = .ok (.getfield 13, 3) := by decide +kernel
theorem d4_72 : decode prog_38_method_3_code 72 = .ok (.iconst 2, 1) := by decide +kernel
theorem d4_73 : decode prog_38_method_3_code 73 = .ok (.aload_n 0, 1) := by decide +kernel
theorem d4_74 : decode prog_38_method_3_code 74 = .ok (.getfield 30, 3) := by decide +kernel
theorem d4_77 : decode prog_38_method_3_code 77 = .ok (.imul, 1) := by decide +kernel
theorem d4_78 : decode prog_38_method_3_code 78 = .ok (.invokestatic 43, 3) := by decide +kernel
theorem d4_81 : decode prog_38_method_3_code 81 = .ok (.putfield 13, 3) := by decide +kernel
theorem d4_84 : decode prog_38_method_3_code 84 = .ok (.aload_n 0, 1) := by decide +kernel
theorem d4_85 : decode prog_38_method_3_code 85 = .ok (.aload_n 0, 1) := by decide +kernel
theorem d4_86 : decode prog_38_method_3_code 86 = .ok (.getfield 16, 3) := by decide +kernel
theorem d4_89 : decode prog_38_method_3_code 89 = .ok (.iconst 2, 1) := by decide +kernel
theorem d4_90 : decode prog_38_method_3_code 90 = .ok (.aload_n 0, 1) := by decide +kernel
theorem d4_91 : decode prog_38_method_3_code 91 = .ok (.getfield 30, 3) := by decide +kernel
theorem d4_94 : decode prog_38_method_3_code 94 = .ok (.imul, 1) := by decide +kernel
theorem d4_95 : decode prog_38_method_3_code 95 = .ok (.invokestatic 49, 3) := by decide +kernel
theorem d4_98 : decode prog_38_method_3_code 98 = .ok (.putfield 16, 3) := by decide +kernel
theorem d4_101 : decode prog_38_method_3_code 101 = .ok (.aload_n 0, 1) := by decide +kernel
theorem d4_102 : decode prog_38_method_3_code 102 = .ok (.dup, 1) := by decide +kernel
theorem d4_103 : decode prog_38_method_3_code 103 = .ok (.getfield 30, 3) := by decide +kernel
theorem d4_106 : decode prog_38_method_3_code 106 = .ok (.dup_x1, 1) := by decide +kernel
theorem d4_107 : decode prog_38_method_3_code 107 = .ok (.iconst 1, 1) := by decide +kernel
theorem d4_108 : decode prog_38_method_3_code 108 = .ok (.iadd, 1) := by decide +kernel
theorem d4_109 : decode prog_38_method_3_code 109 = .ok (.putfield 30, 3) := by decide +kernel
theorem d4_112 : decode prog_38_method_3_code 112 = .ok (.istore 5, 2) := by decide +kernel
theorem d4_114 : decode prog_38_method_3_code 114 = .ok (.iload 5, 2) := by decide +kernel
theorem d4_116 : decode prog_38_method_3_code 116 = .ok (.ifCond .le 42, 3) := by decide +kernel
theorem d4_119 : decode prog_38_method_3_code 119 = .ok (.aload_n 0, 1) := by decide +kernel
theorem d4_120 : decode prog_38_method_3_code 120 = .ok (.lload_n 3, 1) := by decide +kernel
theorem d4_121 : decode prog_38_method_3_code 121 = .ok (.iload_n 2, 1) := by decide +kernel
theorem d4_122 : decode prog_38_method_3_code 122 = .ok (.iload_n 1, 1) := by decide +kernel
theorem d4_123 : decode prog_38_method_3_code 123 = .ok (.iload 5, 2) := by decide +kernel
theorem d4_125 : decode prog_38_method_3_code 125 = .ok (.iconst 1, 1) := by decide +kernel
theorem d4_126 : decode prog_38_method_3_code 126 = .ok (.isub, 1) := by decide +kernel
theorem d4_127 : decode prog_38_method_3_code 127 = .ok (.iconst 2, 1) := by decide +kernel
theorem d4_128 : decode prog_38_method_3_code 128 = .ok (.idiv, 1) := by decide +kernel
theorem d4_129 : decode prog_38_method_3_code 129 = .ok (.invokevirtual 39, 3) := by decide +kernel
theorem d4_132 : decode prog_38_method_3_code 132 = .ok (.ifCond .ne 26, 3) := by decide +kernel
theorem d4_135 : decode prog_38_method_3_code 135 = .ok (.aload_n 0, 1) := by decide +kernel
theorem d4_136 : decode prog_38_method_3_code 136 = .ok (.iload 5, 2) := by decide +kernel
theorem d4_138 : decode prog_38_method_3_code 138 = .ok (.iconst 1, 1) := by decide +kernel
theorem d4_139 : decode prog_38_method_3_code 139 = .ok (.isub, 1) := by decide +kernel
theorem d4_140 : decode prog_38_method_3_code 140 = .ok (.iconst 2, 1) := by decide +kernel
theorem d4_141 : decode prog_38_method_3_code 141 = .ok (.idiv, 1) := by decide +kernel
theorem d4_142 : decode prog_38_method_3_code 142 = .ok (.iload 5, 2) := by decide +kernel
theorem d4_144 : decode prog_38_method_3_code 144 = .ok (.invokevirtual 52, 3) := by decide +kernel
theorem d4_147 : decode prog_38_method_3_code 147 = .ok (.iload 5, 2) := by decide +kernel
theorem d4_149 : decode prog_38_method_3_code 149 = .ok (.iconst 1, 1) := by decide +kernel
theorem d4_150 : decode prog_38_method_3_code 150 = .ok (.isub, 1) := by decide +kernel
theorem d4_151 : decode prog_38_method_3_code 151 = .ok (.iconst 2, 1) := by decide +kernel
theorem d4_152 : decode prog_38_method_3_code 152 = .ok (.idiv, 1) := by decide +kernel
theorem d4_153 : decode prog_38_method_3_code 153 = .ok (.istore 5, 2) := by decide +kernel
theorem d4_155 : decode prog_38_method_3_code 155 = .ok (.goto (-41), 3) := by decide +kernel
theorem d4_158 : decode prog_38_method_3_code 158 = .ok (.aload_n 0, 1) := by decide +kernel
theorem d4_159 : decode prog_38_method_3_code 159 = .ok (.iload 5, 2) := by decide +kernel
theorem d4_161 : decode prog_38_method_3_code 161 = .ok (.iload_n 1, 1) := by decide +kernel
theorem d4_162 : decode prog_38_method_3_code 162 = .ok (.iload_n 2, 1) := by decide +kernel
theorem d4_163 : decode prog_38_method_3_code 163 = .ok (.lload_n 3, 1) := by decide +kernel
theorem d4_164 : decode prog_38_method_3_code 164 = .ok (.invokevirtual 56, 3) := by decide +kernel
theorem d4_167 : decode prog_38_method_3_code 167 = .ok (.aload_n 0, 1) := by decide +kernel
theorem d4_168 : decode prog_38_method_3_code 168 = .ok (.dup, 1) := by decide +kernel
theorem d4_169 : decode prog_38_method_3_code 169 = .ok (.getfield 33, 3) := by decide +kernel
theorem d4_172 : decode prog_38_method_3_code 172 = .ok (.iload_n 2, 1) := by decide +kernel
theorem d4_173 : decode prog_38_method_3_code 173 = .ok (.i2l, 1) := by decide +kernel
theorem d4_174 : decode prog_38_method_3_code 174 = .ok (.ladd, 1) := by decide +kernel
theorem d4_175 : decode prog_38_method_3_code 175 = .ok (.putfield 33, 3) := by decide +kernel
theorem d4_178 : decode prog_38_method_3_code 178 = .ok (.aload_n 0, 1) := by decide +kernel
theorem d4_179 : decode prog_38_method_3_code 179 = .ok (.getfield 30, 3) := by decide +kernel
theorem d4_182 : decode prog_38_method_3_code 182 = .ok (.iconst 1, 1) := by decide +kernel
theorem d4_183 : decode prog_38_method_3_code 183 = .ok (.if_icmp .le 31, 3) := by decide +kernel
theorem d4_186 : decode prog_38_method_3_code 186 = .ok (.aload_n 0, 1) := by decide +kernel
theorem d4_187 : decode prog_38_method_3_code 187 = .ok (.getfield 33, 3) := by decide +kernel
theorem d4_190 : decode prog_38_method_3_code 190 = .ok (.aload_n 0, 1) := by decide +kernel
theorem d4_191 : decode prog_38_method_3_code 191 = .ok (.getfield 13, 3) := by decide +kernel
theorem d4_194 : decode prog_38_method_3_code 194 = .ok (.iconst 0, 1) := by decide +kernel
theorem d4_195 : decode prog_38_method_3_code 195 = .ok (.iaload, 1) := by decide +kernel
theorem d4_196 : decode prog_38_method_3_code 196 = .ok (.i2l, 1) := by decide +kernel
theorem d4_197 : decode prog_38_method_3_code 197 = .ok (.lsub, 1) := by decide +kernel
theorem d4_198 : decode prog_38_method_3_code 198 = .ok (.aload_n 0, 1) := by decide +kernel
theorem d4_199 : decode prog_38_method_3_code 199 = .ok (.getfield 26, 3) := by decide +kernel
theorem d4_202 : decode prog_38_method_3_code 202 = .ok (.i2l, 1) := by decide +kernel
theorem d4_203 : decode prog_38_method_3_code 203 = .ok (.lcmp, 1) := by decide +kernel
theorem d4_204 : decode prog_38_method_3_code 204 = .ok (.ifCond .lt 10, 3) := by decide +kernel
theorem d4_207 : decode prog_38_method_3_code 207 = .ok (.aload_n 0, 1) := by decide +kernel
theorem d4_208 : decode prog_38_method_3_code 208 = .ok (.invokevirtual 60, 3) := by decide +kernel
theorem d4_211 : decode prog_38_method_3_code 211 = .ok (.goto (-33), 3) := by decide +kernel
theorem d4_214 : decode prog_38_method_3_code 214 = .ok (.aload_n 0, 1) := by decide +kernel
theorem d4_215 : decode prog_38_method_3_code 215 = .ok (.getfield 33, 3) := by decide +kernel
theorem d4_218 : decode prog_38_method_3_code 218 = .ok (.aload_n 0, 1) := by decide +kernel
theorem d4_219 : decode prog_38_method_3_code 219 = .ok (.getfield 26, 3) := by decide +kernel
theorem d4_222 : decode prog_38_method_3_code 222 = .ok (.i2l, 1) := by decide +kernel
theorem d4_223 : decode prog_38_method_3_code 223 = .ok (.lcmp, 1) := by decide +kernel
theorem d4_224 : decode prog_38_method_3_code 224 = .ok (.ifCond .lt 22, 3) := by decide +kernel
theorem d4_227 : decode prog_38_method_3_code 227 = .ok (.aload_n 0, 1) := by decide +kernel
theorem d4_228 : decode prog_38_method_3_code 228 = .ok (.aload_n 0, 1) := by decide +kernel
theorem d4_229 : decode prog_38_method_3_code 229 = .ok (.getfield 16, 3) := by decide +kernel
theorem d4_232 : decode prog_38_method_3_code 232 = .ok (.iconst 0, 1) := by decide +kernel
theorem d4_233 : decode prog_38_method_3_code 233 = .ok (.laload, 1) := by decide +kernel
theorem d4_234 : decode prog_38_method_3_code 234 = .ok (.l2d, 1) := by decide +kernel
theorem d4_235 : decode prog_38_method_3_code 235 = .ok (.aload_n 0, 1) := by decide +kernel
theorem d4_236 : decode prog_38_method_3_code 236 = .ok (.getfield 13, 3) := by decide +kernel
theorem d4_239 : decode prog_38_method_3_code 239 = .ok (.iconst 0, 1) := by decide +kernel
theorem d4_240 : decode prog_38_method_3_code 240 = .ok (.iaload, 1) := by decide +kernel
theorem d4_241 : decode prog_38_method_3_code 241 = .ok (.i2d, 1) := by decide +kernel
theorem d4_242 : decode prog_38_method_3_code 242 = .ok (.ddiv, 1) := by decide +kernel
theorem d4_243 : decode prog_38_method_3_code 243 = .ok (.putfield 22, 3) := by decide +kernel
theorem d4_246 : decode prog_38_method_3_code 246 = .ok (.return_, 1) := by decide +kernel
theorem pn_4 : plainName "com/example/cachesmith/cachesmith/solver/Knapsack" = true := by first | (simp [plainName, overriddenIn]; done) | decide +kernel
theorem pd_4 : parseMethodDescriptor "(IIJ)V" = some ⟨[.int, .int, .long], none⟩ := by decide +kernel
set_option maxHeartbeats 4000000 in
theorem ef_4a (m : MethodId) (x0 : Addr) (x1 : Int32) (x2 : Int32) (x3 : Int64) : entryFrame m ([(.ref x0), (.int x1), (.int x2), (.long x3)] : List Value).toArray 6 = mkF m 0 #[.val (.ref x0), .val (.int x1), .val (.int x2), .val (.long x3), .second, .unset] [] := by first | (simp [entryFrame, mkF, argsToLocals, Value.category, maxLocals]; done) | rfl
set_option maxHeartbeats 40000000 in
theorem of1 (l : Launch) (Z : State) (a0 : Array Value) (hw : ∀ d ∈ tables_1, d.before a0 Z = true) (er sr vr kr : Addr) (cap : Int32) (F : List oEnt) (v s : Int32) (e : Int64) (he : 0 ≤ e.toInt ∧ e.toInt ≤ 2147483647) (hs : 1 ≤ s.toInt) :
    oMeets l Z (⟨"com/example/cachesmith/cachesmith/solver/Knapsack", "offer", "(IIJ)V"⟩ : MethodName) prog_38_method_3_code 6 none ({ frames := 4, cells := 0, slots := 0, locals := 90 } : Room) [(.ref kr), (.int v), (.int s), (.long e)] ((er, oArr Z .long [.long 0, .long 0, .long 0, .long 0]) :: (sr, oArr Z .int [.int 0, .int 0, .int 0, .int 0]) :: (vr, oArr Z .int [.int 0, .int 0, .int 0, .int 0]) :: (kr, oObj Z a0 "com/example/cachesmith/cachesmith/solver/Knapsack" [("com/example/cachesmith/cachesmith/solver/Knapsack", "videos", "[I", (.ref vr)), ("com/example/cachesmith/cachesmith/solver/Knapsack", "sizes", "[I", (.ref sr)), ("com/example/cachesmith/cachesmith/solver/Knapsack", "excesses", "[J", (.ref er)), ("com/example/cachesmith/cachesmith/solver/Knapsack", "least", "D", (.double (13830554455654793216 : UInt64))), ("com/example/cachesmith/cachesmith/solver/Knapsack", "capacity", "I", (.int cap)), ("com/example/cachesmith/cachesmith/solver/Knapsack", "count", "I", (.int 0)), ("com/example/cachesmith/cachesmith/solver/Knapsack", "held", "J", (.long 0))]) :: F) (fun w L' => w = none ∧ ∃ (held : Int64) (lst : UInt64), L' = (er, oArr Z .long [.long e, .long 0, .long 0, .long 0]) :: (sr, oArr Z .int [.int s, .int 0, .int 0, .int 0]) :: (vr, oArr Z .int [.int v, .int 0, .int 0, .int 0]) :: (kr, oObj Z a0 "com/example/cachesmith/cachesmith/solver/Knapsack" [("com/example/cachesmith/cachesmith/solver/Knapsack", "videos", "[I", (.ref vr)), ("com/example/cachesmith/cachesmith/solver/Knapsack", "sizes", "[I", (.ref sr)), ("com/example/cachesmith/cachesmith/solver/Knapsack", "excesses", "[J", (.ref er)), ("com/example/cachesmith/cachesmith/solver/Knapsack", "least", "D", (.double lst)), ("com/example/cachesmith/cachesmith/solver/Knapsack", "capacity", "I", (.int cap)), ("com/example/cachesmith/cachesmith/solver/Knapsack", "count", "I", (.int 1)), ("com/example/cachesmith/cachesmith/solver/Knapsack", "held", "J", (.long held))]) :: F ∧ held.toInt = s.toInt ∧ ((s.toInt < cap.toInt ∧ lst = (13830554455654793216 : UInt64)) ∨ (cap.toInt ≤ s.toInt ∧ lst = FP.ddiv (FP.l2d e) (FP.i2d s)))) := by
  refine oMeets.of (y := (⟨"com/example/cachesmith/cachesmith/solver/Knapsack", "offer", "(IIJ)V"⟩ : MethodName)) (plainFor_of_name pn_4) fun p' e' s' m below meth c T cx o => ?_
  refine oGo.top (ef_4a m _ _ _ _) ?_
  refine g_aloadN cx o (pc' := 1) d4_0 rfl rfl rfl ?_
  refine g_getfield cx o (pc' := 4) (hw _ (List.mem_of_getElem? (i := 24) rfl)) 3 3 rfl rfl d4_1 rfl (fun T o => ?_)
  refine g_dconst0 cx o (pc' := 5) d4_4 rfl ?_
  refine g_dcmp cx o (pc' := 6) d4_5 rfl ?_
  refine g_if_lt cx o (pc' := 38) (pc2 := 9) d4_6 (by decide) (by decide) rfl (fun c6 => ?_) (fun c6 => absurd o_lm c6)
  refine g_aloadN cx o (pc' := 39) d4_38 rfl rfl rfl ?_
  refine g_getfield cx o (pc' := 42) (hw _ (List.mem_of_getElem? (i := 33) rfl)) 3 5 rfl rfl d4_39 rfl (fun T o => ?_)
  refine g_aloadN cx o (pc' := 43) d4_42 rfl rfl rfl ?_
  refine g_getfield cx o (pc' := 46) (hw _ (List.mem_of_getElem? (i := 16) rfl)) 3 0 rfl rfl d4_43 rfl (fun T o => ?_)
  refine g_arraylength cx o (pc' := 47) 2 (4 : Int32) rfl rfl d4_46 rfl ?_
  refine g_icmp_ne cx o (pc' := 101) (pc2 := 50) d4_47 (by decide) (by decide) rfl (fun c47 => ?_) (fun c47 => absurd c47 (by decide))
  refine g_aloadN cx o (pc' := 102) d4_101 rfl rfl rfl ?_
  refine g_dup cx o (pc' := 103) d4_102 rfl rfl ?_
  refine g_getfield cx o (pc' := 106) (hw _ (List.mem_of_getElem? (i := 33) rfl)) 3 5 rfl rfl d4_103 rfl (fun T o => ?_)
  refine g_dup_x1 cx o (pc' := 107) d4_106 rfl rfl rfl ?_
  refine g_iconst cx o (pc' := 108) (1 : Int32) d4_107 rfl rfl ?_
  refine g_iadd cx o (pc' := 109) d4_108 rfl ?_
  refine g_putfield cx o (pc' := 112) (hw _ (List.mem_of_getElem? (i := 33) rfl)) (Or.inl (hw _ (List.mem_of_getElem? (i := 34) rfl))) (hw _ (List.mem_of_getElem? (i := 7) rfl)) 3 5 rfl rfl ["videos", "sizes", "excesses", "least", "capacity", "count", "held"] rfl (by decide) (ty := .int) (by first | decide | decide +kernel) rfl rfl d4_109 rfl (fun T o => ?_)
  simp only [List.set_cons_zero, List.set_cons_succ] at o
  refine g_istore cx o (pc' := 114) (l' := #[.val (.ref kr), .val (.int v), .val (.int s), .val (.long e), .second, .val (.int (0 : Int32))]) d4_112 rfl rfl ?_
  refine g_iload cx o (pc' := 116) d4_114 rfl rfl ?_
  refine g_if_le cx o (pc' := 158) (pc2 := 119) d4_116 (by decide) (by decide) rfl (fun c116 => ?_) (fun c116 => absurd c116 (by decide))
  refine g_aloadN cx o (pc' := 159) d4_158 rfl rfl rfl ?_
  refine g_iload cx o (pc' := 161) d4_159 rfl rfl ?_
  refine g_iloadN cx o (pc' := 162) d4_161 rfl rfl ?_
  refine g_iloadN cx o (pc' := 163) d4_162 rfl rfl ?_
  refine g_lloadN cx o (pc' := 164) d4_163 rfl rfl ?_
  refine g_private cx o (pc' := 167) (y := (⟨"com/example/cachesmith/cachesmith/solver/Knapsack", "put", "(IIIJ)V"⟩ : MethodName)) (hw _ (List.mem_of_getElem? (i := 35) rfl)) (hw _ (List.mem_of_getElem? (i := 31) rfl)) rfl (hw _ (List.mem_of_getElem? (i := 36) rfl)) (hw _ (List.mem_of_getElem? (i := 37) rfl)) (hw _ (List.mem_of_getElem? (i := 8) rfl)) (hw _ (List.mem_of_getElem? (i := 38) rfl)) 3 rfl (put0 l Z a0 hw er sr vr kr _ _ _ _ _ _ _ _ _ _ _ _ _ _ _ _ _ _ _ _)  rfl pd_5 rfl (by decide) rfl 0 (Nat.le_of_eq rfl) (by decide) (by decide) (by decide) (by decide) d4_164 rfl (fun T v L hQ o => ?_)
  obtain ⟨rfl, rfl⟩ := hQ
  simp only [Option.toList_some, Option.toList_none, List.cons_append, List.nil_append]
  refine g_aloadN cx o (pc' := 168) d4_167 rfl rfl rfl ?_
  refine g_dup cx o (pc' := 169) d4_168 rfl rfl ?_
  refine g_getfield cx o (pc' := 172) (hw _ (List.mem_of_getElem? (i := 39) rfl)) 3 6 rfl rfl d4_169 rfl (fun T o => ?_)
  refine g_iloadN cx o (pc' := 173) d4_172 rfl rfl ?_
  refine g_i2l cx o (pc' := 174) d4_173 rfl ?_
  refine g_ladd cx o (pc' := 175) d4_174 rfl ?_
  refine g_putfield cx o (pc' := 178) (hw _ (List.mem_of_getElem? (i := 39) rfl)) (Or.inl (hw _ (List.mem_of_getElem? (i := 40) rfl))) (hw _ (List.mem_of_getElem? (i := 7) rfl)) 3 6 rfl rfl ["videos", "sizes", "excesses", "least", "capacity", "count", "held"] rfl (by decide) (ty := .long) (by first | decide | decide +kernel) rfl rfl d4_175 rfl (fun T o => ?_)
  simp only [List.set_cons_zero, List.set_cons_succ] at o
  refine g_aloadN cx o (pc' := 179) d4_178 rfl rfl rfl ?_
  refine g_getfield cx o (pc' := 182) (hw _ (List.mem_of_getElem? (i := 33) rfl)) 3 5 rfl rfl d4_179 rfl (fun T o => ?_)
  refine g_iconst cx o (pc' := 183) (1 : Int32) d4_182 rfl rfl ?_
  refine g_icmp_le cx o (pc' := 214) (pc2 := 186) d4_183 (by decide) (by decide) rfl (fun c183 => ?_) (fun c183 => absurd c183 (by decide))
  refine g_aloadN cx o (pc' := 215) d4_214 rfl rfl rfl ?_
  refine g_getfield cx o (pc' := 218) (hw _ (List.mem_of_getElem? (i := 39) rfl)) 3 6 rfl rfl d4_215 rfl (fun T o => ?_)
  refine g_aloadN cx o (pc' := 219) d4_218 rfl rfl rfl ?_
  refine g_getfield cx o (pc' := 222) (hw _ (List.mem_of_getElem? (i := 26) rfl)) 3 4 rfl rfl d4_219 rfl (fun T o => ?_)
  refine g_i2l cx o (pc' := 223) d4_222 rfl ?_
  refine g_lcmp cx o (pc' := 224) d4_223 rfl ?_
  have u1 := s.toInt_lt
  have kh : ((0 : Int64) + s.toInt64).toInt = s.toInt := by rw [Int64.zero_add, Jvm.Kit.i64_of_i32]
  have X := o_l2dN (x := e) (by omega)
  have Y := o_i2dN (x := s) (by omega)
  refine g_if_lt cx o (pc' := 246) (pc2 := 227) d4_224 (by decide) (by decide) rfl (fun c224 => ?_) (fun c224 => ?_)
  · have c := (o_cmpLl _ _).mp c224
    rw [kh, Jvm.Kit.i64_of_i32] at c
    exact g_return cx o d4_246 (by decide) (by decide) ⟨rfl, _, _, rfl, kh, Or.inl ⟨c, rfl⟩⟩
  · have c : ¬ _ := fun z => c224 ((o_cmpLl _ _).mpr z)
    rw [kh, Jvm.Kit.i64_of_i32] at c
    refine g_aloadN cx o (pc' := 228) d4_227 rfl rfl rfl ?_
    refine g_aloadN cx o (pc' := 229) d4_228 rfl rfl rfl ?_
    refine g_getfield cx o (pc' := 232) (hw _ (List.mem_of_getElem? (i := 21) rfl)) 3 2 rfl rfl d4_229 rfl (fun T o => ?_)
    refine g_iconst cx o (pc' := 233) (0 : Int32) d4_232 rfl rfl ?_
    refine g_laload cx o (pc' := 234)  0 0 rfl (by decide) rfl d4_233 rfl ?_
    refine g_l2d cx o (pc' := 235) d4_234 rfl ?_
    refine g_aloadN cx o (pc' := 236) d4_235 rfl rfl rfl ?_
    refine g_getfield cx o (pc' := 239) (hw _ (List.mem_of_getElem? (i := 18) rfl)) 3 1 rfl rfl d4_236 rfl (fun T o => ?_)
    refine g_iconst cx o (pc' := 240) (0 : Int32) d4_239 rfl rfl ?_
    refine g_iaload cx o (pc' := 241)  1 0 rfl (by decide) rfl d4_240 rfl ?_
    refine g_i2d cx o (pc' := 242) d4_241 rfl ?_
    refine g_ddiv cx o (pc' := 243) d4_242 rfl (o_div_nn X Y (by omega)) ?_
    refine g_putfield cx o (pc' := 246) (hw _ (List.mem_of_getElem? (i := 24) rfl)) (Or.inl (hw _ (List.mem_of_getElem? (i := 25) rfl))) (hw _ (List.mem_of_getElem? (i := 7) rfl)) 3 3 rfl rfl ["videos", "sizes", "excesses", "least", "capacity", "count", "held"] rfl (by decide) (ty := .double) (by first | decide | decide +kernel) rfl rfl d4_243 rfl (fun T o => ?_)
    simp only [List.set_cons_zero, List.set_cons_succ] at o
    exact g_return cx o d4_246 (by decide) (by decide) ⟨rfl, _, _, rfl, kh, Or.inr ⟨by omega, rfl⟩⟩
set_option maxHeartbeats 4000000 in
theorem ef_4b (m : MethodId) (x0 : Addr) (x1 : Int32) (x2 : Int32) (x3 : Int64) : entryFrame m ([(.ref x0), (.int x1), (.int x2), (.long x3)] : List Value).toArray 6 = mkF m 0 #[.val (.ref x0), .val (.int x1), .val (.int x2), .val (.long x3), .second, .unset] [] := by first | (simp [entryFrame, mkF, argsToLocals, Value.category, maxLocals]; done) | rfl
set_option maxHeartbeats 40000000 in
theorem of2 (l : Launch) (Z : State) (a0 : Array Value) (hw : ∀ d ∈ tables_1, d.before a0 Z = true) (er sr vr kr : Addr) (cap : Int32) (F : List oEnt) (v s v1 s1 : Int32) (e e1 : Int64) (held : Int64) (lst : UInt64) (he : 0 ≤ e.toInt ∧ e.toInt ≤ 2147483647) (hs : 1 ≤ s.toInt) (he1 : 0 ≤ e1.toInt ∧ e1.toInt ≤ 2147483647) (hs1 : 1 ≤ s1.toInt) (hsc : s.toInt ≤ cap.toInt) (hs1c : s1.toInt ≤ cap.toInt) (hh : held.toInt = s1.toInt) (hl : (s1.toInt < cap.toInt ∧ lst = (13830554455654793216 : UInt64)) ∨ (cap.toInt ≤ s1.toInt ∧ lst = FP.ddiv (FP.l2d e1) (FP.i2d s1))) :
    oMeets l Z (⟨"com/example/cachesmith/cachesmith/solver/Knapsack", "offer", "(IIJ)V"⟩ : MethodName) prog_38_method_3_code 6 none ({ frames := 4, cells := 0, slots := 0, locals := 90 } : Room) [(.ref kr), (.int v), (.int s), (.long e)] ((er, oArr Z .long [.long e1, .long 0, .long 0, .long 0]) :: (sr, oArr Z .int [.int s1, .int 0, .int 0, .int 0]) :: (vr, oArr Z .int [.int v1, .int 0, .int 0, .int 0]) :: (kr, oObj Z a0 "com/example/cachesmith/cachesmith/solver/Knapsack" [("com/example/cachesmith/cachesmith/solver/Knapsack", "videos", "[I", (.ref vr)), ("com/example/cachesmith/cachesmith/solver/Knapsack", "sizes", "[I", (.ref sr)), ("com/example/cachesmith/cachesmith/solver/Knapsack", "excesses", "[J", (.ref er)), ("com/example/cachesmith/cachesmith/solver/Knapsack", "least", "D", (.double lst)), ("com/example/cachesmith/cachesmith/solver/Knapsack", "capacity", "I", (.int cap)), ("com/example/cachesmith/cachesmith/solver/Knapsack", "count", "I", (.int 1)), ("com/example/cachesmith/cachesmith/solver/Knapsack", "held", "J", (.long held))]) :: F) (fun w L' => w = none ∧ ∃ (cnt : Int32) (h2 : Int64) (l2 : UInt64) (x0 x1 x2 x3 : Int64) (y0 y1 y2 y3 z0 z1 z2 z3 : Int32), L' = (er, oArr Z .long [.long x0, .long x1, .long x2, .long x3]) :: (sr, oArr Z .int [.int y0, .int y1, .int y2, .int y3]) :: (vr, oArr Z .int [.int z0, .int z1, .int z2, .int z3]) :: (kr, oObj Z a0 "com/example/cachesmith/cachesmith/solver/Knapsack" [("com/example/cachesmith/cachesmith/solver/Knapsack", "videos", "[I", (.ref vr)), ("com/example/cachesmith/cachesmith/solver/Knapsack", "sizes", "[I", (.ref sr)), ("com/example/cachesmith/cachesmith/solver/Knapsack", "excesses", "[J", (.ref er)), ("com/example/cachesmith/cachesmith/solver/Knapsack", "least", "D", (.double l2)), ("com/example/cachesmith/cachesmith/solver/Knapsack", "capacity", "I", (.int cap)), ("com/example/cachesmith/cachesmith/solver/Knapsack", "count", "I", (.int cnt)), ("com/example/cachesmith/cachesmith/solver/Knapsack", "held", "J", (.long h2))]) :: F ∧ ((oP e.toInt s.toInt v.toInt e1.toInt s1.toInt v1.toInt ∧ ((h2.toInt ≤ cap.toInt ∧ (cap.toInt ≤ s.toInt ∨ s1.toInt + s.toInt ≤ cap.toInt)) ∨ (h2.toInt = s1.toInt + s.toInt ∧ cap.toInt < s1.toInt + s.toInt ∧ s.toInt < cap.toInt ∧ y0 = s1))) ∨ (¬ oP e.toInt s.toInt v.toInt e1.toInt s1.toInt v1.toInt ∧ ((h2.toInt ≤ cap.toInt ∧ (cap.toInt ≤ s1.toInt ∨ s1.toInt + s.toInt ≤ cap.toInt)) ∨ (h2.toInt = s1.toInt + s.toInt ∧ cap.toInt < s1.toInt + s.toInt ∧ s1.toInt < cap.toInt ∧ y0 = s))))) := by
  refine oMeets.of (y := (⟨"com/example/cachesmith/cachesmith/solver/Knapsack", "offer", "(IIJ)V"⟩ : MethodName)) (plainFor_of_name pn_4) fun p' e' s' m below meth c T cx o => ?_
  refine oGo.top (ef_4b m _ _ _ _) ?_
  have u1 := s.toInt_lt
  have u2 := s1.toInt_lt
  have u3 := cap.toInt_lt
  have j1 : s.toInt64.toInt = s.toInt := Jvm.Kit.i64_of_i32 s
  have j2 : s1.toInt64.toInt = s1.toInt := Jvm.Kit.i64_of_i32 s1
  have jc : cap.toInt64.toInt = cap.toInt := Jvm.Kit.i64_of_i32 cap
  have X1 := o_l2dN (x := e1) (by omega)
  have Y1 := o_i2dN (x := s1) (by omega)
  have X := o_l2dN (x := e) (by omega)
  have Y := o_i2dN (x := s) (by omega)
  have kh : (held + s.toInt64).toInt = s1.toInt + s.toInt := by rw [Jvm.Kit.i64_add (by rw [hh, j1]; omega) (by rw [hh, j1]; omega), hh, j1]
  rcases hl with ⟨hlt, rfl⟩ | ⟨hge, rfl⟩
  · refine g_aloadN cx o (pc' := 1) d4_0 rfl rfl rfl ?_
    refine g_getfield cx o (pc' := 4) (hw _ (List.mem_of_getElem? (i := 24) rfl)) 3 3 rfl rfl d4_1 rfl (fun T o => ?_)
    refine g_dconst0 cx o (pc' := 5) d4_4 rfl ?_
    refine g_dcmp cx o (pc' := 6) d4_5 rfl ?_
    refine g_if_lt cx o (pc' := 38) (pc2 := 9) d4_6 (by decide) (by decide) rfl (fun c6 => ?_) (fun c6 => absurd o_lm c6)
    refine g_aloadN cx o (pc' := 39) d4_38 rfl rfl rfl ?_
    refine g_getfield cx o (pc' := 42) (hw _ (List.mem_of_getElem? (i := 33) rfl)) 3 5 rfl rfl d4_39 rfl (fun T o => ?_)
    refine g_aloadN cx o (pc' := 43) d4_42 rfl rfl rfl ?_
    refine g_getfield cx o (pc' := 46) (hw _ (List.mem_of_getElem? (i := 16) rfl)) 3 0 rfl rfl d4_43 rfl (fun T o => ?_)
    refine g_arraylength cx o (pc' := 47) 2 (4 : Int32) rfl rfl d4_46 rfl ?_
    refine g_icmp_ne cx o (pc' := 101) (pc2 := 50) d4_47 (by decide) (by decide) rfl (fun c47 => ?_) (fun c47 => absurd c47 (by decide))
    refine g_aloadN cx o (pc' := 102) d4_101 rfl rfl rfl ?_
    refine g_dup cx o (pc' := 103) d4_102 rfl rfl ?_
    refine g_getfield cx o (pc' := 106) (hw _ (List.mem_of_getElem? (i := 33) rfl)) 3 5 rfl rfl d4_103 rfl (fun T o => ?_)
    refine g_dup_x1 cx o (pc' := 107) d4_106 rfl rfl rfl ?_
    refine g_iconst cx o (pc' := 108) (1 : Int32) d4_107 rfl rfl ?_
    refine g_iadd cx o (pc' := 109) d4_108 rfl ?_
    refine g_putfield cx o (pc' := 112) (hw _ (List.mem_of_getElem? (i := 33) rfl)) (Or.inl (hw _ (List.mem_of_getElem? (i := 34) rfl))) (hw _ (List.mem_of_getElem? (i := 7) rfl)) 3 5 rfl rfl ["videos", "sizes", "excesses", "least", "capacity", "count", "held"] rfl (by decide) (ty := .int) (by first | decide | decide +kernel) rfl rfl d4_109 rfl (fun T o => ?_)
    simp only [List.set_cons_zero, List.set_cons_succ] at o
    refine g_istore cx o (pc' := 114) (l' := #[.val (.ref kr), .val (.int v), .val (.int s), .val (.long e), .second, .val (.int (1 : Int32))]) d4_112 rfl rfl ?_
    refine g_iload cx o (pc' := 116) d4_114 rfl rfl ?_
    refine g_if_le cx o (pc' := 158) (pc2 := 119) d4_116 (by decide) (by decide) rfl (fun c116 => absurd (by decide) c116) (fun c116 => ?_)
    refine g_aloadN cx o (pc' := 120) d4_119 rfl rfl rfl ?_
    refine g_lloadN cx o (pc' := 121) d4_120 rfl rfl ?_
    refine g_iloadN cx o (pc' := 122) d4_121 rfl rfl ?_
    refine g_iloadN cx o (pc' := 123) d4_122 rfl rfl ?_
    refine g_iload cx o (pc' := 125) d4_123 rfl rfl ?_
    refine g_iconst cx o (pc' := 126) (1 : Int32) d4_125 rfl rfl ?_
    refine g_isub cx o (pc' := 127) d4_126 rfl ?_
    refine g_iconst cx o (pc' := 128) (2 : Int32) d4_127 rfl rfl ?_
    refine g_idiv cx o (pc' := 129) d4_128 rfl (by decide) ?_
    refine g_private cx o (pc' := 132) (y := (⟨"com/example/cachesmith/cachesmith/solver/Knapsack", "precedes", "(JIII)Z"⟩ : MethodName)) (hw _ (List.mem_of_getElem? (i := 47) rfl)) (hw _ (List.mem_of_getElem? (i := 31) rfl)) rfl (hw _ (List.mem_of_getElem? (i := 48) rfl)) (hw _ (List.mem_of_getElem? (i := 49) rfl)) (hw _ (List.mem_of_getElem? (i := 8) rfl)) (hw _ (List.mem_of_getElem? (i := 50) rfl)) 3 rfl (rmPr l Z a0 hw er sr vr kr _ _ _ _ _ _ _ _ _ _ _ _ _ _ _ _ _ e s v he hs he1 hs1)  rfl pd_7 rfl (by decide) rfl 0 (Nat.le_of_eq rfl) (by decide) (by decide) (by decide) (by decide) d4_129 rfl (fun T v L hQ o => ?_)
    obtain ⟨r, rfl, kp, rfl⟩ := hQ
    simp only [Option.toList_some, Option.toList_none, List.cons_append, List.nil_append]
    rcases kp with ⟨rfl, kp⟩ | ⟨rfl, kp⟩
    · refine g_if_ne cx o (pc' := 158) (pc2 := 135) d4_132 (by decide) (by decide) rfl (fun c132 => ?_) (fun c132 => absurd c132 (by decide))
      refine g_aloadN cx o (pc' := 159) d4_158 rfl rfl rfl ?_
      refine g_iload cx o (pc' := 161) d4_159 rfl rfl ?_
      refine g_iloadN cx o (pc' := 162) d4_161 rfl rfl ?_
      refine g_iloadN cx o (pc' := 163) d4_162 rfl rfl ?_
      refine g_lloadN cx o (pc' := 164) d4_163 rfl rfl ?_
      refine g_private cx o (pc' := 167) (y := (⟨"com/example/cachesmith/cachesmith/solver/Knapsack", "put", "(IIIJ)V"⟩ : MethodName)) (hw _ (List.mem_of_getElem? (i := 35) rfl)) (hw _ (List.mem_of_getElem? (i := 31) rfl)) rfl (hw _ (List.mem_of_getElem? (i := 36) rfl)) (hw _ (List.mem_of_getElem? (i := 37) rfl)) (hw _ (List.mem_of_getElem? (i := 8) rfl)) (hw _ (List.mem_of_getElem? (i := 38) rfl)) 3 rfl (put1 l Z a0 hw er sr vr kr _ _ _ _ _ _ _ _ _ _ _ _ _ _ _ _ _ _ _ _)  rfl pd_5 rfl (by decide) rfl 0 (Nat.le_of_eq rfl) (by decide) (by decide) (by decide) (by decide) d4_164 rfl (fun T v L hQ o => ?_)
      obtain ⟨rfl, rfl⟩ := hQ
      simp only [Option.toList_some, Option.toList_none, List.cons_append, List.nil_append]
      refine g_aloadN cx o (pc' := 168) d4_167 rfl rfl rfl ?_
      refine g_dup cx o (pc' := 169) d4_168 rfl rfl ?_
      refine g_getfield cx o (pc' := 172) (hw _ (List.mem_of_getElem? (i := 39) rfl)) 3 6 rfl rfl d4_169 rfl (fun T o => ?_)
      refine g_iloadN cx o (pc' := 173) d4_172 rfl rfl ?_
      refine g_i2l cx o (pc' := 174) d4_173 rfl ?_
      refine g_ladd cx o (pc' := 175) d4_174 rfl ?_
      refine g_putfield cx o (pc' := 178) (hw _ (List.mem_of_getElem? (i := 39) rfl)) (Or.inl (hw _ (List.mem_of_getElem? (i := 40) rfl))) (hw _ (List.mem_of_getElem? (i := 7) rfl)) 3 6 rfl rfl ["videos", "sizes", "excesses", "least", "capacity", "count", "held"] rfl (by decide) (ty := .long) (by first | decide | decide +kernel) rfl rfl d4_175 rfl (fun T o => ?_)
      simp only [List.set_cons_zero, List.set_cons_succ] at o
      refine g_aloadN cx o (pc' := 179) d4_178 rfl rfl rfl ?_
      refine g_getfield cx o (pc' := 182) (hw _ (List.mem_of_getElem? (i := 33) rfl)) 3 5 rfl rfl d4_179 rfl (fun T o => ?_)
      refine g_iconst cx o (pc' := 183) (1 : Int32) d4_182 rfl rfl ?_
      refine g_icmp_le cx o (pc' := 214) (pc2 := 186) d4_183 (by decide) (by decide) rfl (fun c183 => absurd (by decide) c183) (fun c183 => ?_)
      refine g_aloadN cx o (pc' := 187) d4_186 rfl rfl rfl ?_
      refine g_getfield cx o (pc' := 190) (hw _ (List.mem_of_getElem? (i := 39) rfl)) 3 6 rfl rfl d4_187 rfl (fun T o => ?_)
      refine g_aloadN cx o (pc' := 191) d4_190 rfl rfl rfl ?_
      refine g_getfield cx o (pc' := 194) (hw _ (List.mem_of_getElem? (i := 18) rfl)) 3 1 rfl rfl d4_191 rfl (fun T o => ?_)
      refine g_iconst cx o (pc' := 195) (0 : Int32) d4_194 rfl rfl ?_
      refine g_iaload cx o (pc' := 196)  1 0 rfl (by decide) rfl d4_195 rfl ?_
      refine g_i2l cx o (pc' := 197) d4_196 rfl ?_
      refine g_lsub cx o (pc' := 198) d4_197 rfl ?_
      refine g_aloadN cx o (pc' := 199) d4_198 rfl rfl rfl ?_
      refine g_getfield cx o (pc' := 202) (hw _ (List.mem_of_getElem? (i := 26) rfl)) 3 4 rfl rfl d4_199 rfl (fun T o => ?_)
      refine g_i2l cx o (pc' := 203) d4_202 rfl ?_
      refine g_lcmp cx o (pc' := 204) d4_203 rfl ?_
      have kd : (held + s.toInt64 - s1.toInt64).toInt = s.toInt := by rw [Jvm.Kit.i64_sub (by rw [kh, j2]; omega) (by rw [kh, j2]; omega), kh, j2]; omega
      refine g_if_lt cx o (pc' := 214) (pc2 := 207) d4_204 (by decide) (by decide) rfl (fun c204 => ?_) (fun c204 => ?_)
      · have c := (o_cmpLl _ _).mp c204
        rw [kd, jc] at c
        refine g_aloadN cx o (pc' := 215) d4_214 rfl rfl rfl ?_
        refine g_getfield cx o (pc' := 218) (hw _ (List.mem_of_getElem? (i := 39) rfl)) 3 6 rfl rfl d4_215 rfl (fun T o => ?_)
        refine g_aloadN cx o (pc' := 219) d4_218 rfl rfl rfl ?_
        refine g_getfield cx o (pc' := 222) (hw _ (List.mem_of_getElem? (i := 26) rfl)) 3 4 rfl rfl d4_219 rfl (fun T o => ?_)
        refine g_i2l cx o (pc' := 223) d4_222 rfl ?_
        refine g_lcmp cx o (pc' := 224) d4_223 rfl ?_
        refine g_if_lt cx o (pc' := 246) (pc2 := 227) d4_224 (by decide) (by decide) rfl (fun c224 => ?_) (fun c224 => ?_)
        · have d := (o_cmpLl _ _).mp c224
          rw [kh, jc] at d
          exact g_return cx o d4_246 (by decide) (by decide) ⟨rfl, _, _, _, _, _, _, _, _, _, _, _, _, _, _, _, rfl, Or.inl ⟨kp, Or.inl ⟨by rw [kh]; omega, Or.inr (by omega)⟩⟩⟩
        · have d : ¬ _ := fun z => c224 ((o_cmpLl _ _).mpr z)
          rw [kh, jc] at d
          by_cases q : cap.toInt < s1.toInt + s.toInt
          · refine g_aloadN cx o (pc' := 228) d4_227 rfl rfl rfl ?_
            refine g_aloadN cx o (pc' := 229) d4_228 rfl rfl rfl ?_
            refine g_getfield cx o (pc' := 232) (hw _ (List.mem_of_getElem? (i := 21) rfl)) 3 2 rfl rfl d4_229 rfl (fun T o => ?_)
            refine g_iconst cx o (pc' := 233) (0 : Int32) d4_232 rfl rfl ?_
            refine g_laload cx o (pc' := 234)  0 0 rfl (by decide) rfl d4_233 rfl ?_
            refine g_l2d cx o (pc' := 235) d4_234 rfl ?_
            refine g_aloadN cx o (pc' := 236) d4_235 rfl rfl rfl ?_
            refine g_getfield cx o (pc' := 239) (hw _ (List.mem_of_getElem? (i := 18) rfl)) 3 1 rfl rfl d4_236 rfl (fun T o => ?_)
            refine g_iconst cx o (pc' := 240) (0 : Int32) d4_239 rfl rfl ?_
            refine g_iaload cx o (pc' := 241)  1 0 rfl (by decide) rfl d4_240 rfl ?_
            refine g_i2d cx o (pc' := 242) d4_241 rfl ?_
            refine g_ddiv cx o (pc' := 243) d4_242 rfl (o_div_nn X1 Y1 (by omega)) ?_
            refine g_putfield cx o (pc' := 246) (hw _ (List.mem_of_getElem? (i := 24) rfl)) (Or.inl (hw _ (List.mem_of_getElem? (i := 25) rfl))) (hw _ (List.mem_of_getElem? (i := 7) rfl)) 3 3 rfl rfl ["videos", "sizes", "excesses", "least", "capacity", "count", "held"] rfl (by decide) (ty := .double) (by first | decide | decide +kernel) rfl rfl d4_243 rfl (fun T o => ?_)
            simp only [List.set_cons_zero, List.set_cons_succ] at o
            exact g_return cx o d4_246 (by decide) (by decide) ⟨rfl, _, _, _, _, _, _, _, _, _, _, _, _, _, _, _, rfl, Or.inl ⟨kp, Or.inr ⟨kh, q, c, rfl⟩⟩⟩
          · refine g_aloadN cx o (pc' := 228) d4_227 rfl rfl rfl ?_
            refine g_aloadN cx o (pc' := 229) d4_228 rfl rfl rfl ?_
            refine g_getfield cx o (pc' := 232) (hw _ (List.mem_of_getElem? (i := 21) rfl)) 3 2 rfl rfl d4_229 rfl (fun T o => ?_)
            refine g_iconst cx o (pc' := 233) (0 : Int32) d4_232 rfl rfl ?_
            refine g_laload cx o (pc' := 234)  0 0 rfl (by decide) rfl d4_233 rfl ?_
            refine g_l2d cx o (pc' := 235) d4_234 rfl ?_
            refine g_aloadN cx o (pc' := 236) d4_235 rfl rfl rfl ?_
            refine g_getfield cx o (pc' := 239) (hw _ (List.mem_of_getElem? (i := 18) rfl)) 3 1 rfl rfl d4_236 rfl (fun T o => ?_)
            refine g_iconst cx o (pc' := 240) (0 : Int32) d4_239 rfl rfl ?_
            refine g_iaload cx o (pc' := 241)  1 0 rfl (by decide) rfl d4_240 rfl ?_
            refine g_i2d cx o (pc' := 242) d4_241 rfl ?_
            refine g_ddiv cx o (pc' := 243) d4_242 rfl (o_div_nn X1 Y1 (by omega)) ?_
            refine g_putfield cx o (pc' := 246) (hw _ (List.mem_of_getElem? (i := 24) rfl)) (Or.inl (hw _ (List.mem_of_getElem? (i := 25) rfl))) (hw _ (List.mem_of_getElem? (i := 7) rfl)) 3 3 rfl rfl ["videos", "sizes", "excesses", "least", "capacity", "count", "held"] rfl (by decide) (ty := .double) (by first | decide | decide +kernel) rfl rfl d4_243 rfl (fun T o => ?_)
            simp only [List.set_cons_zero, List.set_cons_succ] at o
            exact g_return cx o d4_246 (by decide) (by decide) ⟨rfl, _, _, _, _, _, _, _, _, _, _, _, _, _, _, _, rfl, Or.inl ⟨kp, Or.inl ⟨by rw [kh]; omega, Or.inr (by omega)⟩⟩⟩
      · have c : ¬ _ := fun z => c204 ((o_cmpLl _ _).mpr z)
        rw [kd, jc] at c
        refine g_aloadN cx o (pc' := 208) d4_207 rfl rfl rfl ?_
        refine g_private cx o (pc' := 211) (y := (⟨"com/example/cachesmith/cachesmith/solver/Knapsack", "removeLast", "()V"⟩ : MethodName)) (hw _ (List.mem_of_getElem? (i := 70) rfl)) (hw _ (List.mem_of_getElem? (i := 31) rfl)) rfl (hw _ (List.mem_of_getElem? (i := 71) rfl)) (hw _ (List.mem_of_getElem? (i := 72) rfl)) (hw _ (List.mem_of_getElem? (i := 8) rfl)) (hw _ (List.mem_of_getElem? (i := 73) rfl)) 3 rfl (rmRl l Z a0 hw er sr vr kr _ _ _ _ _ _ _ _ _ _ _ _ _ _ _ _)  rfl pd_13 rfl (by decide) rfl 0 (Nat.le_of_eq rfl) (by decide) (by decide) (by decide) (by decide) d4_208 rfl (fun T v L hQ o => ?_)
        obtain ⟨rfl, rfl⟩ := hQ
        simp only [Option.toList_some, Option.toList_none, List.cons_append, List.nil_append]
        refine g_goto cx o (pc' := 178) d4_211 (by decide) (by decide) ?_
        refine g_aloadN cx o (pc' := 179) d4_178 rfl rfl rfl ?_
        refine g_getfield cx o (pc' := 182) (hw _ (List.mem_of_getElem? (i := 33) rfl)) 3 5 rfl rfl d4_179 rfl (fun T o => ?_)
        refine g_iconst cx o (pc' := 183) (1 : Int32) d4_182 rfl rfl ?_
        refine g_icmp_le cx o (pc' := 214) (pc2 := 186) d4_183 (by decide) (by decide) rfl (fun c183 => ?_) (fun c183 => absurd c183 (by decide))
        refine g_aloadN cx o (pc' := 215) d4_214 rfl rfl rfl ?_
        refine g_getfield cx o (pc' := 218) (hw _ (List.mem_of_getElem? (i := 39) rfl)) 3 6 rfl rfl d4_215 rfl (fun T o => ?_)
        refine g_aloadN cx o (pc' := 219) d4_218 rfl rfl rfl ?_
        refine g_getfield cx o (pc' := 222) (hw _ (List.mem_of_getElem? (i := 26) rfl)) 3 4 rfl rfl d4_219 rfl (fun T o => ?_)
        refine g_i2l cx o (pc' := 223) d4_222 rfl ?_
        refine g_lcmp cx o (pc' := 224) d4_223 rfl ?_
        refine g_if_lt cx o (pc' := 246) (pc2 := 227) d4_224 (by decide) (by decide) rfl (fun c224 => ?_) (fun c224 => ?_)
        · exact g_return cx o d4_246 (by decide) (by decide) ⟨rfl, _, _, _, _, _, _, _, _, _, _, _, _, _, _, _, rfl, Or.inl ⟨kp, Or.inl ⟨by rw [kd]; omega, Or.inl (by omega)⟩⟩⟩
        · refine g_aloadN cx o (pc' := 228) d4_227 rfl rfl rfl ?_
          refine g_aloadN cx o (pc' := 229) d4_228 rfl rfl rfl ?_
          refine g_getfield cx o (pc' := 232) (hw _ (List.mem_of_getElem? (i := 21) rfl)) 3 2 rfl rfl d4_229 rfl (fun T o => ?_)
          refine g_iconst cx o (pc' := 233) (0 : Int32) d4_232 rfl rfl ?_
          refine g_laload cx o (pc' := 234)  0 0 rfl (by decide) rfl d4_233 rfl ?_
          refine g_l2d cx o (pc' := 235) d4_234 rfl ?_
          refine g_aloadN cx o (pc' := 236) d4_235 rfl rfl rfl ?_
          refine g_getfield cx o (pc' := 239) (hw _ (List.mem_of_getElem? (i := 18) rfl)) 3 1 rfl rfl d4_236 rfl (fun T o => ?_)
          refine g_iconst cx o (pc' := 240) (0 : Int32) d4_239 rfl rfl ?_
          refine g_iaload cx o (pc' := 241)  1 0 rfl (by decide) rfl d4_240 rfl ?_
          refine g_i2d cx o (pc' := 242) d4_241 rfl ?_
          refine g_ddiv cx o (pc' := 243) d4_242 rfl (o_div_nn X Y (by omega)) ?_
          refine g_putfield cx o (pc' := 246) (hw _ (List.mem_of_getElem? (i := 24) rfl)) (Or.inl (hw _ (List.mem_of_getElem? (i := 25) rfl))) (hw _ (List.mem_of_getElem? (i := 7) rfl)) 3 3 rfl rfl ["videos", "sizes", "excesses", "least", "capacity", "count", "held"] rfl (by decide) (ty := .double) (by first | decide | decide +kernel) rfl rfl d4_243 rfl (fun T o => ?_)
          simp only [List.set_cons_zero, List.set_cons_succ] at o
          exact g_return cx o d4_246 (by decide) (by decide) ⟨rfl, _, _, _, _, _, _, _, _, _, _, _, _, _, _, _, rfl, Or.inl ⟨kp, Or.inl ⟨by rw [kd]; omega, Or.inl (by omega)⟩⟩⟩
    · refine g_if_ne cx o (pc' := 158) (pc2 := 135) d4_132 (by decide) (by decide) rfl (fun c132 => absurd (by decide) c132) (fun c132 => ?_)
      refine g_aloadN cx o (pc' := 136) d4_135 rfl rfl rfl ?_
      refine g_iload cx o (pc' := 138) d4_136 rfl rfl ?_
      refine g_iconst cx o (pc' := 139) (1 : Int32) d4_138 rfl rfl ?_
      refine g_isub cx o (pc' := 140) d4_139 rfl ?_
      refine g_iconst cx o (pc' := 141) (2 : Int32) d4_140 rfl rfl ?_
      refine g_idiv cx o (pc' := 142) d4_141 rfl (by decide) ?_
      refine g_iload cx o (pc' := 144) d4_142 rfl rfl ?_
      refine g_private cx o (pc' := 147) (y := (⟨"com/example/cachesmith/cachesmith/solver/Knapsack", "move", "(II)V"⟩ : MethodName)) (hw _ (List.mem_of_getElem? (i := 66) rfl)) (hw _ (List.mem_of_getElem? (i := 31) rfl)) rfl (hw _ (List.mem_of_getElem? (i := 67) rfl)) (hw _ (List.mem_of_getElem? (i := 68) rfl)) (hw _ (List.mem_of_getElem? (i := 8) rfl)) (hw _ (List.mem_of_getElem? (i := 69) rfl)) 3 rfl (rmMv l Z a0 hw er sr vr kr _ _ _ _ _ _ _ _ _ _ _ _ _ _ _ _ _)  rfl pd_12 rfl (by decide) rfl 0 (Nat.le_of_eq rfl) (by decide) (by decide) (by decide) (by decide) d4_144 rfl (fun T v L hQ o => ?_)
      obtain ⟨rfl, rfl⟩ := hQ
      simp only [Option.toList_some, Option.toList_none, List.cons_append, List.nil_append]
      refine g_iload cx o (pc' := 149) d4_147 rfl rfl ?_
      refine g_iconst cx o (pc' := 150) (1 : Int32) d4_149 rfl rfl ?_
      refine g_isub cx o (pc' := 151) d4_150 rfl ?_
      refine g_iconst cx o (pc' := 152) (2 : Int32) d4_151 rfl rfl ?_
      refine g_idiv cx o (pc' := 153) d4_152 rfl (by decide) ?_
      refine g_istore cx o (pc' := 155) (l' := #[.val (.ref kr), .val (.int v), .val (.int s), .val (.long e), .second, .val (.int (0 : Int32))]) d4_153 rfl rfl ?_
      refine g_goto cx o (pc' := 114) d4_155 (by decide) (by decide) ?_
      refine g_iload cx o (pc' := 116) d4_114 rfl rfl ?_
      refine g_if_le cx o (pc' := 158) (pc2 := 119) d4_116 (by decide) (by decide) rfl (fun c116 => ?_) (fun c116 => absurd c116 (by decide))
      refine g_aloadN cx o (pc' := 159) d4_158 rfl rfl rfl ?_
      refine g_iload cx o (pc' := 161) d4_159 rfl rfl ?_
      refine g_iloadN cx o (pc' := 162) d4_161 rfl rfl ?_
      refine g_iloadN cx o (pc' := 163) d4_162 rfl rfl ?_
      refine g_lloadN cx o (pc' := 164) d4_163 rfl rfl ?_
      refine g_private cx o (pc' := 167) (y := (⟨"com/example/cachesmith/cachesmith/solver/Knapsack", "put", "(IIIJ)V"⟩ : MethodName)) (hw _ (List.mem_of_getElem? (i := 35) rfl)) (hw _ (List.mem_of_getElem? (i := 31) rfl)) rfl (hw _ (List.mem_of_getElem? (i := 36) rfl)) (hw _ (List.mem_of_getElem? (i := 37) rfl)) (hw _ (List.mem_of_getElem? (i := 8) rfl)) (hw _ (List.mem_of_getElem? (i := 38) rfl)) 3 rfl (put0 l Z a0 hw er sr vr kr _ _ _ _ _ _ _ _ _ _ _ _ _ _ _ _ _ _ _ _)  rfl pd_5 rfl (by decide) rfl 0 (Nat.le_of_eq rfl) (by decide) (by decide) (by decide) (by decide) d4_164 rfl (fun T v L hQ o => ?_)
      obtain ⟨rfl, rfl⟩ := hQ
      simp only [Option.toList_some, Option.toList_none, List.cons_append, List.nil_append]
      refine g_aloadN cx o (pc' := 168) d4_167 rfl rfl rfl ?_
      refine g_dup cx o (pc' := 169) d4_168 rfl rfl ?_
      refine g_getfield cx o (pc' := 172) (hw _ (List.mem_of_getElem? (i := 39) rfl)) 3 6 rfl rfl d4_169 rfl (fun T o => ?_)
      refine g_iloadN cx o (pc' := 173) d4_172 rfl rfl ?_
      refine g_i2l cx o (pc' := 174) d4_173 rfl ?_
      refine g_ladd cx o (pc' := 175) d4_174 rfl ?_
      refine g_putfield cx o (pc' := 178) (hw _ (List.mem_of_getElem? (i := 39) rfl)) (Or.inl (hw _ (List.mem_of_getElem? (i := 40) rfl))) (hw _ (List.mem_of_getElem? (i := 7) rfl)) 3 6 rfl rfl ["videos", "sizes", "excesses", "least", "capacity", "count", "held"] rfl (by decide) (ty := .long) (by first | decide | decide +kernel) rfl rfl d4_175 rfl (fun T o => ?_)
      simp only [List.set_cons_zero, List.set_cons_succ] at o
      refine g_aloadN cx o (pc' := 179) d4_178 rfl rfl rfl ?_
      refine g_getfield cx o (pc' := 182) (hw _ (List.mem_of_getElem? (i := 33) rfl)) 3 5 rfl rfl d4_179 rfl (fun T o => ?_)
      refine g_iconst cx o (pc' := 183) (1 : Int32) d4_182 rfl rfl ?_
      refine g_icmp_le cx o (pc' := 214) (pc2 := 186) d4_183 (by decide) (by decide) rfl (fun c183 => absurd (by decide) c183) (fun c183 => ?_)
      refine g_aloadN cx o (pc' := 187) d4_186 rfl rfl rfl ?_
      refine g_getfield cx o (pc' := 190) (hw _ (List.mem_of_getElem? (i := 39) rfl)) 3 6 rfl rfl d4_187 rfl (fun T o => ?_)
      refine g_aloadN cx o (pc' := 191) d4_190 rfl rfl rfl ?_
      refine g_getfield cx o (pc' := 194) (hw _ (List.mem_of_getElem? (i := 18) rfl)) 3 1 rfl rfl d4_191 rfl (fun T o => ?_)
      refine g_iconst cx o (pc' := 195) (0 : Int32) d4_194 rfl rfl ?_
      refine g_iaload cx o (pc' := 196)  1 0 rfl (by decide) rfl d4_195 rfl ?_
      refine g_i2l cx o (pc' := 197) d4_196 rfl ?_
      refine g_lsub cx o (pc' := 198) d4_197 rfl ?_
      refine g_aloadN cx o (pc' := 199) d4_198 rfl rfl rfl ?_
      refine g_getfield cx o (pc' := 202) (hw _ (List.mem_of_getElem? (i := 26) rfl)) 3 4 rfl rfl d4_199 rfl (fun T o => ?_)
      refine g_i2l cx o (pc' := 203) d4_202 rfl ?_
      refine g_lcmp cx o (pc' := 204) d4_203 rfl ?_
      have kd : (held + s.toInt64 - s.toInt64).toInt = s1.toInt := by rw [Jvm.Kit.i64_sub (by rw [kh, j1]; omega) (by rw [kh, j1]; omega), kh, j1]; omega
      refine g_if_lt cx o (pc' := 214) (pc2 := 207) d4_204 (by decide) (by decide) rfl (fun c204 => ?_) (fun c204 => absurd ((o_cmpLl _ _).mpr (by rw [kd, jc]; omega)) c204)
      refine g_aloadN cx o (pc' := 215) d4_214 rfl rfl rfl ?_
      refine g_getfield cx o (pc' := 218) (hw _ (List.mem_of_getElem? (i := 39) rfl)) 3 6 rfl rfl d4_215 rfl (fun T o => ?_)
      refine g_aloadN cx o (pc' := 219) d4_218 rfl rfl rfl ?_
      refine g_getfield cx o (pc' := 222) (hw _ (List.mem_of_getElem? (i := 26) rfl)) 3 4 rfl rfl d4_219 rfl (fun T o => ?_)
      refine g_i2l cx o (pc' := 223) d4_222 rfl ?_
      refine g_lcmp cx o (pc' := 224) d4_223 rfl ?_
      refine g_if_lt cx o (pc' := 246) (pc2 := 227) d4_224 (by decide) (by decide) rfl (fun c224 => ?_) (fun c224 => ?_)
      · have d := (o_cmpLl _ _).mp c224
        rw [kh, jc] at d
        exact g_return cx o d4_246 (by decide) (by decide) ⟨rfl, _, _, _, _, _, _, _, _, _, _, _, _, _, _, _, rfl, Or.inr ⟨kp, Or.inl ⟨by rw [kh]; omega, Or.inr (by omega)⟩⟩⟩
      · by_cases q : cap.toInt < s1.toInt + s.toInt
        · refine g_aloadN cx o (pc' := 228) d4_227 rfl rfl rfl ?_
          refine g_aloadN cx o (pc' := 229) d4_228 rfl rfl rfl ?_
          refine g_getfield cx o (pc' := 232) (hw _ (List.mem_of_getElem? (i := 21) rfl)) 3 2 rfl rfl d4_229 rfl (fun T o => ?_)
          refine g_iconst cx o (pc' := 233) (0 : Int32) d4_232 rfl rfl ?_
          refine g_laload cx o (pc' := 234)  0 0 rfl (by decide) rfl d4_233 rfl ?_
          refine g_l2d cx o (pc' := 235) d4_234 rfl ?_
          refine g_aloadN cx o (pc' := 236) d4_235 rfl rfl rfl ?_
          refine g_getfield cx o (pc' := 239) (hw _ (List.mem_of_getElem? (i := 18) rfl)) 3 1 rfl rfl d4_236 rfl (fun T o => ?_)
          refine g_iconst cx o (pc' := 240) (0 : Int32) d4_239 rfl rfl ?_
          refine g_iaload cx o (pc' := 241)  1 0 rfl (by decide) rfl d4_240 rfl ?_
          refine g_i2d cx o (pc' := 242) d4_241 rfl ?_
          refine g_ddiv cx o (pc' := 243) d4_242 rfl (o_div_nn X Y (by omega)) ?_
          refine g_putfield cx o (pc' := 246) (hw _ (List.mem_of_getElem? (i := 24) rfl)) (Or.inl (hw _ (List.mem_of_getElem? (i := 25) rfl))) (hw _ (List.mem_of_getElem? (i := 7) rfl)) 3 3 rfl rfl ["videos", "sizes", "excesses", "least", "capacity", "count", "held"] rfl (by decide) (ty := .double) (by first | decide | decide +kernel) rfl rfl d4_243 rfl (fun T o => ?_)
          simp only [List.set_cons_zero, List.set_cons_succ] at o
          exact g_return cx o d4_246 (by decide) (by decide) ⟨rfl, _, _, _, _, _, _, _, _, _, _, _, _, _, _, _, rfl, Or.inr ⟨kp, Or.inr ⟨kh, q, hlt, rfl⟩⟩⟩
        · refine g_aloadN cx o (pc' := 228) d4_227 rfl rfl rfl ?_
          refine g_aloadN cx o (pc' := 229) d4_228 rfl rfl rfl ?_
          refine g_getfield cx o (pc' := 232) (hw _ (List.mem_of_getElem? (i := 21) rfl)) 3 2 rfl rfl d4_229 rfl (fun T o => ?_)
          refine g_iconst cx o (pc' := 233) (0 : Int32) d4_232 rfl rfl ?_
          refine g_laload cx o (pc' := 234)  0 0 rfl (by decide) rfl d4_233 rfl ?_
          refine g_l2d cx o (pc' := 235) d4_234 rfl ?_
          refine g_aloadN cx o (pc' := 236) d4_235 rfl rfl rfl ?_
          refine g_getfield cx o (pc' := 239) (hw _ (List.mem_of_getElem? (i := 18) rfl)) 3 1 rfl rfl d4_236 rfl (fun T o => ?_)
          refine g_iconst cx o (pc' := 240) (0 : Int32) d4_239 rfl rfl ?_
          refine g_iaload cx o (pc' := 241)  1 0 rfl (by decide) rfl d4_240 rfl ?_
          refine g_i2d cx o (pc' := 242) d4_241 rfl ?_
          refine g_ddiv cx o (pc' := 243) d4_242 rfl (o_div_nn X Y (by omega)) ?_
          refine g_putfield cx o (pc' := 246) (hw _ (List.mem_of_getElem? (i := 24) rfl)) (Or.inl (hw _ (List.mem_of_getElem? (i := 25) rfl))) (hw _ (List.mem_of_getElem? (i := 7) rfl)) 3 3 rfl rfl ["videos", "sizes", "excesses", "least", "capacity", "count", "held"] rfl (by decide) (ty := .double) (by first | decide | decide +kernel) rfl rfl d4_243 rfl (fun T o => ?_)
          simp only [List.set_cons_zero, List.set_cons_succ] at o
          exact g_return cx o d4_246 (by decide) (by decide) ⟨rfl, _, _, _, _, _, _, _, _, _, _, _, _, _, _, _, rfl, Or.inr ⟨kp, Or.inl ⟨by rw [kh]; omega, Or.inr (by omega)⟩⟩⟩
  · have n1 : NoNaN64 (FP.ddiv (FP.l2d e1) (FP.i2d s1)) := o_div_nn X1 Y1 (by omega)
    have n2 : NoNaN64 (FP.ddiv (FP.l2d e) (FP.i2d s)) := o_div_nn X Y (by omega)
    have f1 := o_div_fin X1 Y1 (by omega) (g := 2147483648) (k := 0) (by decide) (by decide) (by
      rw [Nat.pow_zero, Nat.mul_one]
      exact Nat.le_trans (by omega : e1.toInt.toNat ≤ 2147483648 * 1) (Nat.mul_le_mul_left _ (by omega)))
    have g1 := (o_div_ge X1 Y1 (by omega) (g := 0) (k := 0) (by decide) (by decide) (by omega))
    rw [Nat.zero_mul] at g1
    have n3 : NoNaN64 (FP.dmul (FP.ddiv (FP.l2d e1) (FP.i2d s1)) (4607182418791010209 : UInt64)) := o_dmul_nn f1 o_c37.1
    have nl : ¬ cmpValue (FP.dcmp (FP.ddiv (FP.l2d e1) (FP.i2d s1)) FP.dconst0) .l < 0 := by
      rw [o_cvz n1 oR.zero.nn, o_oz0, if_neg (by omega)]
      split <;> decide
    have dr : oP e.toInt s.toInt v.toInt e1.toInt s1.toInt v1.toInt → ¬ cmpValue (FP.dcmp (FP.ddiv (FP.l2d e) (FP.i2d s)) (FP.dmul (FP.ddiv (FP.l2d e1) (FP.i2d s1)) (4607182418791010209 : UInt64))) .g < 0 := fun q => by
      have m := o_drop X1 Y1 X Y (by omega) (by omega) (by omega) (by omega) (Int.ofNat_le.mp (by
        rw [o_toNatM he1.1 (by omega), o_toNatM he.1 (by omega)]
        rcases q with q | q
        · exact Int.le_of_lt q
        · exact Int.le_of_eq q.1.symm))
      rw [o_cvz n2 n3, if_neg (by omega)]
      split <;> decide
    refine g_aloadN cx o (pc' := 1) d4_0 rfl rfl rfl ?_
    refine g_getfield cx o (pc' := 4) (hw _ (List.mem_of_getElem? (i := 24) rfl)) 3 3 rfl rfl d4_1 rfl (fun T o => ?_)
    refine g_dconst0 cx o (pc' := 5) d4_4 rfl ?_
    refine g_dcmp cx o (pc' := 6) d4_5 rfl ?_
    refine g_if_lt cx o (pc' := 38) (pc2 := 9) d4_6 (by decide) (by decide) rfl (fun c6 => absurd c6 nl) (fun c6 => ?_)
    refine g_lloadN cx o (pc' := 10) d4_9 rfl rfl ?_
    refine g_l2d cx o (pc' := 11) d4_10 rfl ?_
    refine g_iloadN cx o (pc' := 12) d4_11 rfl rfl ?_
    refine g_i2d cx o (pc' := 13) d4_12 rfl ?_
    refine g_ddiv cx o (pc' := 14) d4_13 rfl n2 ?_
    refine g_aloadN cx o (pc' := 15) d4_14 rfl rfl rfl ?_
    refine g_getfield cx o (pc' := 18) (hw _ (List.mem_of_getElem? (i := 24) rfl)) 3 3 rfl rfl d4_15 rfl (fun T o => ?_)
    refine g_ldc2D cx o (pc' := 21) (hw _ (List.mem_of_getElem? (i := 41) rfl)) d4_18 rfl ?_
    refine g_dmul cx o (pc' := 22) d4_21 rfl n3 ?_
    refine g_dcmp cx o (pc' := 23) d4_22 rfl ?_
    refine g_if_lt cx o (pc' := 37) (pc2 := 26) d4_23 (by decide) (by decide) rfl (fun c23 => ?_) (fun c23 => ?_)
    · exact g_return cx o d4_37 (by decide) (by decide) ⟨rfl, _, _, _, _, _, _, _, _, _, _, _, _, _, _, _, rfl, Or.inr ⟨(fun q => dr q c23), Or.inl ⟨by omega, Or.inl (by omega)⟩⟩⟩
    · refine g_aloadN cx o (pc' := 27) d4_26 rfl rfl rfl ?_
      refine g_lloadN cx o (pc' := 28) d4_27 rfl rfl ?_
      refine g_iloadN cx o (pc' := 29) d4_28 rfl rfl ?_
      refine g_iloadN cx o (pc' := 30) d4_29 rfl rfl ?_
      refine g_iconst cx o (pc' := 31) (0 : Int32) d4_30 rfl rfl ?_
      refine g_private cx o (pc' := 34) (y := (⟨"com/example/cachesmith/cachesmith/solver/Knapsack", "precedes", "(JIII)Z"⟩ : MethodName)) (hw _ (List.mem_of_getElem? (i := 47) rfl)) (hw _ (List.mem_of_getElem? (i := 31) rfl)) rfl (hw _ (List.mem_of_getElem? (i := 48) rfl)) (hw _ (List.mem_of_getElem? (i := 49) rfl)) (hw _ (List.mem_of_getElem? (i := 8) rfl)) (hw _ (List.mem_of_getElem? (i := 50) rfl)) 3 rfl (rmPr l Z a0 hw er sr vr kr _ _ _ _ _ _ _ _ _ _ _ _ _ _ _ _ _ e s v he hs he1 hs1)  rfl pd_7 rfl (by decide) rfl 0 (Nat.le_of_eq rfl) (by decide) (by decide) (by decide) (by decide) d4_31 rfl (fun T v L hQ o => ?_)
      obtain ⟨r, rfl, kp, rfl⟩ := hQ
      simp only [Option.toList_some, Option.toList_none, List.cons_append, List.nil_append]
      rcases kp with ⟨rfl, known⟩ | ⟨rfl, kp⟩
      · refine g_if_ne cx o (pc' := 38) (pc2 := 37) d4_34 (by decide) (by decide) rfl (fun c34 => ?_) (fun c34 => absurd c34 (by decide))
        refine g_aloadN cx o (pc' := 39) d4_38 rfl rfl rfl ?_
        refine g_getfield cx o (pc' := 42) (hw _ (List.mem_of_getElem? (i := 33) rfl)) 3 5 rfl rfl d4_39 rfl (fun T o => ?_)
        refine g_aloadN cx o (pc' := 43) d4_42 rfl rfl rfl ?_
        refine g_getfield cx o (pc' := 46) (hw _ (List.mem_of_getElem? (i := 16) rfl)) 3 0 rfl rfl d4_43 rfl (fun T o => ?_)
        refine g_arraylength cx o (pc' := 47) 2 (4 : Int32) rfl rfl d4_46 rfl ?_
        refine g_icmp_ne cx o (pc' := 101) (pc2 := 50) d4_47 (by decide) (by decide) rfl (fun c47 => ?_) (fun c47 => absurd c47 (by decide))
        refine g_aloadN cx o (pc' := 102) d4_101 rfl rfl rfl ?_
        refine g_dup cx o (pc' := 103) d4_102 rfl rfl ?_
        refine g_getfield cx o (pc' := 106) (hw _ (List.mem_of_getElem? (i := 33) rfl)) 3 5 rfl rfl d4_103 rfl (fun T o => ?_)
        refine g_dup_x1 cx o (pc' := 107) d4_106 rfl rfl rfl ?_
        refine g_iconst cx o (pc' := 108) (1 : Int32) d4_107 rfl rfl ?_
        refine g_iadd cx o (pc' := 109) d4_108 rfl ?_
        refine g_putfield cx o (pc' := 112) (hw _ (List.mem_of_getElem? (i := 33) rfl)) (Or.inl (hw _ (List.mem_of_getElem? (i := 34) rfl))) (hw _ (List.mem_of_getElem? (i := 7) rfl)) 3 5 rfl rfl ["videos", "sizes", "excesses", "least", "capacity", "count", "held"] rfl (by decide) (ty := .int) (by first | decide | decide +kernel) rfl rfl d4_109 rfl (fun T o => ?_)
        simp only [List.set_cons_zero, List.set_cons_succ] at o
        refine g_istore cx o (pc' := 114) (l' := #[.val (.ref kr), .val (.int v), .val (.int s), .val (.long e), .second, .val (.int (1 : Int32))]) d4_112 rfl rfl ?_
        refine g_iload cx o (pc' := 116) d4_114 rfl rfl ?_
        refine g_if_le cx o (pc' := 158) (pc2 := 119) d4_116 (by decide) (by decide) rfl (fun c116 => absurd (by decide) c116) (fun c116 => ?_)
        refine g_aloadN cx o (pc' := 120) d4_119 rfl rfl rfl ?_
        refine g_lloadN cx o (pc' := 121) d4_120 rfl rfl ?_
        refine g_iloadN cx o (pc' := 122) d4_121 rfl rfl ?_
        refine g_iloadN cx o (pc' := 123) d4_122 rfl rfl ?_
        refine g_iload cx o (pc' := 125) d4_123 rfl rfl ?_
        refine g_iconst cx o (pc' := 126) (1 : Int32) d4_125 rfl rfl ?_
        refine g_isub cx o (pc' := 127) d4_126 rfl ?_
        refine g_iconst cx o (pc' := 128) (2 : Int32) d4_127 rfl rfl ?_
        refine g_idiv cx o (pc' := 129) d4_128 rfl (by decide) ?_
        refine g_private cx o (pc' := 132) (y := (⟨"com/example/cachesmith/cachesmith/solver/Knapsack", "precedes", "(JIII)Z"⟩ : MethodName)) (hw _ (List.mem_of_getElem? (i := 47) rfl)) (hw _ (List.mem_of_getElem? (i := 31) rfl)) rfl (hw _ (List.mem_of_getElem? (i := 48) rfl)) (hw _ (List.mem_of_getElem? (i := 49) rfl)) (hw _ (List.mem_of_getElem? (i := 8) rfl)) (hw _ (List.mem_of_getElem? (i := 50) rfl)) 3 rfl (rmPr l Z a0 hw er sr vr kr _ _ _ _ _ _ _ _ _ _ _ _ _ _ _ _ _ e s v he hs he1 hs1)  rfl pd_7 rfl (by decide) rfl 0 (Nat.le_of_eq rfl) (by decide) (by decide) (by decide) (by decide) d4_129 rfl (fun T v L hQ o => ?_)
        obtain ⟨r, rfl, kp, rfl⟩ := hQ
        simp only [Option.toList_some, Option.toList_none, List.cons_append, List.nil_append]
        rcases kp with ⟨rfl, kp⟩ | ⟨rfl, kp⟩
        · refine g_if_ne cx o (pc' := 158) (pc2 := 135) d4_132 (by decide) (by decide) rfl (fun c132 => ?_) (fun c132 => absurd c132 (by decide))
          refine g_aloadN cx o (pc' := 159) d4_158 rfl rfl rfl ?_
          refine g_iload cx o (pc' := 161) d4_159 rfl rfl ?_
          refine g_iloadN cx o (pc' := 162) d4_161 rfl rfl ?_
          refine g_iloadN cx o (pc' := 163) d4_162 rfl rfl ?_
          refine g_lloadN cx o (pc' := 164) d4_163 rfl rfl ?_
          refine g_private cx o (pc' := 167) (y := (⟨"com/example/cachesmith/cachesmith/solver/Knapsack", "put", "(IIIJ)V"⟩ : MethodName)) (hw _ (List.mem_of_getElem? (i := 35) rfl)) (hw _ (List.mem_of_getElem? (i := 31) rfl)) rfl (hw _ (List.mem_of_getElem? (i := 36) rfl)) (hw _ (List.mem_of_getElem? (i := 37) rfl)) (hw _ (List.mem_of_getElem? (i := 8) rfl)) (hw _ (List.mem_of_getElem? (i := 38) rfl)) 3 rfl (put1 l Z a0 hw er sr vr kr _ _ _ _ _ _ _ _ _ _ _ _ _ _ _ _ _ _ _ _)  rfl pd_5 rfl (by decide) rfl 0 (Nat.le_of_eq rfl) (by decide) (by decide) (by decide) (by decide) d4_164 rfl (fun T v L hQ o => ?_)
          obtain ⟨rfl, rfl⟩ := hQ
          simp only [Option.toList_some, Option.toList_none, List.cons_append, List.nil_append]
          refine g_aloadN cx o (pc' := 168) d4_167 rfl rfl rfl ?_
          refine g_dup cx o (pc' := 169) d4_168 rfl rfl ?_
          refine g_getfield cx o (pc' := 172) (hw _ (List.mem_of_getElem? (i := 39) rfl)) 3 6 rfl rfl d4_169 rfl (fun T o => ?_)
          refine g_iloadN cx o (pc' := 173) d4_172 rfl rfl ?_
          refine g_i2l cx o (pc' := 174) d4_173 rfl ?_
          refine g_ladd cx o (pc' := 175) d4_174 rfl ?_
          refine g_putfield cx o (pc' := 178) (hw _ (List.mem_of_getElem? (i := 39) rfl)) (Or.inl (hw _ (List.mem_of_getElem? (i := 40) rfl))) (hw _ (List.mem_of_getElem? (i := 7) rfl)) 3 6 rfl rfl ["videos", "sizes", "excesses", "least", "capacity", "count", "held"] rfl (by decide) (ty := .long) (by first | decide | decide +kernel) rfl rfl d4_175 rfl (fun T o => ?_)
          simp only [List.set_cons_zero, List.set_cons_succ] at o
          refine g_aloadN cx o (pc' := 179) d4_178 rfl rfl rfl ?_
          refine g_getfield cx o (pc' := 182) (hw _ (List.mem_of_getElem? (i := 33) rfl)) 3 5 rfl rfl d4_179 rfl (fun T o => ?_)
          refine g_iconst cx o (pc' := 183) (1 : Int32) d4_182 rfl rfl ?_
          refine g_icmp_le cx o (pc' := 214) (pc2 := 186) d4_183 (by decide) (by decide) rfl (fun c183 => absurd (by decide) c183) (fun c183 => ?_)
          refine g_aloadN cx o (pc' := 187) d4_186 rfl rfl rfl ?_
          refine g_getfield cx o (pc' := 190) (hw _ (List.mem_of_getElem? (i := 39) rfl)) 3 6 rfl rfl d4_187 rfl (fun T o => ?_)
          refine g_aloadN cx o (pc' := 191) d4_190 rfl rfl rfl ?_
          refine g_getfield cx o (pc' := 194) (hw _ (List.mem_of_getElem? (i := 18) rfl)) 3 1 rfl rfl d4_191 rfl (fun T o => ?_)
          refine g_iconst cx o (pc' := 195) (0 : Int32) d4_194 rfl rfl ?_
          refine g_iaload cx o (pc' := 196)  1 0 rfl (by decide) rfl d4_195 rfl ?_
          refine g_i2l cx o (pc' := 197) d4_196 rfl ?_
          refine g_lsub cx o (pc' := 198) d4_197 rfl ?_
          refine g_aloadN cx o (pc' := 199) d4_198 rfl rfl rfl ?_
          refine g_getfield cx o (pc' := 202) (hw _ (List.mem_of_getElem? (i := 26) rfl)) 3 4 rfl rfl d4_199 rfl (fun T o => ?_)
          refine g_i2l cx o (pc' := 203) d4_202 rfl ?_
          refine g_lcmp cx o (pc' := 204) d4_203 rfl ?_
          have kd : (held + s.toInt64 - s1.toInt64).toInt = s.toInt := by rw [Jvm.Kit.i64_sub (by rw [kh, j2]; omega) (by rw [kh, j2]; omega), kh, j2]; omega
          refine g_if_lt cx o (pc' := 214) (pc2 := 207) d4_204 (by decide) (by decide) rfl (fun c204 => ?_) (fun c204 => ?_)
          · have c := (o_cmpLl _ _).mp c204
            rw [kd, jc] at c
            refine g_aloadN cx o (pc' := 215) d4_214 rfl rfl rfl ?_
            refine g_getfield cx o (pc' := 218) (hw _ (List.mem_of_getElem? (i := 39) rfl)) 3 6 rfl rfl d4_215 rfl (fun T o => ?_)
            refine g_aloadN cx o (pc' := 219) d4_218 rfl rfl rfl ?_
            refine g_getfield cx o (pc' := 222) (hw _ (List.mem_of_getElem? (i := 26) rfl)) 3 4 rfl rfl d4_219 rfl (fun T o => ?_)
            refine g_i2l cx o (pc' := 223) d4_222 rfl ?_
            refine g_lcmp cx o (pc' := 224) d4_223 rfl ?_
            refine g_if_lt cx o (pc' := 246) (pc2 := 227) d4_224 (by decide) (by decide) rfl (fun c224 => ?_) (fun c224 => ?_)
            · have d := (o_cmpLl _ _).mp c224
              rw [kh, jc] at d
              exact g_return cx o d4_246 (by decide) (by decide) ⟨rfl, _, _, _, _, _, _, _, _, _, _, _, _, _, _, _, rfl, Or.inl ⟨kp, Or.inl ⟨by rw [kh]; omega, Or.inr (by omega)⟩⟩⟩
            · have d : ¬ _ := fun z => c224 ((o_cmpLl _ _).mpr z)
              rw [kh, jc] at d
              by_cases q : cap.toInt < s1.toInt + s.toInt
              · refine g_aloadN cx o (pc' := 228) d4_227 rfl rfl rfl ?_
                refine g_aloadN cx o (pc' := 229) d4_228 rfl rfl rfl ?_
                refine g_getfield cx o (pc' := 232) (hw _ (List.mem_of_getElem? (i := 21) rfl)) 3 2 rfl rfl d4_229 rfl (fun T o => ?_)
                refine g_iconst cx o (pc' := 233) (0 : Int32) d4_232 rfl rfl ?_
                refine g_laload cx o (pc' := 234)  0 0 rfl (by decide) rfl d4_233 rfl ?_
                refine g_l2d cx o (pc' := 235) d4_234 rfl ?_
                refine g_aloadN cx o (pc' := 236) d4_235 rfl rfl rfl ?_
                refine g_getfield cx o (pc' := 239) (hw _ (List.mem_of_getElem? (i := 18) rfl)) 3 1 rfl rfl d4_236 rfl (fun T o => ?_)
                refine g_iconst cx o (pc' := 240) (0 : Int32) d4_239 rfl rfl ?_
                refine g_iaload cx o (pc' := 241)  1 0 rfl (by decide) rfl d4_240 rfl ?_
                refine g_i2d cx o (pc' := 242) d4_241 rfl ?_
                refine g_ddiv cx o (pc' := 243) d4_242 rfl (o_div_nn X1 Y1 (by omega)) ?_
                refine g_putfield cx o (pc' := 246) (hw _ (List.mem_of_getElem? (i := 24) rfl)) (Or.inl (hw _ (List.mem_of_getElem? (i := 25) rfl))) (hw _ (List.mem_of_getElem? (i := 7) rfl)) 3 3 rfl rfl ["videos", "sizes", "excesses", "least", "capacity", "count", "held"] rfl (by decide) (ty := .double) (by first | decide | decide +kernel) rfl rfl d4_243 rfl (fun T o => ?_)
                simp only [List.set_cons_zero, List.set_cons_succ] at o
                exact g_return cx o d4_246 (by decide) (by decide) ⟨rfl, _, _, _, _, _, _, _, _, _, _, _, _, _, _, _, rfl, Or.inl ⟨kp, Or.inr ⟨kh, q, c, rfl⟩⟩⟩
              · refine g_aloadN cx o (pc' := 228) d4_227 rfl rfl rfl ?_
                refine g_aloadN cx o (pc' := 229) d4_228 rfl rfl rfl ?_
                refine g_getfield cx o (pc' := 232) (hw _ (List.mem_of_getElem? (i := 21) rfl)) 3 2 rfl rfl d4_229 rfl (fun T o => ?_)
                refine g_iconst cx o (pc' := 233) (0 : Int32) d4_232 rfl rfl ?_
                refine g_laload cx o (pc' := 234)  0 0 rfl (by decide) rfl d4_233 rfl ?_
                refine g_l2d cx o (pc' := 235) d4_234 rfl ?_
                refine g_aloadN cx o (pc' := 236) d4_235 rfl rfl rfl ?_
                refine g_getfield cx o (pc' := 239) (hw _ (List.mem_of_getElem? (i := 18) rfl)) 3 1 rfl rfl d4_236 rfl (fun T o => ?_)
                refine g_iconst cx o (pc' := 240) (0 : Int32) d4_239 rfl rfl ?_
                refine g_iaload cx o (pc' := 241)  1 0 rfl (by decide) rfl d4_240 rfl ?_
                refine g_i2d cx o (pc' := 242) d4_241 rfl ?_
                refine g_ddiv cx o (pc' := 243) d4_242 rfl (o_div_nn X1 Y1 (by omega)) ?_
                refine g_putfield cx o (pc' := 246) (hw _ (List.mem_of_getElem? (i := 24) rfl)) (Or.inl (hw _ (List.mem_of_getElem? (i := 25) rfl))) (hw _ (List.mem_of_getElem? (i := 7) rfl)) 3 3 rfl rfl ["videos", "sizes", "excesses", "least", "capacity", "count", "held"] rfl (by decide) (ty := .double) (by first | decide | decide +kernel) rfl rfl d4_243 rfl (fun T o => ?_)
                simp only [List.set_cons_zero, List.set_cons_succ] at o
                exact g_return cx o d4_246 (by decide) (by decide) ⟨rfl, _, _, _, _, _, _, _, _, _, _, _, _, _, _, _, rfl, Or.inl ⟨kp, Or.inl ⟨by rw [kh]; omega, Or.inr (by omega)⟩⟩⟩
          · have c : ¬ _ := fun z => c204 ((o_cmpLl _ _).mpr z)
            rw [kd, jc] at c
            refine g_aloadN cx o (pc' := 208) d4_207 rfl rfl rfl ?_
            refine g_private cx o (pc' := 211) (y := (⟨"com/example/cachesmith/cachesmith/solver/Knapsack", "removeLast", "()V"⟩ : MethodName)) (hw _ (List.mem_of_getElem? (i := 70) rfl)) (hw _ (List.mem_of_getElem? (i := 31) rfl)) rfl (hw _ (List.mem_of_getElem? (i := 71) rfl)) (hw _ (List.mem_of_getElem? (i := 72) rfl)) (hw _ (List.mem_of_getElem? (i := 8) rfl)) (hw _ (List.mem_of_getElem? (i := 73) rfl)) 3 rfl (rmRl l Z a0 hw er sr vr kr _ _ _ _ _ _ _ _ _ _ _ _ _ _ _ _)  rfl pd_13 rfl (by decide) rfl 0 (Nat.le_of_eq rfl) (by decide) (by decide) (by decide) (by decide) d4_208 rfl (fun T v L hQ o => ?_)
            obtain ⟨rfl, rfl⟩ := hQ
            simp only [Option.toList_some, Option.toList_none, List.cons_append, List.nil_append]
            refine g_goto cx o (pc' := 178) d4_211 (by decide) (by decide) ?_
            refine g_aloadN cx o (pc' := 179) d4_178 rfl rfl rfl ?_
            refine g_getfield cx o (pc' := 182) (hw _ (List.mem_of_getElem? (i := 33) rfl)) 3 5 rfl rfl d4_179 rfl (fun T o => ?_)
            refine g_iconst cx o (pc' := 183) (1 : Int32) d4_182 rfl rfl ?_
            refine g_icmp_le cx o (pc' := 214) (pc2 := 186) d4_183 (by decide) (by decide) rfl (fun c183 => ?_) (fun c183 => absurd c183 (by decide))
            refine g_aloadN cx o (pc' := 215) d4_214 rfl rfl rfl ?_
            refine g_getfield cx o (pc' := 218) (hw _ (List.mem_of_getElem? (i := 39) rfl)) 3 6 rfl rfl d4_215 rfl (fun T o => ?_)
            refine g_aloadN cx o (pc' := 219) d4_218 rfl rfl rfl ?_
            refine g_getfield cx o (pc' := 222) (hw _ (List.mem_of_getElem? (i := 26) rfl)) 3 4 rfl rfl d4_219 rfl (fun T o => ?_)
            refine g_i2l cx o (pc' := 223) d4_222 rfl ?_
            refine g_lcmp cx o (pc' := 224) d4_223 rfl ?_
            refine g_if_lt cx o (pc' := 246) (pc2 := 227) d4_224 (by decide) (by decide) rfl (fun c224 => ?_) (fun c224 => ?_)
            · exact g_return cx o d4_246 (by decide) (by decide) ⟨rfl, _, _, _, _, _, _, _, _, _, _, _, _, _, _, _, rfl, Or.inl ⟨kp, Or.inl ⟨by rw [kd]; omega, Or.inl (by omega)⟩⟩⟩
            · refine g_aloadN cx o (pc' := 228) d4_227 rfl rfl rfl ?_
              refine g_aloadN cx o (pc' := 229) d4_228 rfl rfl rfl ?_
              refine g_getfield cx o (pc' := 232) (hw _ (List.mem_of_getElem? (i := 21) rfl)) 3 2 rfl rfl d4_229 rfl (fun T o => ?_)
              refine g_iconst cx o (pc' := 233) (0 : Int32) d4_232 rfl rfl ?_
              refine g_laload cx o (pc' := 234)  0 0 rfl (by decide) rfl d4_233 rfl ?_
              refine g_l2d cx o (pc' := 235) d4_234 rfl ?_
              refine g_aloadN cx o (pc' := 236) d4_235 rfl rfl rfl ?_
              refine g_getfield cx o (pc' := 239) (hw _ (List.mem_of_getElem? (i := 18) rfl)) 3 1 rfl rfl d4_236 rfl (fun T o => ?_)
              refine g_iconst cx o (pc' := 240) (0 : Int32) d4_239 rfl rfl ?_
              refine g_iaload cx o (pc' := 241)  1 0 rfl (by decide) rfl d4_240 rfl ?_
              refine g_i2d cx o (pc' := 242) d4_241 rfl ?_
              refine g_ddiv cx o (pc' := 243) d4_242 rfl (o_div_nn X Y (by omega)) ?_
              refine g_putfield cx o (pc' := 246) (hw _ (List.mem_of_getElem? (i := 24) rfl)) (Or.inl (hw _ (List.mem_of_getElem? (i := 25) rfl))) (hw _ (List.mem_of_getElem? (i := 7) rfl)) 3 3 rfl rfl ["videos", "sizes", "excesses", "least", "capacity", "count", "held"] rfl (by decide) (ty := .double) (by first | decide | decide +kernel) rfl rfl d4_243 rfl (fun T o => ?_)
              simp only [List.set_cons_zero, List.set_cons_succ] at o
              exact g_return cx o d4_246 (by decide) (by decide) ⟨rfl, _, _, _, _, _, _, _, _, _, _, _, _, _, _, _, rfl, Or.inl ⟨kp, Or.inl ⟨by rw [kd]; omega, Or.inl (by omega)⟩⟩⟩
        · exact absurd known kp
      · refine g_if_ne cx o (pc' := 38) (pc2 := 37) d4_34 (by decide) (by decide) rfl (fun c34 => absurd (by decide) c34) (fun c34 => ?_)
        exact g_return cx o d4_37 (by decide) (by decide) ⟨rfl, _, _, _, _, _, _, _, _, _, _, _, _, _, _, _, rfl, Or.inr ⟨kp, Or.inl ⟨by omega, Or.inl (by omega)⟩⟩⟩
theorem pn_0 : plainName "com/example/cachesmith/cachesmith/solver/KnapsackSharePinLaw" = true := by first | (simp [plainName, overriddenIn]; done) | decide +kernel
theorem pd_0 : parseMethodDescriptor "(IIIJJI)Z" = some ⟨[.int, .int, .int, .long, .long, .int], some .boolean⟩ := by decide +kernel
set_option maxHeartbeats 4000000 in
theorem ef_0 (m : MethodId) (x0 : Int32) (x1 : Int32) (x2 : Int32) (x3 : Int64) (x4 : Int64) (x5 : Int32) : entryFrame m ([(.int x0), (.int x1), (.int x2), (.long x3), (.long x4), (.int x5)] : List Value).toArray maxLocals = mkF m 0 #[.val (.int x0), .val (.int x1), .val (.int x2), .val (.long x3), .second, .val (.long x4), .second, .val (.int x5), .unset, .unset, .unset, .unset, .unset, .unset, .unset, .unset, .unset, .unset, .unset, .unset, .unset, .unset, .unset, .unset, .unset, .unset, .unset, .unset, .unset, .unset] [] := by first | (simp [entryFrame, mkF, argsToLocals, Value.category, maxLocals]; done) | rfl
set_option maxHeartbeats 40000000 in
theorem rm0 (l : Launch) (Z : State) (a0 : Array Value) (hw : ∀ d ∈ tables_1, d.before a0 Z = true) (p0 p1 p2 : Int32) (p3 p4 : Int64) (p5 : Int32) :
    oMeets l Z x code maxLocals ret room_1 [(.int p0), (.int p1), (.int p2), (.long p3), (.long p4), (.int p5)] [] (fun v _ => v = some (.int 1)) := by
  refine oMeets.of (y := x) (plainFor_of_name pn_0) fun p' e' s' m below meth c T cx o => ?_
  have cx : oCx p' s' m meth c Z "com/example/cachesmith/cachesmith/solver/KnapsackSharePinLaw" "law" code maxLocals ret := cx
  refine oGo.top (ef_0 m _ _ _ _ _ _) ?_
  refine g_iconst cx o (pc' := 1) (1 : Int32) at_0 rfl rfl ?_
  refine g_iloadN cx o (pc' := 2) at_1 rfl rfl ?_
  refine g_ldc cx o (pc' := 4) (z := 2147483647) (hw _ (List.mem_of_getElem? (i := 0) rfl)) at_2 rfl ?_
  refine g_iand cx o (pc' := 5) at_4 rfl ?_
  refine g_static cx o (pc' := 8) (y := (⟨"java/lang/Math", "max", "(II)I"⟩ : MethodName)) (hw _ (List.mem_of_getElem? (i := 1) rfl)) (hw _ (List.mem_of_getElem? (i := 2) rfl)) (hw _ (List.mem_of_getElem? (i := 3) rfl)) (hw _ (List.mem_of_getElem? (i := 4) rfl)) (rmMx l Z a0 hw _ _ _)  rfl pd_1 rfl (by decide) rfl 0 (Nat.le_of_eq rfl) (by decide) (by decide) (by decide) (by decide) at_5 rfl (fun T v L hQ o => ?_)
  obtain ⟨cp, rfl, kc, rfl⟩ := hQ
  simp only [Option.toList_some, Option.toList_none, List.cons_append, List.nil_append]
  have e1_ : (1 : Int32).toInt = 1 := rfl
  rw [e1_] at kc
  have cne : cp ≠ 0 := fun q => by have := kc.1; rw [q] at this; exact absurd this (by decide)
  refine g_istore cx o (pc' := 10) (l' := #[.val (.int p0), .val (.int p1), .val (.int p2), .val (.long p3), .second, .val (.long p4), .second, .val (.int p5), .val (.int cp), .unset, .unset, .unset, .unset, .unset, .unset, .unset, .unset, .unset, .unset, .unset, .unset, .unset, .unset, .unset, .unset, .unset, .unset, .unset, .unset, .unset]) at_8 rfl rfl ?_
  refine g_iconst cx o (pc' := 11) (1 : Int32) at_10 rfl rfl ?_
  refine g_iloadN cx o (pc' := 12) at_11 rfl rfl ?_
  refine g_ldc cx o (pc' := 14) (z := 2147483647) (hw _ (List.mem_of_getElem? (i := 0) rfl)) at_12 rfl ?_
  refine g_iand cx o (pc' := 15) at_14 rfl ?_
  refine g_iload cx o (pc' := 17) at_15 rfl rfl ?_
  refine g_irem cx o (pc' := 18) at_17 rfl cne ?_
  refine g_iadd cx o (pc' := 19) at_18 rfl ?_
  refine g_istoreV cx o (pc' := 21) (fun w' => #[.val (.int p0), .val (.int p1), .val (.int p2), .val (.long p3), .second, .val (.long p4), .second, .val (.int p5), .val (.int cp), .val (.int w'), .unset, .unset, .unset, .unset, .unset, .unset, .unset, .unset, .unset, .unset, .unset, .unset, .unset, .unset, .unset, .unset, .unset, .unset, .unset, .unset]) at_19 rfl (fun _ => rfl) (fun s1 h_s1 => ?_)
  refine g_iconst cx o (pc' := 22) (1 : Int32) at_21 rfl rfl ?_
  refine g_iloadN cx o (pc' := 23) at_22 rfl rfl ?_
  refine g_ldc cx o (pc' := 25) (z := 2147483647) (hw _ (List.mem_of_getElem? (i := 0) rfl)) at_23 rfl ?_
  refine g_iand cx o (pc' := 26) at_25 rfl ?_
  refine g_iload cx o (pc' := 28) at_26 rfl rfl ?_
  refine g_irem cx o (pc' := 29) at_28 rfl cne ?_
  refine g_iadd cx o (pc' := 30) at_29 rfl ?_
  refine g_istoreV cx o (pc' := 32) (fun w' => #[.val (.int p0), .val (.int p1), .val (.int p2), .val (.long p3), .second, .val (.long p4), .second, .val (.int p5), .val (.int cp), .val (.int s1), .val (.int w'), .unset, .unset, .unset, .unset, .unset, .unset, .unset, .unset, .unset, .unset, .unset, .unset, .unset, .unset, .unset, .unset, .unset, .unset, .unset]) at_30 rfl (fun _ => rfl) (fun s2 h_s2 => ?_)
  refine g_lloadN cx o (pc' := 33) at_32 rfl rfl ?_
  refine g_ldc2L cx o (pc' := 36) (z := 2147483647) (hw _ (List.mem_of_getElem? (i := 5) rfl)) at_33 rfl ?_
  refine g_land cx o (pc' := 37) at_36 rfl ?_
  refine g_lstoreV cx o (pc' := 39) (fun w' => #[.val (.int p0), .val (.int p1), .val (.int p2), .val (.long p3), .second, .val (.long p4), .second, .val (.int p5), .val (.int cp), .val (.int s1), .val (.int s2), .val (.long w'), .second, .unset, .unset, .unset, .unset, .unset, .unset, .unset, .unset, .unset, .unset, .unset, .unset, .unset, .unset, .unset, .unset, .unset]) at_37 rfl (fun _ => rfl) (fun e1 h_e1 => ?_)
  refine g_lload cx o (pc' := 41) at_39 rfl rfl ?_
  refine g_ldc2L cx o (pc' := 44) (z := 2147483647) (hw _ (List.mem_of_getElem? (i := 5) rfl)) at_41 rfl ?_
  refine g_land cx o (pc' := 45) at_44 rfl ?_
  refine g_lstoreV cx o (pc' := 47) (fun w' => #[.val (.int p0), .val (.int p1), .val (.int p2), .val (.long p3), .second, .val (.long p4), .second, .val (.int p5), .val (.int cp), .val (.int s1), .val (.int s2), .val (.long e1), .second, .val (.long w'), .second, .unset, .unset, .unset, .unset, .unset, .unset, .unset, .unset, .unset, .unset, .unset, .unset, .unset, .unset, .unset]) at_45 rfl (fun _ => rfl) (fun e2 h_e2 => ?_)
  refine g_lloadN cx o (pc' := 48) at_47 rfl rfl ?_
  refine g_bipush cx o (pc' := 50) (40 : Int32) at_48 rfl (by decide) ?_
  refine g_lushr cx o (pc' := 51) at_50 rfl ?_
  refine g_lconst cx o (pc' := 52) (1 : Int64) at_51 rfl rfl ?_
  refine g_land cx o (pc' := 53) at_52 rfl ?_
  refine g_lconst cx o (pc' := 54) (0 : Int64) at_53 rfl rfl ?_
  refine g_lcmp cx o (pc' := 55) at_54 rfl ?_
  have uc := cp.toInt_lt
  have ks1 : 1 ≤ s1.toInt ∧ s1.toInt ≤ cp.toInt := by
    have m := o_m31 p1
    have r := Jvm.Kit.i32_rem_nonneg (y := cp) m.1
    have r1 := Int.emod_nonneg (p1 &&& 2147483647).toInt (b := cp.toInt) (by omega)
    have r2 := Int.emod_lt_of_pos (p1 &&& 2147483647).toInt (b := cp.toInt) (by omega)
    rw [h_s1, Jvm.Kit.i32_add (by rw [e1_, r]; omega) (by rw [e1_, r]; omega), e1_, r]; omega
  have ks2 : 1 ≤ s2.toInt ∧ s2.toInt ≤ cp.toInt := by
    have m := o_m31 p2
    have r := Jvm.Kit.i32_rem_nonneg (y := cp) m.1
    have r1 := Int.emod_nonneg (p2 &&& 2147483647).toInt (b := cp.toInt) (by omega)
    have r2 := Int.emod_lt_of_pos (p2 &&& 2147483647).toInt (b := cp.toInt) (by omega)
    rw [h_s2, Jvm.Kit.i32_add (by rw [e1_, r]; omega) (by rw [e1_, r]; omega), e1_, r]; omega
  have ke1 : 0 ≤ e1.toInt ∧ e1.toInt ≤ 2147483647 := by rw [h_e1]; exact o_m31l _
  have ke2 : 0 ≤ e2.toInt ∧ e2.toInt ≤ 2147483647 := by rw [h_e2]; exact o_m31l _
  refine g_if_eq cx o (pc' := 62) (pc2 := 58) at_55 (by decide) (by decide) rfl (fun c55 => ?_) (fun c55 => ?_)
  · refine g_iconst cx o (pc' := 63) (0 : Int32) at_62 rfl rfl ?_
    refine g_istore cx o (pc' := 65) (l' := #[.val (.int p0), .val (.int p1), .val (.int p2), .val (.long p3), .second, .val (.long p4), .second, .val (.int p5), .val (.int cp), .val (.int s1), .val (.int s2), .val (.long e1), .second, .val (.long e2), .second, .val (.int (0 : Int32)), .unset, .unset, .unset, .unset, .unset, .unset, .unset, .unset, .unset, .unset, .unset, .unset, .unset, .unset]) at_63 rfl rfl ?_
    refine g_iload cx o (pc' := 67) at_65 rfl rfl ?_
    refine g_if_eq cx o (pc' := 74) (pc2 := 70) at_67 (by decide) (by decide) rfl (fun c67 => ?_) (fun c67 => absurd (by decide) c67)
    refine g_iconst cx o (pc' := 75) (1 : Int32) at_74 rfl rfl ?_
    refine g_istore cx o (pc' := 77) (l' := #[.val (.int p0), .val (.int p1), .val (.int p2), .val (.long p3), .second, .val (.long p4), .second, .val (.int p5), .val (.int cp), .val (.int s1), .val (.int s2), .val (.long e1), .second, .val (.long e2), .second, .val (.int (0 : Int32)), .val (.int (1 : Int32)), .unset, .unset, .unset, .unset, .unset, .unset, .unset, .unset, .unset, .unset, .unset, .unset, .unset]) at_75 rfl rfl ?_
    refine g_iload cx o (pc' := 79) at_77 rfl rfl ?_
    refine g_if_eq cx o (pc' := 86) (pc2 := 82) at_79 (by decide) (by decide) rfl (fun c79 => ?_) (fun c79 => absurd (by decide) c79)
    refine g_iconst cx o (pc' := 87) (2 : Int32) at_86 rfl rfl ?_
    refine g_istore cx o (pc' := 89) (l' := #[.val (.int p0), .val (.int p1), .val (.int p2), .val (.long p3), .second, .val (.long p4), .second, .val (.int p5), .val (.int cp), .val (.int s1), .val (.int s2), .val (.long e1), .second, .val (.long e2), .second, .val (.int (0 : Int32)), .val (.int (1 : Int32)), .val (.int (2 : Int32)), .unset, .unset, .unset, .unset, .unset, .unset, .unset, .unset, .unset, .unset, .unset, .unset]) at_87 rfl rfl ?_
    refine g_new cx o (pc' := 92) (hw _ (List.mem_of_getElem? (i := 6) rfl)) (hw _ (List.mem_of_getElem? (i := 7) rfl)) (hw _ (List.mem_of_getElem? (i := 8) rfl)) (fs_Knapsack hw) (by decide) (by decide) at_89 rfl (fun T kr o => ?_)
    refine g_dup cx o (pc' := 93) at_92 rfl rfl ?_
    refine g_iload cx o (pc' := 95) at_93 rfl rfl ?_
    refine g_special cx o (pc' := 98) (y := (⟨"com/example/cachesmith/cachesmith/solver/Knapsack", "<init>", "(I)V"⟩ : MethodName)) rfl (hw _ (List.mem_of_getElem? (i := 9) rfl)) (hw _ (List.mem_of_getElem? (i := 10) rfl)) (hw _ (List.mem_of_getElem? (i := 8) rfl)) (hw _ (List.mem_of_getElem? (i := 11) rfl)) (rmI l Z a0 hw kr cp _)  rfl pd_2 rfl (by decide) rfl 1 (Nat.le_of_eq rfl) (by decide) (by decide) (by decide) (by decide) at_95 rfl (fun T v L hQ o => ?_)
    obtain ⟨rfl, er, sr, vr, rfl⟩ := hQ
    simp only [Option.toList_some, Option.toList_none, List.cons_append, List.nil_append]
    refine g_astore cx o (pc' := 100) (l' := #[.val (.int p0), .val (.int p1), .val (.int p2), .val (.long p3), .second, .val (.long p4), .second, .val (.int p5), .val (.int cp), .val (.int s1), .val (.int s2), .val (.long e1), .second, .val (.long e2), .second, .val (.int (0 : Int32)), .val (.int (1 : Int32)), .val (.int (2 : Int32)), .val (.ref kr), .unset, .unset, .unset, .unset, .unset, .unset, .unset, .unset, .unset, .unset, .unset]) at_98 rfl rfl rfl ?_
    refine g_aload cx o (pc' := 102) at_100 rfl rfl rfl ?_
    refine g_iload cx o (pc' := 104) at_102 rfl rfl ?_
    refine g_iload cx o (pc' := 106) at_104 rfl rfl ?_
    refine g_lload cx o (pc' := 108) at_106 rfl rfl ?_
    refine g_virtual cx o (pc' := 111) (y := (⟨"com/example/cachesmith/cachesmith/solver/Knapsack", "offer", "(IIJ)V"⟩ : MethodName)) (z := (⟨"com/example/cachesmith/cachesmith/solver/Knapsack", "offer", "(IIJ)V"⟩ : MethodName)) (hw _ (List.mem_of_getElem? (i := 28) rfl)) (hw _ (List.mem_of_getElem? (i := 29) rfl)) (notFace_of_selects (args := #[]) (mvT cx.2.1 (hw _ (List.mem_of_getElem? (i := 31) rfl)))) (hw _ (List.mem_of_getElem? (i := 31) rfl)) (hw _ (List.mem_of_getElem? (i := 30) rfl)) (hw _ (List.mem_of_getElem? (i := 8) rfl)) (hw _ (List.mem_of_getElem? (i := 32) rfl)) 3 rfl (of1 l Z a0 hw er sr vr kr cp _ _ _ _ ke1 ks1.1)  rfl pd_4 rfl (by decide) rfl 0 (Nat.le_of_eq rfl) (by decide) (by decide) (by decide) (by decide) at_108 rfl (fun T v L hQ o => ?_)
    obtain ⟨rfl, held, lst, rfl, kh, kl⟩ := hQ
    simp only [Option.toList_some, Option.toList_none, List.cons_append, List.nil_append]
    refine g_aload cx o (pc' := 113) at_111 rfl rfl rfl ?_
    refine g_iload cx o (pc' := 115) at_113 rfl rfl ?_
    refine g_iload cx o (pc' := 117) at_115 rfl rfl ?_
    refine g_lload cx o (pc' := 119) at_117 rfl rfl ?_
    refine g_virtual cx o (pc' := 122) (y := (⟨"com/example/cachesmith/cachesmith/solver/Knapsack", "offer", "(IIJ)V"⟩ : MethodName)) (z := (⟨"com/example/cachesmith/cachesmith/solver/Knapsack", "offer", "(IIJ)V"⟩ : MethodName)) (hw _ (List.mem_of_getElem? (i := 28) rfl)) (hw _ (List.mem_of_getElem? (i := 29) rfl)) (notFace_of_selects (args := #[]) (mvT cx.2.1 (hw _ (List.mem_of_getElem? (i := 31) rfl)))) (hw _ (List.mem_of_getElem? (i := 31) rfl)) (hw _ (List.mem_of_getElem? (i := 30) rfl)) (hw _ (List.mem_of_getElem? (i := 8) rfl)) (hw _ (List.mem_of_getElem? (i := 32) rfl)) 3 rfl (of2 l Z a0 hw er sr vr kr cp _ _ _ _ _ _ _ _ _ ke2 ks2.1 ke1 ks1.1 ks2.2 ks1.2 kh kl)  rfl pd_4 rfl (by decide) rfl 0 (Nat.le_of_eq rfl) (by decide) (by decide) (by decide) (by decide) at_119 rfl (fun T v L hQ o => ?_)
    obtain ⟨rfl, cnt, h2, l2, x0, x1, x2, x3, y0, y1, y2, y3, z0, z1, z2, z3, rfl, sp⟩ := hQ
    simp only [Option.toList_some, Option.toList_none, List.cons_append, List.nil_append]
    have j1 : s1.toInt64.toInt = s1.toInt := Jvm.Kit.i64_of_i32 s1
    have j2 : s2.toInt64.toInt = s2.toInt := Jvm.Kit.i64_of_i32 s2
    have jc : cp.toInt64.toInt = cp.toInt := Jvm.Kit.i64_of_i32 cp
    refine g_lload cx o (pc' := 124) at_122 rfl rfl ?_
    refine g_iload cx o (pc' := 126) at_124 rfl rfl ?_
    refine g_i2l cx o (pc' := 127) at_126 rfl ?_
    refine g_lmul cx o (pc' := 128) at_127 rfl ?_
    refine g_lstoreV cx o (pc' := 130) (fun w' => #[.val (.int p0), .val (.int p1), .val (.int p2), .val (.long p3), .second, .val (.long p4), .second, .val (.int p5), .val (.int cp), .val (.int s1), .val (.int s2), .val (.long e1), .second, .val (.long e2), .second, .val (.int (0 : Int32)), .val (.int (1 : Int32)), .val (.int (2 : Int32)), .val (.ref kr), .val (.long w'), .second, .unset, .unset, .unset, .unset, .unset, .unset, .unset, .unset, .unset]) at_128 rfl (fun _ => rfl) (fun pq h_pq => ?_)
    refine g_lload cx o (pc' := 132) at_130 rfl rfl ?_
    refine g_iload cx o (pc' := 134) at_132 rfl rfl ?_
    refine g_i2l cx o (pc' := 135) at_134 rfl ?_
    refine g_lmul cx o (pc' := 136) at_135 rfl ?_
    refine g_lstoreV cx o (pc' := 138) (fun w' => #[.val (.int p0), .val (.int p1), .val (.int p2), .val (.long p3), .second, .val (.long p4), .second, .val (.int p5), .val (.int cp), .val (.int s1), .val (.int s2), .val (.long e1), .second, .val (.long e2), .second, .val (.int (0 : Int32)), .val (.int (1 : Int32)), .val (.int (2 : Int32)), .val (.ref kr), .val (.long pq), .second, .val (.long w'), .second, .unset, .unset, .unset, .unset, .unset, .unset, .unset]) at_136 rfl (fun _ => rfl) (fun qq h_qq => ?_)
    refine g_lload cx o (pc' := 140) at_138 rfl rfl ?_
    refine g_lload cx o (pc' := 142) at_140 rfl rfl ?_
    refine g_lcmp cx o (pc' := 143) at_142 rfl ?_
    have kp := o_mul64 (x := e2) (y := s1.toInt64) rfl j1 ke2 (by omega)
    rw [← h_pq] at kp
    have kq := o_mul64 (x := e1) (y := s2.toInt64) rfl j2 ke1 (by omega)
    rw [← h_qq] at kq
    refine g_if_gt cx o (pc' := 161) (pc2 := 146) at_143 (by decide) (by decide) rfl (fun c143 => ?_) (fun c143 => ?_)
    · have c := (o_cmpL _ _).mp c143
      rw [kp.1, kq.1] at c
      refine g_iconst cx o (pc' := 162) (1 : Int32) at_161 rfl rfl ?_
      refine g_goto cx o (pc' := 166) at_162 (by decide) (by decide) ?_
      refine g_istore cx o (pc' := 168) (l' := #[.val (.int p0), .val (.int p1), .val (.int p2), .val (.long p3), .second, .val (.long p4), .second, .val (.int p5), .val (.int cp), .val (.int s1), .val (.int s2), .val (.long e1), .second, .val (.long e2), .second, .val (.int (0 : Int32)), .val (.int (1 : Int32)), .val (.int (2 : Int32)), .val (.ref kr), .val (.long pq), .second, .val (.long qq), .second, .val (.int (1 : Int32)), .unset, .unset, .unset, .unset, .unset, .unset]) at_166 rfl rfl ?_
      refine g_iload cx o (pc' := 170) at_168 rfl rfl ?_
      have fP : oP e2.toInt s2.toInt ((2 : Int32)).toInt e1.toInt s1.toInt ((1 : Int32)).toInt := Or.inl c
      refine g_if_eq cx o (pc' := 178) (pc2 := 173) at_170 (by decide) (by decide) rfl (fun c170 => absurd c170 (by decide)) (fun c170 => ?_)
      refine g_iload cx o (pc' := 175) at_173 rfl rfl ?_
      refine g_goto cx o (pc' := 180) at_175 (by decide) (by decide) ?_
      refine g_istore cx o (pc' := 182) (l' := #[.val (.int p0), .val (.int p1), .val (.int p2), .val (.long p3), .second, .val (.long p4), .second, .val (.int p5), .val (.int cp), .val (.int s1), .val (.int s2), .val (.long e1), .second, .val (.long e2), .second, .val (.int (0 : Int32)), .val (.int (1 : Int32)), .val (.int (2 : Int32)), .val (.ref kr), .val (.long pq), .second, .val (.long qq), .second, .val (.int (1 : Int32)), .val (.int s2), .unset, .unset, .unset, .unset, .unset]) at_180 rfl rfl ?_
      refine g_iload cx o (pc' := 184) at_182 rfl rfl ?_
      refine g_if_eq cx o (pc' := 192) (pc2 := 187) at_184 (by decide) (by decide) rfl (fun c184 => absurd c184 (by decide)) (fun c184 => ?_)
      refine g_iload cx o (pc' := 189) at_187 rfl rfl ?_
      refine g_goto cx o (pc' := 194) at_189 (by decide) (by decide) ?_
      refine g_istore cx o (pc' := 196) (l' := #[.val (.int p0), .val (.int p1), .val (.int p2), .val (.long p3), .second, .val (.long p4), .second, .val (.int p5), .val (.int cp), .val (.int s1), .val (.int s2), .val (.long e1), .second, .val (.long e2), .second, .val (.int (0 : Int32)), .val (.int (1 : Int32)), .val (.int (2 : Int32)), .val (.ref kr), .val (.long pq), .second, .val (.long qq), .second, .val (.int (1 : Int32)), .val (.int s2), .val (.int s1), .unset, .unset, .unset, .unset]) at_194 rfl rfl ?_
      refine g_iload cx o (pc' := 198) at_196 rfl rfl ?_
      refine g_iload cx o (pc' := 200) at_198 rfl rfl ?_
      have sq : (h2.toInt ≤ cp.toInt ∧ (cp.toInt ≤ s2.toInt ∨ s1.toInt + s2.toInt ≤ cp.toInt)) ∨ (h2.toInt = s1.toInt + s2.toInt ∧ cp.toInt < s1.toInt + s2.toInt ∧ s2.toInt < cp.toInt ∧ y0 = s1) := sp.elim (fun q => q.2) (fun q => absurd fP q.1)
      refine g_icmp_ge cx o (pc' := 230) (pc2 := 203) at_200 (by decide) (by decide) rfl (fun c200 => ?_) (fun c200 => ?_)
      · have c : ¬ _ := fun z => c200 (Int32.lt_iff_toInt_lt.mpr z)
        have hc : h2.toInt ≤ cp.toInt := by
          rcases sq with q | q
          · exact q.1
          · exact absurd q (fun q => c q.2.2.1)
        refine g_dconst1 cx o (pc' := 231) at_230 rfl ?_
        refine g_dstoreV cx o (pc' := 233) (fun w' => #[.val (.int p0), .val (.int p1), .val (.int p2), .val (.long p3), .second, .val (.long p4), .second, .val (.int p5), .val (.int cp), .val (.int s1), .val (.int s2), .val (.long e1), .second, .val (.long e2), .second, .val (.int (0 : Int32)), .val (.int (1 : Int32)), .val (.int (2 : Int32)), .val (.ref kr), .val (.long pq), .second, .val (.long qq), .second, .val (.int (1 : Int32)), .val (.int s2), .val (.int s1), .val (.double w'), .second, .unset, .unset]) at_231 rfl (fun _ => rfl) (fun f1 h_f1 => ?_)
        refine g_iload cx o (pc' := 235) at_233 rfl rfl ?_
        refine g_if_ne cx o (pc' := 243) (pc2 := 238) at_235 (by decide) (by decide) rfl (fun c235 => ?_) (fun c235 => ?_)
        · refine g_dconst1 cx o (pc' := 244) at_243 rfl ?_
          refine g_dstoreV cx o (pc' := 246) (fun w' => #[.val (.int p0), .val (.int p1), .val (.int p2), .val (.long p3), .second, .val (.long p4), .second, .val (.int p5), .val (.int cp), .val (.int s1), .val (.int s2), .val (.long e1), .second, .val (.long e2), .second, .val (.int (0 : Int32)), .val (.int (1 : Int32)), .val (.int (2 : Int32)), .val (.ref kr), .val (.long pq), .second, .val (.long qq), .second, .val (.int (1 : Int32)), .val (.int s2), .val (.int s1), .val (.double f1), .second, .val (.double w'), .second]) at_244 rfl (fun _ => rfl) (fun f2 h_f2 => ?_)
          refine g_aload cx o (pc' := 248) at_246 rfl rfl rfl ?_
          refine g_iconst cx o (pc' := 249) (0 : Int32) at_248 rfl rfl ?_
          refine g_virtual cx o (pc' := 252) (y := (⟨"com/example/cachesmith/cachesmith/solver/Knapsack", "share", "(I)D"⟩ : MethodName)) (z := (⟨"com/example/cachesmith/cachesmith/solver/Knapsack", "share", "(I)D"⟩ : MethodName)) (hw _ (List.mem_of_getElem? (i := 42) rfl)) (hw _ (List.mem_of_getElem? (i := 43) rfl)) (notFace_of_selects (args := #[]) (mvT cx.2.1 (hw _ (List.mem_of_getElem? (i := 45) rfl)))) (hw _ (List.mem_of_getElem? (i := 45) rfl)) (hw _ (List.mem_of_getElem? (i := 44) rfl)) (hw _ (List.mem_of_getElem? (i := 8) rfl)) (hw _ (List.mem_of_getElem? (i := 46) rfl)) 3 rfl (rmSh l Z a0 hw er sr vr kr cp _ _ _ _ _ _ _ _ _ _ _ _ _ _ _ _ _ (fun q => absurd q (by omega)))  rfl pd_6 rfl (by decide) rfl 0 (Nat.le_of_eq rfl) (by decide) (by decide) (by decide) (by decide) at_249 rfl (fun T v L hQ o => ?_)
          obtain ⟨d1, rfl, kd1, rfl⟩ := hQ
          simp only [Option.toList_some, Option.toList_none, List.cons_append, List.nil_append]
          have ed1 : d1 = FP.dconst1 := kd1.elim (fun q => absurd q.2.1 (by omega)) (fun q => q.2)
          subst ed1
          refine g_dload cx o (pc' := 254) at_252 rfl rfl ?_
          refine g_dcmp cx o (pc' := 255) at_254 rfl ?_
          refine g_if_ne cx o (pc' := 275) (pc2 := 258) at_255 (by decide) (by decide) rfl (fun c255 => absurd (by first | exact dcmpV_self oR.one.nn _ | (rw [h_f1]; exact dcmpV_self oR.one.nn _) | (rw [h_f2]; exact dcmpV_self oR.one.nn _)) c255) (fun c255 => ?_)
          refine g_aload cx o (pc' := 260) at_258 rfl rfl rfl ?_
          refine g_iload cx o (pc' := 262) at_260 rfl rfl ?_
          refine g_virtual cx o (pc' := 265) (y := (⟨"com/example/cachesmith/cachesmith/solver/Knapsack", "share", "(I)D"⟩ : MethodName)) (z := (⟨"com/example/cachesmith/cachesmith/solver/Knapsack", "share", "(I)D"⟩ : MethodName)) (hw _ (List.mem_of_getElem? (i := 42) rfl)) (hw _ (List.mem_of_getElem? (i := 43) rfl)) (notFace_of_selects (args := #[]) (mvT cx.2.1 (hw _ (List.mem_of_getElem? (i := 45) rfl)))) (hw _ (List.mem_of_getElem? (i := 45) rfl)) (hw _ (List.mem_of_getElem? (i := 44) rfl)) (hw _ (List.mem_of_getElem? (i := 8) rfl)) (hw _ (List.mem_of_getElem? (i := 46) rfl)) 3 rfl (rmSh l Z a0 hw er sr vr kr cp _ _ _ _ _ _ _ _ _ _ _ _ _ _ _ _ _ (fun q => absurd q (by omega)))  rfl pd_6 rfl (by decide) rfl 0 (Nat.le_of_eq rfl) (by decide) (by decide) (by decide) (by decide) at_262 rfl (fun T v L hQ o => ?_)
          obtain ⟨d2, rfl, kd2, rfl⟩ := hQ
          simp only [Option.toList_some, Option.toList_none, List.cons_append, List.nil_append]
          have ed2 : d2 = FP.dconst1 := kd2.elim (fun q => absurd q.2.1 (by omega)) (fun q => q.2)
          subst ed2
          refine g_dload cx o (pc' := 267) at_265 rfl rfl ?_
          refine g_dcmp cx o (pc' := 268) at_267 rfl ?_
          refine g_if_ne cx o (pc' := 275) (pc2 := 271) at_268 (by decide) (by decide) rfl (fun c268 => absurd (by first | exact dcmpV_self oR.one.nn _ | (rw [h_f1]; exact dcmpV_self oR.one.nn _) | (rw [h_f2]; exact dcmpV_self oR.one.nn _)) c268) (fun c268 => ?_)
          refine g_iconst cx o (pc' := 272) (1 : Int32) at_271 rfl rfl ?_
          refine g_goto cx o (pc' := 276) at_272 (by decide) (by decide) ?_
          exact g_ireturnZ cx o at_276 (by decide) (by decide) (by decide) rfl
        · refine g_dload cx o (pc' := 240) at_238 rfl rfl ?_
          refine g_goto cx o (pc' := 244) at_240 (by decide) (by decide) ?_
          refine g_dstore cx o (pc' := 246) (l' := #[.val (.int p0), .val (.int p1), .val (.int p2), .val (.long p3), .second, .val (.long p4), .second, .val (.int p5), .val (.int cp), .val (.int s1), .val (.int s2), .val (.long e1), .second, .val (.long e2), .second, .val (.int (0 : Int32)), .val (.int (1 : Int32)), .val (.int (2 : Int32)), .val (.ref kr), .val (.long pq), .second, .val (.long qq), .second, .val (.int (1 : Int32)), .val (.int s2), .val (.int s1), .val (.double f1), .second, .val (.double f1), .second]) at_244 rfl rfl ?_
          refine g_aload cx o (pc' := 248) at_246 rfl rfl rfl ?_
          refine g_iconst cx o (pc' := 249) (0 : Int32) at_248 rfl rfl ?_
          refine g_virtual cx o (pc' := 252) (y := (⟨"com/example/cachesmith/cachesmith/solver/Knapsack", "share", "(I)D"⟩ : MethodName)) (z := (⟨"com/example/cachesmith/cachesmith/solver/Knapsack", "share", "(I)D"⟩ : MethodName)) (hw _ (List.mem_of_getElem? (i := 42) rfl)) (hw _ (List.mem_of_getElem? (i := 43) rfl)) (notFace_of_selects (args := #[]) (mvT cx.2.1 (hw _ (List.mem_of_getElem? (i := 45) rfl)))) (hw _ (List.mem_of_getElem? (i := 45) rfl)) (hw _ (List.mem_of_getElem? (i := 44) rfl)) (hw _ (List.mem_of_getElem? (i := 8) rfl)) (hw _ (List.mem_of_getElem? (i := 46) rfl)) 3 rfl (rmSh l Z a0 hw er sr vr kr cp _ _ _ _ _ _ _ _ _ _ _ _ _ _ _ _ _ (fun q => absurd q (by omega)))  rfl pd_6 rfl (by decide) rfl 0 (Nat.le_of_eq rfl) (by decide) (by decide) (by decide) (by decide) at_249 rfl (fun T v L hQ o => ?_)
          obtain ⟨d1, rfl, kd1, rfl⟩ := hQ
          simp only [Option.toList_some, Option.toList_none, List.cons_append, List.nil_append]
          have ed1 : d1 = FP.dconst1 := kd1.elim (fun q => absurd q.2.1 (by omega)) (fun q => q.2)
          subst ed1
          refine g_dload cx o (pc' := 254) at_252 rfl rfl ?_
          refine g_dcmp cx o (pc' := 255) at_254 rfl ?_
          refine g_if_ne cx o (pc' := 275) (pc2 := 258) at_255 (by decide) (by decide) rfl (fun c255 => absurd (by first | exact dcmpV_self oR.one.nn _ | (rw [h_f1]; exact dcmpV_self oR.one.nn _) | (rw [h_f2]; exact dcmpV_self oR.one.nn _)) c255) (fun c255 => ?_)
          refine g_aload cx o (pc' := 260) at_258 rfl rfl rfl ?_
          refine g_iload cx o (pc' := 262) at_260 rfl rfl ?_
          refine g_virtual cx o (pc' := 265) (y := (⟨"com/example/cachesmith/cachesmith/solver/Knapsack", "share", "(I)D"⟩ : MethodName)) (z := (⟨"com/example/cachesmith/cachesmith/solver/Knapsack", "share", "(I)D"⟩ : MethodName)) (hw _ (List.mem_of_getElem? (i := 42) rfl)) (hw _ (List.mem_of_getElem? (i := 43) rfl)) (notFace_of_selects (args := #[]) (mvT cx.2.1 (hw _ (List.mem_of_getElem? (i := 45) rfl)))) (hw _ (List.mem_of_getElem? (i := 45) rfl)) (hw _ (List.mem_of_getElem? (i := 44) rfl)) (hw _ (List.mem_of_getElem? (i := 8) rfl)) (hw _ (List.mem_of_getElem? (i := 46) rfl)) 3 rfl (rmSh l Z a0 hw er sr vr kr cp _ _ _ _ _ _ _ _ _ _ _ _ _ _ _ _ _ (fun q => absurd q (by omega)))  rfl pd_6 rfl (by decide) rfl 0 (Nat.le_of_eq rfl) (by decide) (by decide) (by decide) (by decide) at_262 rfl (fun T v L hQ o => ?_)
          obtain ⟨d2, rfl, kd2, rfl⟩ := hQ
          simp only [Option.toList_some, Option.toList_none, List.cons_append, List.nil_append]
          have ed2 : d2 = FP.dconst1 := kd2.elim (fun q => absurd q.2.1 (by omega)) (fun q => q.2)
          subst ed2
          refine g_dload cx o (pc' := 267) at_265 rfl rfl ?_
          refine g_dcmp cx o (pc' := 268) at_267 rfl ?_
          refine g_if_ne cx o (pc' := 275) (pc2 := 271) at_268 (by decide) (by decide) rfl (fun c268 => absurd (by first | exact dcmpV_self oR.one.nn _ | (rw [h_f1]; exact dcmpV_self oR.one.nn _) | (rw [h_f2]; exact dcmpV_self oR.one.nn _)) c268) (fun c268 => ?_)
          refine g_iconst cx o (pc' := 272) (1 : Int32) at_271 rfl rfl ?_
          refine g_goto cx o (pc' := 276) at_272 (by decide) (by decide) ?_
          exact g_ireturnZ cx o at_276 (by decide) (by decide) (by decide) rfl
      · have c200 := Int32.lt_iff_toInt_lt.mp c200
        refine g_iload cx o (pc' := 205) at_203 rfl rfl ?_
        refine g_i2l cx o (pc' := 206) at_205 rfl ?_
        refine g_iload cx o (pc' := 208) at_206 rfl rfl ?_
        refine g_i2l cx o (pc' := 209) at_208 rfl ?_
        refine g_ladd cx o (pc' := 210) at_209 rfl ?_
        refine g_iload cx o (pc' := 212) at_210 rfl rfl ?_
        refine g_i2l cx o (pc' := 213) at_212 rfl ?_
        refine g_lcmp cx o (pc' := 214) at_213 rfl ?_
        have ka : (s1.toInt64 + s2.toInt64).toInt = s1.toInt + s2.toInt := by rw [Jvm.Kit.i64_add (by rw [j1, j2]; omega) (by rw [j1, j2]; omega), j1, j2]
        refine g_if_le cx o (pc' := 230) (pc2 := 217) at_214 (by decide) (by decide) rfl (fun c214 => ?_) (fun c214 => ?_)
        · have c : ¬ _ := fun z => c214 ((o_cmpL _ _).mpr z)
          rw [ka, jc] at c
          have hc : h2.toInt ≤ cp.toInt := by
            rcases sq with q | q
            · exact q.1
            · exact absurd q (fun q => c (by omega))
          refine g_dconst1 cx o (pc' := 231) at_230 rfl ?_
          refine g_dstoreV cx o (pc' := 233) (fun w' => #[.val (.int p0), .val (.int p1), .val (.int p2), .val (.long p3), .second, .val (.long p4), .second, .val (.int p5), .val (.int cp), .val (.int s1), .val (.int s2), .val (.long e1), .second, .val (.long e2), .second, .val (.int (0 : Int32)), .val (.int (1 : Int32)), .val (.int (2 : Int32)), .val (.ref kr), .val (.long pq), .second, .val (.long qq), .second, .val (.int (1 : Int32)), .val (.int s2), .val (.int s1), .val (.double w'), .second, .unset, .unset]) at_231 rfl (fun _ => rfl) (fun f1 h_f1 => ?_)
          refine g_iload cx o (pc' := 235) at_233 rfl rfl ?_
          refine g_if_ne cx o (pc' := 243) (pc2 := 238) at_235 (by decide) (by decide) rfl (fun c235 => ?_) (fun c235 => ?_)
          · refine g_dconst1 cx o (pc' := 244) at_243 rfl ?_
            refine g_dstoreV cx o (pc' := 246) (fun w' => #[.val (.int p0), .val (.int p1), .val (.int p2), .val (.long p3), .second, .val (.long p4), .second, .val (.int p5), .val (.int cp), .val (.int s1), .val (.int s2), .val (.long e1), .second, .val (.long e2), .second, .val (.int (0 : Int32)), .val (.int (1 : Int32)), .val (.int (2 : Int32)), .val (.ref kr), .val (.long pq), .second, .val (.long qq), .second, .val (.int (1 : Int32)), .val (.int s2), .val (.int s1), .val (.double f1), .second, .val (.double w'), .second]) at_244 rfl (fun _ => rfl) (fun f2 h_f2 => ?_)
            refine g_aload cx o (pc' := 248) at_246 rfl rfl rfl ?_
            refine g_iconst cx o (pc' := 249) (0 : Int32) at_248 rfl rfl ?_
            refine g_virtual cx o (pc' := 252) (y := (⟨"com/example/cachesmith/cachesmith/solver/Knapsack", "share", "(I)D"⟩ : MethodName)) (z := (⟨"com/example/cachesmith/cachesmith/solver/Knapsack", "share", "(I)D"⟩ : MethodName)) (hw _ (List.mem_of_getElem? (i := 42) rfl)) (hw _ (List.mem_of_getElem? (i := 43) rfl)) (notFace_of_selects (args := #[]) (mvT cx.2.1 (hw _ (List.mem_of_getElem? (i := 45) rfl)))) (hw _ (List.mem_of_getElem? (i := 45) rfl)) (hw _ (List.mem_of_getElem? (i := 44) rfl)) (hw _ (List.mem_of_getElem? (i := 8) rfl)) (hw _ (List.mem_of_getElem? (i := 46) rfl)) 3 rfl (rmSh l Z a0 hw er sr vr kr cp _ _ _ _ _ _ _ _ _ _ _ _ _ _ _ _ _ (fun q => absurd q (by omega)))  rfl pd_6 rfl (by decide) rfl 0 (Nat.le_of_eq rfl) (by decide) (by decide) (by decide) (by decide) at_249 rfl (fun T v L hQ o => ?_)
            obtain ⟨d1, rfl, kd1, rfl⟩ := hQ
            simp only [Option.toList_some, Option.toList_none, List.cons_append, List.nil_append]
            have ed1 : d1 = FP.dconst1 := kd1.elim (fun q => absurd q.2.1 (by omega)) (fun q => q.2)
            subst ed1
            refine g_dload cx o (pc' := 254) at_252 rfl rfl ?_
            refine g_dcmp cx o (pc' := 255) at_254 rfl ?_
            refine g_if_ne cx o (pc' := 275) (pc2 := 258) at_255 (by decide) (by decide) rfl (fun c255 => absurd (by first | exact dcmpV_self oR.one.nn _ | (rw [h_f1]; exact dcmpV_self oR.one.nn _) | (rw [h_f2]; exact dcmpV_self oR.one.nn _)) c255) (fun c255 => ?_)
            refine g_aload cx o (pc' := 260) at_258 rfl rfl rfl ?_
            refine g_iload cx o (pc' := 262) at_260 rfl rfl ?_
            refine g_virtual cx o (pc' := 265) (y := (⟨"com/example/cachesmith/cachesmith/solver/Knapsack", "share", "(I)D"⟩ : MethodName)) (z := (⟨"com/example/cachesmith/cachesmith/solver/Knapsack", "share", "(I)D"⟩ : MethodName)) (hw _ (List.mem_of_getElem? (i := 42) rfl)) (hw _ (List.mem_of_getElem? (i := 43) rfl)) (notFace_of_selects (args := #[]) (mvT cx.2.1 (hw _ (List.mem_of_getElem? (i := 45) rfl)))) (hw _ (List.mem_of_getElem? (i := 45) rfl)) (hw _ (List.mem_of_getElem? (i := 44) rfl)) (hw _ (List.mem_of_getElem? (i := 8) rfl)) (hw _ (List.mem_of_getElem? (i := 46) rfl)) 3 rfl (rmSh l Z a0 hw er sr vr kr cp _ _ _ _ _ _ _ _ _ _ _ _ _ _ _ _ _ (fun q => absurd q (by omega)))  rfl pd_6 rfl (by decide) rfl 0 (Nat.le_of_eq rfl) (by decide) (by decide) (by decide) (by decide) at_262 rfl (fun T v L hQ o => ?_)
            obtain ⟨d2, rfl, kd2, rfl⟩ := hQ
            simp only [Option.toList_some, Option.toList_none, List.cons_append, List.nil_append]
            have ed2 : d2 = FP.dconst1 := kd2.elim (fun q => absurd q.2.1 (by omega)) (fun q => q.2)
            subst ed2
            refine g_dload cx o (pc' := 267) at_265 rfl rfl ?_
            refine g_dcmp cx o (pc' := 268) at_267 rfl ?_
            refine g_if_ne cx o (pc' := 275) (pc2 := 271) at_268 (by decide) (by decide) rfl (fun c268 => absurd (by first | exact dcmpV_self oR.one.nn _ | (rw [h_f1]; exact dcmpV_self oR.one.nn _) | (rw [h_f2]; exact dcmpV_self oR.one.nn _)) c268) (fun c268 => ?_)
            refine g_iconst cx o (pc' := 272) (1 : Int32) at_271 rfl rfl ?_
            refine g_goto cx o (pc' := 276) at_272 (by decide) (by decide) ?_
            exact g_ireturnZ cx o at_276 (by decide) (by decide) (by decide) rfl
          · refine g_dload cx o (pc' := 240) at_238 rfl rfl ?_
            refine g_goto cx o (pc' := 244) at_240 (by decide) (by decide) ?_
            refine g_dstore cx o (pc' := 246) (l' := #[.val (.int p0), .val (.int p1), .val (.int p2), .val (.long p3), .second, .val (.long p4), .second, .val (.int p5), .val (.int cp), .val (.int s1), .val (.int s2), .val (.long e1), .second, .val (.long e2), .second, .val (.int (0 : Int32)), .val (.int (1 : Int32)), .val (.int (2 : Int32)), .val (.ref kr), .val (.long pq), .second, .val (.long qq), .second, .val (.int (1 : Int32)), .val (.int s2), .val (.int s1), .val (.double f1), .second, .val (.double f1), .second]) at_244 rfl rfl ?_
            refine g_aload cx o (pc' := 248) at_246 rfl rfl rfl ?_
            refine g_iconst cx o (pc' := 249) (0 : Int32) at_248 rfl rfl ?_
            refine g_virtual cx o (pc' := 252) (y := (⟨"com/example/cachesmith/cachesmith/solver/Knapsack", "share", "(I)D"⟩ : MethodName)) (z := (⟨"com/example/cachesmith/cachesmith/solver/Knapsack", "share", "(I)D"⟩ : MethodName)) (hw _ (List.mem_of_getElem? (i := 42) rfl)) (hw _ (List.mem_of_getElem? (i := 43) rfl)) (notFace_of_selects (args := #[]) (mvT cx.2.1 (hw _ (List.mem_of_getElem? (i := 45) rfl)))) (hw _ (List.mem_of_getElem? (i := 45) rfl)) (hw _ (List.mem_of_getElem? (i := 44) rfl)) (hw _ (List.mem_of_getElem? (i := 8) rfl)) (hw _ (List.mem_of_getElem? (i := 46) rfl)) 3 rfl (rmSh l Z a0 hw er sr vr kr cp _ _ _ _ _ _ _ _ _ _ _ _ _ _ _ _ _ (fun q => absurd q (by omega)))  rfl pd_6 rfl (by decide) rfl 0 (Nat.le_of_eq rfl) (by decide) (by decide) (by decide) (by decide) at_249 rfl (fun T v L hQ o => ?_)
            obtain ⟨d1, rfl, kd1, rfl⟩ := hQ
            simp only [Option.toList_some, Option.toList_none, List.cons_append, List.nil_append]
            have ed1 : d1 = FP.dconst1 := kd1.elim (fun q => absurd q.2.1 (by omega)) (fun q => q.2)
            subst ed1
            refine g_dload cx o (pc' := 254) at_252 rfl rfl ?_
            refine g_dcmp cx o (pc' := 255) at_254 rfl ?_
            refine g_if_ne cx o (pc' := 275) (pc2 := 258) at_255 (by decide) (by decide) rfl (fun c255 => absurd (by first | exact dcmpV_self oR.one.nn _ | (rw [h_f1]; exact dcmpV_self oR.one.nn _) | (rw [h_f2]; exact dcmpV_self oR.one.nn _)) c255) (fun c255 => ?_)
            refine g_aload cx o (pc' := 260) at_258 rfl rfl rfl ?_
            refine g_iload cx o (pc' := 262) at_260 rfl rfl ?_
            refine g_virtual cx o (pc' := 265) (y := (⟨"com/example/cachesmith/cachesmith/solver/Knapsack", "share", "(I)D"⟩ : MethodName)) (z := (⟨"com/example/cachesmith/cachesmith/solver/Knapsack", "share", "(I)D"⟩ : MethodName)) (hw _ (List.mem_of_getElem? (i := 42) rfl)) (hw _ (List.mem_of_getElem? (i := 43) rfl)) (notFace_of_selects (args := #[]) (mvT cx.2.1 (hw _ (List.mem_of_getElem? (i := 45) rfl)))) (hw _ (List.mem_of_getElem? (i := 45) rfl)) (hw _ (List.mem_of_getElem? (i := 44) rfl)) (hw _ (List.mem_of_getElem? (i := 8) rfl)) (hw _ (List.mem_of_getElem? (i := 46) rfl)) 3 rfl (rmSh l Z a0 hw er sr vr kr cp _ _ _ _ _ _ _ _ _ _ _ _ _ _ _ _ _ (fun q => absurd q (by omega)))  rfl pd_6 rfl (by decide) rfl 0 (Nat.le_of_eq rfl) (by decide) (by decide) (by decide) (by decide) at_262 rfl (fun T v L hQ o => ?_)
            obtain ⟨d2, rfl, kd2, rfl⟩ := hQ
            simp only [Option.toList_some, Option.toList_none, List.cons_append, List.nil_append]
            have ed2 : d2 = FP.dconst1 := kd2.elim (fun q => absurd q.2.1 (by omega)) (fun q => q.2)
            subst ed2
            refine g_dload cx o (pc' := 267) at_265 rfl rfl ?_
            refine g_dcmp cx o (pc' := 268) at_267 rfl ?_
            refine g_if_ne cx o (pc' := 275) (pc2 := 271) at_268 (by decide) (by decide) rfl (fun c268 => absurd (by first | exact dcmpV_self oR.one.nn _ | (rw [h_f1]; exact dcmpV_self oR.one.nn _) | (rw [h_f2]; exact dcmpV_self oR.one.nn _)) c268) (fun c268 => ?_)
            refine g_iconst cx o (pc' := 272) (1 : Int32) at_271 rfl rfl ?_
            refine g_goto cx o (pc' := 276) at_272 (by decide) (by decide) ?_
            exact g_ireturnZ cx o at_276 (by decide) (by decide) (by decide) rfl
        · have c := (o_cmpL _ _).mp c214
          rw [ka, jc] at c
          have hc : h2.toInt = s1.toInt + s2.toInt ∧ y0 = s1 := by
            rcases sq with q | q
            · exact absurd q (fun q => by omega)
            · exact ⟨q.1, q.2.2.2⟩
          obtain ⟨hc, ey⟩ := hc
          have ki : (cp - s2).toInt = cp.toInt - s2.toInt := by rw [Jvm.Kit.i32_sub (by omega) (by omega)]
          have Ri := o_i2dN (x := cp - s2) (by omega)
          have Rm := o_i2dN (x := s1) (by omega)
          have kj : (h2 - y0.toInt64).toInt = s2.toInt := by rw [ey, Jvm.Kit.i64_sub (by rw [j1]; omega) (by rw [j1]; omega), j1]; omega
          have kl2 : (cp.toInt64 - (h2 - y0.toInt64)).toInt = cp.toInt - s2.toInt := by rw [Jvm.Kit.i64_sub (by rw [kj, jc]; omega) (by rw [kj, jc]; omega), kj, jc]
          have Rl := o_l2dN (x := cp.toInt64 - (h2 - y0.toInt64)) (by omega)
          have Ry : oR ((s1.toInt.toNat : Nat) : Int) 0 (FP.i2d y0) := by rw [ey]; exact Rm
          have nA : NoNaN64 (FP.ddiv (FP.i2d (cp - s2)) (FP.i2d s1)) := o_div_nn Ri Rm (by omega)
          have nB : NoNaN64 (FP.ddiv (FP.l2d (cp.toInt64 - (h2 - y0.toInt64))) (FP.i2d y0)) := o_div_nn Rl Ry (by omega)
          have eqz : oz (FP.ddiv (FP.l2d (cp.toInt64 - (h2 - y0.toInt64))) (FP.i2d y0)) = oz (FP.ddiv (FP.i2d (cp - s2)) (FP.i2d s1)) := by
            have zi := Ri.z (by decide)
            have zm := Rm.z (by decide)
            have zl := Rl.z (by decide)
            have zy := Ry.z (by decide)
            rw [kl2] at zl
            rw [ki] at zi
            have pp := o_pow_pos (1074 - 0)
            have pm : (0 : Int) < ((s1.toInt.toNat : Nat) : Int) := by omega
            refine o_div_same Rl.1 Ry.1 Ri.1 Rm.1 (by rw [zy]; exact Int.mul_pos pm pp) (by rw [zm]; exact Int.mul_pos pm pp) (by rw [zl]; exact Int.mul_nonneg (Int.natCast_nonneg _) (Int.natCast_nonneg _)) (by rw [zi]; exact Int.mul_nonneg (Int.natCast_nonneg _) (Int.natCast_nonneg _)) (by rw [zl, zy, zi, zm])
          have cq : cmpValue (FP.dcmp (FP.ddiv (FP.l2d (cp.toInt64 - (h2 - y0.toInt64))) (FP.i2d y0)) (FP.ddiv (FP.i2d (cp - s2)) (FP.i2d s1))) .l = 0 := by rw [o_cvz nB nA, if_neg (by omega), if_pos eqz]
          refine g_iload cx o (pc' := 219) at_217 rfl rfl ?_
          refine g_iload cx o (pc' := 221) at_219 rfl rfl ?_
          refine g_isub cx o (pc' := 222) at_221 rfl ?_
          refine g_i2d cx o (pc' := 223) at_222 rfl ?_
          refine g_iload cx o (pc' := 225) at_223 rfl rfl ?_
          refine g_i2d cx o (pc' := 226) at_225 rfl ?_
          refine g_ddiv cx o (pc' := 227) at_226 rfl nA ?_
          refine g_goto cx o (pc' := 231) at_227 (by decide) (by decide) ?_
          refine g_dstoreV cx o (pc' := 233) (fun w' => #[.val (.int p0), .val (.int p1), .val (.int p2), .val (.long p3), .second, .val (.long p4), .second, .val (.int p5), .val (.int cp), .val (.int s1), .val (.int s2), .val (.long e1), .second, .val (.long e2), .second, .val (.int (0 : Int32)), .val (.int (1 : Int32)), .val (.int (2 : Int32)), .val (.ref kr), .val (.long pq), .second, .val (.long qq), .second, .val (.int (1 : Int32)), .val (.int s2), .val (.int s1), .val (.double w'), .second, .unset, .unset]) at_231 rfl (fun _ => rfl) (fun ex h_ex => ?_)
          refine g_iload cx o (pc' := 235) at_233 rfl rfl ?_
          refine g_if_ne cx o (pc' := 243) (pc2 := 238) at_235 (by decide) (by decide) rfl (fun c235 => ?_) (fun c235 => ?_)
          · refine g_dconst1 cx o (pc' := 244) at_243 rfl ?_
            refine g_dstoreV cx o (pc' := 246) (fun w' => #[.val (.int p0), .val (.int p1), .val (.int p2), .val (.long p3), .second, .val (.long p4), .second, .val (.int p5), .val (.int cp), .val (.int s1), .val (.int s2), .val (.long e1), .second, .val (.long e2), .second, .val (.int (0 : Int32)), .val (.int (1 : Int32)), .val (.int (2 : Int32)), .val (.ref kr), .val (.long pq), .second, .val (.long qq), .second, .val (.int (1 : Int32)), .val (.int s2), .val (.int s1), .val (.double ex), .second, .val (.double w'), .second]) at_244 rfl (fun _ => rfl) (fun f1 h_f1 => ?_)
            refine g_aload cx o (pc' := 248) at_246 rfl rfl rfl ?_
            refine g_iconst cx o (pc' := 249) (0 : Int32) at_248 rfl rfl ?_
            refine g_virtual cx o (pc' := 252) (y := (⟨"com/example/cachesmith/cachesmith/solver/Knapsack", "share", "(I)D"⟩ : MethodName)) (z := (⟨"com/example/cachesmith/cachesmith/solver/Knapsack", "share", "(I)D"⟩ : MethodName)) (hw _ (List.mem_of_getElem? (i := 42) rfl)) (hw _ (List.mem_of_getElem? (i := 43) rfl)) (notFace_of_selects (args := #[]) (mvT cx.2.1 (hw _ (List.mem_of_getElem? (i := 45) rfl)))) (hw _ (List.mem_of_getElem? (i := 45) rfl)) (hw _ (List.mem_of_getElem? (i := 44) rfl)) (hw _ (List.mem_of_getElem? (i := 8) rfl)) (hw _ (List.mem_of_getElem? (i := 46) rfl)) 3 rfl (rmSh l Z a0 hw er sr vr kr cp _ _ _ _ _ _ _ _ _ _ _ _ _ _ _ _ _ (fun _ => nB))  rfl pd_6 rfl (by decide) rfl 0 (Nat.le_of_eq rfl) (by decide) (by decide) (by decide) (by decide) at_249 rfl (fun T v L hQ o => ?_)
            obtain ⟨d1, rfl, kd1, rfl⟩ := hQ
            simp only [Option.toList_some, Option.toList_none, List.cons_append, List.nil_append]
            have ed1 := kd1.elim (fun q => q.2.2) (fun q => q.1.elim (fun z => absurd rfl z) (fun z => absurd z (by omega)))
            rw [← ed1, ← h_ex] at cq
            refine g_dload cx o (pc' := 254) at_252 rfl rfl ?_
            refine g_dcmp cx o (pc' := 255) at_254 rfl ?_
            refine g_if_ne cx o (pc' := 275) (pc2 := 258) at_255 (by decide) (by decide) rfl (fun c255 => absurd cq c255) (fun c255 => ?_)
            refine g_aload cx o (pc' := 260) at_258 rfl rfl rfl ?_
            refine g_iload cx o (pc' := 262) at_260 rfl rfl ?_
            refine g_virtual cx o (pc' := 265) (y := (⟨"com/example/cachesmith/cachesmith/solver/Knapsack", "share", "(I)D"⟩ : MethodName)) (z := (⟨"com/example/cachesmith/cachesmith/solver/Knapsack", "share", "(I)D"⟩ : MethodName)) (hw _ (List.mem_of_getElem? (i := 42) rfl)) (hw _ (List.mem_of_getElem? (i := 43) rfl)) (notFace_of_selects (args := #[]) (mvT cx.2.1 (hw _ (List.mem_of_getElem? (i := 45) rfl)))) (hw _ (List.mem_of_getElem? (i := 45) rfl)) (hw _ (List.mem_of_getElem? (i := 44) rfl)) (hw _ (List.mem_of_getElem? (i := 8) rfl)) (hw _ (List.mem_of_getElem? (i := 46) rfl)) 3 rfl (rmSh l Z a0 hw er sr vr kr cp _ _ _ _ _ _ _ _ _ _ _ _ _ _ _ _ _ (fun _ => nB))  rfl pd_6 rfl (by decide) rfl 0 (Nat.le_of_eq rfl) (by decide) (by decide) (by decide) (by decide) at_262 rfl (fun T v L hQ o => ?_)
            obtain ⟨d2, rfl, kd2, rfl⟩ := hQ
            simp only [Option.toList_some, Option.toList_none, List.cons_append, List.nil_append]
            have ed2 : d2 = FP.dconst1 := kd2.elim (fun q => absurd q.1 c235) (fun q => q.2)
            subst ed2
            refine g_dload cx o (pc' := 267) at_265 rfl rfl ?_
            refine g_dcmp cx o (pc' := 268) at_267 rfl ?_
            refine g_if_ne cx o (pc' := 275) (pc2 := 271) at_268 (by decide) (by decide) rfl (fun c268 => absurd (by first | exact dcmpV_self oR.one.nn _ | (rw [h_f1]; exact dcmpV_self oR.one.nn _) | (rw [h_f2]; exact dcmpV_self oR.one.nn _)) c268) (fun c268 => ?_)
            refine g_iconst cx o (pc' := 272) (1 : Int32) at_271 rfl rfl ?_
            refine g_goto cx o (pc' := 276) at_272 (by decide) (by decide) ?_
            exact g_ireturnZ cx o at_276 (by decide) (by decide) (by decide) rfl
          · refine g_dload cx o (pc' := 240) at_238 rfl rfl ?_
            refine g_goto cx o (pc' := 244) at_240 (by decide) (by decide) ?_
            refine g_dstore cx o (pc' := 246) (l' := #[.val (.int p0), .val (.int p1), .val (.int p2), .val (.long p3), .second, .val (.long p4), .second, .val (.int p5), .val (.int cp), .val (.int s1), .val (.int s2), .val (.long e1), .second, .val (.long e2), .second, .val (.int (0 : Int32)), .val (.int (1 : Int32)), .val (.int (2 : Int32)), .val (.ref kr), .val (.long pq), .second, .val (.long qq), .second, .val (.int (1 : Int32)), .val (.int s2), .val (.int s1), .val (.double ex), .second, .val (.double ex), .second]) at_244 rfl rfl ?_
            refine g_aload cx o (pc' := 248) at_246 rfl rfl rfl ?_
            refine g_iconst cx o (pc' := 249) (0 : Int32) at_248 rfl rfl ?_
            refine g_virtual cx o (pc' := 252) (y := (⟨"com/example/cachesmith/cachesmith/solver/Knapsack", "share", "(I)D"⟩ : MethodName)) (z := (⟨"com/example/cachesmith/cachesmith/solver/Knapsack", "share", "(I)D"⟩ : MethodName)) (hw _ (List.mem_of_getElem? (i := 42) rfl)) (hw _ (List.mem_of_getElem? (i := 43) rfl)) (notFace_of_selects (args := #[]) (mvT cx.2.1 (hw _ (List.mem_of_getElem? (i := 45) rfl)))) (hw _ (List.mem_of_getElem? (i := 45) rfl)) (hw _ (List.mem_of_getElem? (i := 44) rfl)) (hw _ (List.mem_of_getElem? (i := 8) rfl)) (hw _ (List.mem_of_getElem? (i := 46) rfl)) 3 rfl (rmSh l Z a0 hw er sr vr kr cp _ _ _ _ _ _ _ _ _ _ _ _ _ _ _ _ _ (fun _ => nB))  rfl pd_6 rfl (by decide) rfl 0 (Nat.le_of_eq rfl) (by decide) (by decide) (by decide) (by decide) at_249 rfl (fun T v L hQ o => ?_)
            obtain ⟨d1, rfl, kd1, rfl⟩ := hQ
            simp only [Option.toList_some, Option.toList_none, List.cons_append, List.nil_append]
            have ed1 := kd1.elim (fun q => q.2.2) (fun q => q.1.elim (fun z => absurd rfl z) (fun z => absurd z (by omega)))
            rw [← ed1, ← h_ex] at cq
            refine g_dload cx o (pc' := 254) at_252 rfl rfl ?_
            refine g_dcmp cx o (pc' := 255) at_254 rfl ?_
            refine g_if_ne cx o (pc' := 275) (pc2 := 258) at_255 (by decide) (by decide) rfl (fun c255 => absurd cq c255) (fun c255 => ?_)
            refine g_aload cx o (pc' := 260) at_258 rfl rfl rfl ?_
            refine g_iload cx o (pc' := 262) at_260 rfl rfl ?_
            refine g_virtual cx o (pc' := 265) (y := (⟨"com/example/cachesmith/cachesmith/solver/Knapsack", "share", "(I)D"⟩ : MethodName)) (z := (⟨"com/example/cachesmith/cachesmith/solver/Knapsack", "share", "(I)D"⟩ : MethodName)) (hw _ (List.mem_of_getElem? (i := 42) rfl)) (hw _ (List.mem_of_getElem? (i := 43) rfl)) (notFace_of_selects (args := #[]) (mvT cx.2.1 (hw _ (List.mem_of_getElem? (i := 45) rfl)))) (hw _ (List.mem_of_getElem? (i := 45) rfl)) (hw _ (List.mem_of_getElem? (i := 44) rfl)) (hw _ (List.mem_of_getElem? (i := 8) rfl)) (hw _ (List.mem_of_getElem? (i := 46) rfl)) 3 rfl (rmSh l Z a0 hw er sr vr kr cp _ _ _ _ _ _ _ _ _ _ _ _ _ _ _ _ _ (fun _ => nB))  rfl pd_6 rfl (by decide) rfl 0 (Nat.le_of_eq rfl) (by decide) (by decide) (by decide) (by decide) at_262 rfl (fun T v L hQ o => ?_)
            obtain ⟨d2, rfl, kd2, rfl⟩ := hQ
            simp only [Option.toList_some, Option.toList_none, List.cons_append, List.nil_append]
            have ed2 : d2 = d1 := kd2.elim (fun q => q.2.2.trans ed1.symm) (fun q => q.1.elim (fun z => absurd c235 z) (fun z => absurd z (by omega)))
            subst ed2
            refine g_dload cx o (pc' := 267) at_265 rfl rfl ?_
            refine g_dcmp cx o (pc' := 268) at_267 rfl ?_
            refine g_if_ne cx o (pc' := 275) (pc2 := 271) at_268 (by decide) (by decide) rfl (fun c268 => absurd cq c268) (fun c268 => ?_)
            refine g_iconst cx o (pc' := 272) (1 : Int32) at_271 rfl rfl ?_
            refine g_goto cx o (pc' := 276) at_272 (by decide) (by decide) ?_
            exact g_ireturnZ cx o at_276 (by decide) (by decide) (by decide) rfl
    · have c : ¬ _ := fun z => c143 ((o_cmpL _ _).mpr z)
      rw [kp.1, kq.1] at c
      refine g_lload cx o (pc' := 148) at_146 rfl rfl ?_
      refine g_lload cx o (pc' := 150) at_148 rfl rfl ?_
      refine g_lcmp cx o (pc' := 151) at_150 rfl ?_
      refine g_if_ne cx o (pc' := 165) (pc2 := 154) at_151 (by decide) (by decide) rfl (fun c151 => ?_) (fun c151 => ?_)
      · have c2_ := fun z => c151 ((o_cmpL0 _ _).mpr z)
        rw [kp.1, kq.1] at c2_
        refine g_iconst cx o (pc' := 166) (0 : Int32) at_165 rfl rfl ?_
        refine g_istore cx o (pc' := 168) (l' := #[.val (.int p0), .val (.int p1), .val (.int p2), .val (.long p3), .second, .val (.long p4), .second, .val (.int p5), .val (.int cp), .val (.int s1), .val (.int s2), .val (.long e1), .second, .val (.long e2), .second, .val (.int (0 : Int32)), .val (.int (1 : Int32)), .val (.int (2 : Int32)), .val (.ref kr), .val (.long pq), .second, .val (.long qq), .second, .val (.int (0 : Int32)), .unset, .unset, .unset, .unset, .unset, .unset]) at_166 rfl rfl ?_
        refine g_iload cx o (pc' := 170) at_168 rfl rfl ?_
        have fP : ¬ oP e2.toInt s2.toInt ((2 : Int32)).toInt e1.toInt s1.toInt ((1 : Int32)).toInt := fun q => q.elim c (fun z => c2_ z.1)
        refine g_if_eq cx o (pc' := 178) (pc2 := 173) at_170 (by decide) (by decide) rfl (fun c170 => ?_) (fun c170 => absurd (by decide) c170)
        refine g_iload cx o (pc' := 180) at_178 rfl rfl ?_
        refine g_istore cx o (pc' := 182) (l' := #[.val (.int p0), .val (.int p1), .val (.int p2), .val (.long p3), .second, .val (.long p4), .second, .val (.int p5), .val (.int cp), .val (.int s1), .val (.int s2), .val (.long e1), .second, .val (.long e2), .second, .val (.int (0 : Int32)), .val (.int (1 : Int32)), .val (.int (2 : Int32)), .val (.ref kr), .val (.long pq), .second, .val (.long qq), .second, .val (.int (0 : Int32)), .val (.int s1), .unset, .unset, .unset, .unset, .unset]) at_180 rfl rfl ?_
        refine g_iload cx o (pc' := 184) at_182 rfl rfl ?_
        refine g_if_eq cx o (pc' := 192) (pc2 := 187) at_184 (by decide) (by decide) rfl (fun c184 => ?_) (fun c184 => absurd (by decide) c184)
        refine g_iload cx o (pc' := 194) at_192 rfl rfl ?_
        refine g_istore cx o (pc' := 196) (l' := #[.val (.int p0), .val (.int p1), .val (.int p2), .val (.long p3), .second, .val (.long p4), .second, .val (.int p5), .val (.int cp), .val (.int s1), .val (.int s2), .val (.long e1), .second, .val (.long e2), .second, .val (.int (0 : Int32)), .val (.int (1 : Int32)), .val (.int (2 : Int32)), .val (.ref kr), .val (.long pq), .second, .val (.long qq), .second, .val (.int (0 : Int32)), .val (.int s1), .val (.int s2), .unset, .unset, .unset, .unset]) at_194 rfl rfl ?_
        refine g_iload cx o (pc' := 198) at_196 rfl rfl ?_
        refine g_iload cx o (pc' := 200) at_198 rfl rfl ?_
        have sq : (h2.toInt ≤ cp.toInt ∧ (cp.toInt ≤ s1.toInt ∨ s1.toInt + s2.toInt ≤ cp.toInt)) ∨ (h2.toInt = s1.toInt + s2.toInt ∧ cp.toInt < s1.toInt + s2.toInt ∧ s1.toInt < cp.toInt ∧ y0 = s2) := sp.elim (fun q => absurd q.1 fP) (fun q => q.2)
        refine g_icmp_ge cx o (pc' := 230) (pc2 := 203) at_200 (by decide) (by decide) rfl (fun c200 => ?_) (fun c200 => ?_)
        · have c : ¬ _ := fun z => c200 (Int32.lt_iff_toInt_lt.mpr z)
          have hc : h2.toInt ≤ cp.toInt := by
            rcases sq with q | q
            · exact q.1
            · exact absurd q (fun q => c q.2.2.1)
          refine g_dconst1 cx o (pc' := 231) at_230 rfl ?_
          refine g_dstoreV cx o (pc' := 233) (fun w' => #[.val (.int p0), .val (.int p1), .val (.int p2), .val (.long p3), .second, .val (.long p4), .second, .val (.int p5), .val (.int cp), .val (.int s1), .val (.int s2), .val (.long e1), .second, .val (.long e2), .second, .val (.int (0 : Int32)), .val (.int (1 : Int32)), .val (.int (2 : Int32)), .val (.ref kr), .val (.long pq), .second, .val (.long qq), .second, .val (.int (0 : Int32)), .val (.int s1), .val (.int s2), .val (.double w'), .second, .unset, .unset]) at_231 rfl (fun _ => rfl) (fun f1 h_f1 => ?_)
          refine g_iload cx o (pc' := 235) at_233 rfl rfl ?_
          refine g_if_ne cx o (pc' := 243) (pc2 := 238) at_235 (by decide) (by decide) rfl (fun c235 => ?_) (fun c235 => ?_)
          · refine g_dconst1 cx o (pc' := 244) at_243 rfl ?_
            refine g_dstoreV cx o (pc' := 246) (fun w' => #[.val (.int p0), .val (.int p1), .val (.int p2), .val (.long p3), .second, .val (.long p4), .second, .val (.int p5), .val (.int cp), .val (.int s1), .val (.int s2), .val (.long e1), .second, .val (.long e2), .second, .val (.int (0 : Int32)), .val (.int (1 : Int32)), .val (.int (2 : Int32)), .val (.ref kr), .val (.long pq), .second, .val (.long qq), .second, .val (.int (0 : Int32)), .val (.int s1), .val (.int s2), .val (.double f1), .second, .val (.double w'), .second]) at_244 rfl (fun _ => rfl) (fun f2 h_f2 => ?_)
            refine g_aload cx o (pc' := 248) at_246 rfl rfl rfl ?_
            refine g_iconst cx o (pc' := 249) (0 : Int32) at_248 rfl rfl ?_
            refine g_virtual cx o (pc' := 252) (y := (⟨"com/example/cachesmith/cachesmith/solver/Knapsack", "share", "(I)D"⟩ : MethodName)) (z := (⟨"com/example/cachesmith/cachesmith/solver/Knapsack", "share", "(I)D"⟩ : MethodName)) (hw _ (List.mem_of_getElem? (i := 42) rfl)) (hw _ (List.mem_of_getElem? (i := 43) rfl)) (notFace_of_selects (args := #[]) (mvT cx.2.1 (hw _ (List.mem_of_getElem? (i := 45) rfl)))) (hw _ (List.mem_of_getElem? (i := 45) rfl)) (hw _ (List.mem_of_getElem? (i := 44) rfl)) (hw _ (List.mem_of_getElem? (i := 8) rfl)) (hw _ (List.mem_of_getElem? (i := 46) rfl)) 3 rfl (rmSh l Z a0 hw er sr vr kr cp _ _ _ _ _ _ _ _ _ _ _ _ _ _ _ _ _ (fun q => absurd q (by omega)))  rfl pd_6 rfl (by decide) rfl 0 (Nat.le_of_eq rfl) (by decide) (by decide) (by decide) (by decide) at_249 rfl (fun T v L hQ o => ?_)
            obtain ⟨d1, rfl, kd1, rfl⟩ := hQ
            simp only [Option.toList_some, Option.toList_none, List.cons_append, List.nil_append]
            have ed1 : d1 = FP.dconst1 := kd1.elim (fun q => absurd q.2.1 (by omega)) (fun q => q.2)
            subst ed1
            refine g_dload cx o (pc' := 254) at_252 rfl rfl ?_
            refine g_dcmp cx o (pc' := 255) at_254 rfl ?_
            refine g_if_ne cx o (pc' := 275) (pc2 := 258) at_255 (by decide) (by decide) rfl (fun c255 => absurd (by first | exact dcmpV_self oR.one.nn _ | (rw [h_f1]; exact dcmpV_self oR.one.nn _) | (rw [h_f2]; exact dcmpV_self oR.one.nn _)) c255) (fun c255 => ?_)
            refine g_aload cx o (pc' := 260) at_258 rfl rfl rfl ?_
            refine g_iload cx o (pc' := 262) at_260 rfl rfl ?_
            refine g_virtual cx o (pc' := 265) (y := (⟨"com/example/cachesmith/cachesmith/solver/Knapsack", "share", "(I)D"⟩ : MethodName)) (z := (⟨"com/example/cachesmith/cachesmith/solver/Knapsack", "share", "(I)D"⟩ : MethodName)) (hw _ (List.mem_of_getElem? (i := 42) rfl)) (hw _ (List.mem_of_getElem? (i := 43) rfl)) (notFace_of_selects (args := #[]) (mvT cx.2.1 (hw _ (List.mem_of_getElem? (i := 45) rfl)))) (hw _ (List.mem_of_getElem? (i := 45) rfl)) (hw _ (List.mem_of_getElem? (i := 44) rfl)) (hw _ (List.mem_of_getElem? (i := 8) rfl)) (hw _ (List.mem_of_getElem? (i := 46) rfl)) 3 rfl (rmSh l Z a0 hw er sr vr kr cp _ _ _ _ _ _ _ _ _ _ _ _ _ _ _ _ _ (fun q => absurd q (by omega)))  rfl pd_6 rfl (by decide) rfl 0 (Nat.le_of_eq rfl) (by decide) (by decide) (by decide) (by decide) at_262 rfl (fun T v L hQ o => ?_)
            obtain ⟨d2, rfl, kd2, rfl⟩ := hQ
            simp only [Option.toList_some, Option.toList_none, List.cons_append, List.nil_append]
            have ed2 : d2 = FP.dconst1 := kd2.elim (fun q => absurd q.2.1 (by omega)) (fun q => q.2)
            subst ed2
            refine g_dload cx o (pc' := 267) at_265 rfl rfl ?_
            refine g_dcmp cx o (pc' := 268) at_267 rfl ?_
            refine g_if_ne cx o (pc' := 275) (pc2 := 271) at_268 (by decide) (by decide) rfl (fun c268 => absurd (by first | exact dcmpV_self oR.one.nn _ | (rw [h_f1]; exact dcmpV_self oR.one.nn _) | (rw [h_f2]; exact dcmpV_self oR.one.nn _)) c268) (fun c268 => ?_)
            refine g_iconst cx o (pc' := 272) (1 : Int32) at_271 rfl rfl ?_
            refine g_goto cx o (pc' := 276) at_272 (by decide) (by decide) ?_
            exact g_ireturnZ cx o at_276 (by decide) (by decide) (by decide) rfl
          · refine g_dload cx o (pc' := 240) at_238 rfl rfl ?_
            refine g_goto cx o (pc' := 244) at_240 (by decide) (by decide) ?_
            refine g_dstore cx o (pc' := 246) (l' := #[.val (.int p0), .val (.int p1), .val (.int p2), .val (.long p3), .second, .val (.long p4), .second, .val (.int p5), .val (.int cp), .val (.int s1), .val (.int s2), .val (.long e1), .second, .val (.long e2), .second, .val (.int (0 : Int32)), .val (.int (1 : Int32)), .val (.int (2 : Int32)), .val (.ref kr), .val (.long pq), .second, .val (.long qq), .second, .val (.int (0 : Int32)), .val (.int s1), .val (.int s2), .val (.double f1), .second, .val (.double f1), .second]) at_244 rfl rfl ?_
            refine g_aload cx o (pc' := 248) at_246 rfl rfl rfl ?_
            refine g_iconst cx o (pc' := 249) (0 : Int32) at_248 rfl rfl ?_
            refine g_virtual cx o (pc' := 252) (y := (⟨"com/example/cachesmith/cachesmith/solver/Knapsack", "share", "(I)D"⟩ : MethodName)) (z := (⟨"com/example/cachesmith/cachesmith/solver/Knapsack", "share", "(I)D"⟩ : MethodName)) (hw _ (List.mem_of_getElem? (i := 42) rfl)) (hw _ (List.mem_of_getElem? (i := 43) rfl)) (notFace_of_selects (args := #[]) (mvT cx.2.1 (hw _ (List.mem_of_getElem? (i := 45) rfl)))) (hw _ (List.mem_of_getElem? (i := 45) rfl)) (hw _ (List.mem_of_getElem? (i := 44) rfl)) (hw _ (List.mem_of_getElem? (i := 8) rfl)) (hw _ (List.mem_of_getElem? (i := 46) rfl)) 3 rfl (rmSh l Z a0 hw er sr vr kr cp _ _ _ _ _ _ _ _ _ _ _ _ _ _ _ _ _ (fun q => absurd q (by omega)))  rfl pd_6 rfl (by decide) rfl 0 (Nat.le_of_eq rfl) (by decide) (by decide) (by decide) (by decide) at_249 rfl (fun T v L hQ o => ?_)
            obtain ⟨d1, rfl, kd1, rfl⟩ := hQ
            simp only [Option.toList_some, Option.toList_none, List.cons_append, List.nil_append]
            have ed1 : d1 = FP.dconst1 := kd1.elim (fun q => absurd q.2.1 (by omega)) (fun q => q.2)
            subst ed1
            refine g_dload cx o (pc' := 254) at_252 rfl rfl ?_
            refine g_dcmp cx o (pc' := 255) at_254 rfl ?_
            refine g_if_ne cx o (pc' := 275) (pc2 := 258) at_255 (by decide) (by decide) rfl (fun c255 => absurd (by first | exact dcmpV_self oR.one.nn _ | (rw [h_f1]; exact dcmpV_self oR.one.nn _) | (rw [h_f2]; exact dcmpV_self oR.one.nn _)) c255) (fun c255 => ?_)
            refine g_aload cx o (pc' := 260) at_258 rfl rfl rfl ?_
            refine g_iload cx o (pc' := 262) at_260 rfl rfl ?_
            refine g_virtual cx o (pc' := 265) (y := (⟨"com/example/cachesmith/cachesmith/solver/Knapsack", "share", "(I)D"⟩ : MethodName)) (z := (⟨"com/example/cachesmith/cachesmith/solver/Knapsack", "share", "(I)D"⟩ : MethodName)) (hw _ (List.mem_of_getElem? (i := 42) rfl)) (hw _ (List.mem_of_getElem? (i := 43) rfl)) (notFace_of_selects (args := #[]) (mvT cx.2.1 (hw _ (List.mem_of_getElem? (i := 45) rfl)))) (hw _ (List.mem_of_getElem? (i := 45) rfl)) (hw _ (List.mem_of_getElem? (i := 44) rfl)) (hw _ (List.mem_of_getElem? (i := 8) rfl)) (hw _ (List.mem_of_getElem? (i := 46) rfl)) 3 rfl (rmSh l Z a0 hw er sr vr kr cp _ _ _ _ _ _ _ _ _ _ _ _ _ _ _ _ _ (fun q => absurd q (by omega)))  rfl pd_6 rfl (by decide) rfl 0 (Nat.le_of_eq rfl) (by decide) (by decide) (by decide) (by decide) at_262 rfl (fun T v L hQ o => ?_)
            obtain ⟨d2, rfl, kd2, rfl⟩ := hQ
            simp only [Option.toList_some, Option.toList_none, List.cons_append, List.nil_append]
            have ed2 : d2 = FP.dconst1 := kd2.elim (fun q => absurd q.2.1 (by omega)) (fun q => q.2)
            subst ed2
            refine g_dload cx o (pc' := 267) at_265 rfl rfl ?_
            refine g_dcmp cx o (pc' := 268) at_267 rfl ?_
            refine g_if_ne cx o (pc' := 275) (pc2 := 271) at_268 (by decide) (by decide) rfl (fun c268 => absurd (by first | exact dcmpV_self oR.one.nn _ | (rw [h_f1]; exact dcmpV_self oR.one.nn _) | (rw [h_f2]; exact dcmpV_self oR.one.nn _)) c268) (fun c268 => ?_)
            refine g_iconst cx o (pc' := 272) (1 : Int32) at_271 rfl rfl ?_
            refine g_goto cx o (pc' := 276) at_272 (by decide) (by decide) ?_
            exact g_ireturnZ cx o at_276 (by decide) (by decide) (by decide) rfl
        · have c200 := Int32.lt_iff_toInt_lt.mp c200
          refine g_iload cx o (pc' := 205) at_203 rfl rfl ?_
          refine g_i2l cx o (pc' := 206) at_205 rfl ?_
          refine g_iload cx o (pc' := 208) at_206 rfl rfl ?_
          refine g_i2l cx o (pc' := 209) at_208 rfl ?_
          refine g_ladd cx o (pc' := 210) at_209 rfl ?_
          refine g_iload cx o (pc' := 212) at_210 rfl rfl ?_
          refine g_i2l cx o (pc' := 213) at_212 rfl ?_
          refine g_lcmp cx o (pc' := 214) at_213 rfl ?_
          have ka : (s1.toInt64 + s2.toInt64).toInt = s1.toInt + s2.toInt := by rw [Jvm.Kit.i64_add (by rw [j1, j2]; omega) (by rw [j1, j2]; omega), j1, j2]
          refine g_if_le cx o (pc' := 230) (pc2 := 217) at_214 (by decide) (by decide) rfl (fun c214 => ?_) (fun c214 => ?_)
          · have c : ¬ _ := fun z => c214 ((o_cmpL _ _).mpr z)
            rw [ka, jc] at c
            have hc : h2.toInt ≤ cp.toInt := by
              rcases sq with q | q
              · exact q.1
              · exact absurd q (fun q => c (by omega))
            refine g_dconst1 cx o (pc' := 231) at_230 rfl ?_
            refine g_dstoreV cx o (pc' := 233) (fun w' => #[.val (.int p0), .val (.int p1), .val (.int p2), .val (.long p3), .second, .val (.long p4), .second, .val (.int p5), .val (.int cp), .val (.int s1), .val (.int s2), .val (.long e1), .second, .val (.long e2), .second, .val (.int (0 : Int32)), .val (.int (1 : Int32)), .val (.int (2 : Int32)), .val (.ref kr), .val (.long pq), .second, .val (.long qq), .second, .val (.int (0 : Int32)), .val (.int s1), .val (.int s2), .val (.double w'), .second, .unset, .unset]) at_231 rfl (fun _ => rfl) (fun f1 h_f1 => ?_)
            refine g_iload cx o (pc' := 235) at_233 rfl rfl ?_
            refine g_if_ne cx o (pc' := 243) (pc2 := 238) at_235 (by decide) (by decide) rfl (fun c235 => ?_) (fun c235 => ?_)
            · refine g_dconst1 cx o (pc' := 244) at_243 rfl ?_
              refine g_dstoreV cx o (pc' := 246) (fun w' => #[.val (.int p0), .val (.int p1), .val (.int p2), .val (.long p3), .second, .val (.long p4), .second, .val (.int p5), .val (.int cp), .val (.int s1), .val (.int s2), .val (.long e1), .second, .val (.long e2), .second, .val (.int (0 : Int32)), .val (.int (1 : Int32)), .val (.int (2 : Int32)), .val (.ref kr), .val (.long pq), .second, .val (.long qq), .second, .val (.int (0 : Int32)), .val (.int s1), .val (.int s2), .val (.double f1), .second, .val (.double w'), .second]) at_244 rfl (fun _ => rfl) (fun f2 h_f2 => ?_)
              refine g_aload cx o (pc' := 248) at_246 rfl rfl rfl ?_
              refine g_iconst cx o (pc' := 249) (0 : Int32) at_248 rfl rfl ?_
              refine g_virtual cx o (pc' := 252) (y := (⟨"com/example/cachesmith/cachesmith/solver/Knapsack", "share", "(I)D"⟩ : MethodName)) (z := (⟨"com/example/cachesmith/cachesmith/solver/Knapsack", "share", "(I)D"⟩ : MethodName)) (hw _ (List.mem_of_getElem? (i := 42) rfl)) (hw _ (List.mem_of_getElem? (i := 43) rfl)) (notFace_of_selects (args := #[]) (mvT cx.2.1 (hw _ (List.mem_of_getElem? (i := 45) rfl)))) (hw _ (List.mem_of_getElem? (i := 45) rfl)) (hw _ (List.mem_of_getElem? (i := 44) rfl)) (hw _ (List.mem_of_getElem? (i := 8) rfl)) (hw _ (List.mem_of_getElem? (i := 46) rfl)) 3 rfl (rmSh l Z a0 hw er sr vr kr cp _ _ _ _ _ _ _ _ _ _ _ _ _ _ _ _ _ (fun q => absurd q (by omega)))  rfl pd_6 rfl (by decide) rfl 0 (Nat.le_of_eq rfl) (by decide) (by decide) (by decide) (by decide) at_249 rfl (fun T v L hQ o => ?_)
              obtain ⟨d1, rfl, kd1, rfl⟩ := hQ
              simp only [Option.toList_some, Option.toList_none, List.cons_append, List.nil_append]
              have ed1 : d1 = FP.dconst1 := kd1.elim (fun q => absurd q.2.1 (by omega)) (fun q => q.2)
              subst ed1
              refine g_dload cx o (pc' := 254) at_252 rfl rfl ?_
              refine g_dcmp cx o (pc' := 255) at_254 rfl ?_
              refine g_if_ne cx o (pc' := 275) (pc2 := 258) at_255 (by decide) (by decide) rfl (fun c255 => absurd (by first | exact dcmpV_self oR.one.nn _ | (rw [h_f1]; exact dcmpV_self oR.one.nn _) | (rw [h_f2]; exact dcmpV_self oR.one.nn _)) c255) (fun c255 => ?_)
              refine g_aload cx o (pc' := 260) at_258 rfl rfl rfl ?_
              refine g_iload cx o (pc' := 262) at_260 rfl rfl ?_
              refine g_virtual cx o (pc' := 265) (y := (⟨"com/example/cachesmith/cachesmith/solver/Knapsack", "share", "(I)D"⟩ : MethodName)) (z := (⟨"com/example/cachesmith/cachesmith/solver/Knapsack", "share", "(I)D"⟩ : MethodName)) (hw _ (List.mem_of_getElem? (i := 42) rfl)) (hw _ (List.mem_of_getElem? (i := 43) rfl)) (notFace_of_selects (args := #[]) (mvT cx.2.1 (hw _ (List.mem_of_getElem? (i := 45) rfl)))) (hw _ (List.mem_of_getElem? (i := 45) rfl)) (hw _ (List.mem_of_getElem? (i := 44) rfl)) (hw _ (List.mem_of_getElem? (i := 8) rfl)) (hw _ (List.mem_of_getElem? (i := 46) rfl)) 3 rfl (rmSh l Z a0 hw er sr vr kr cp _ _ _ _ _ _ _ _ _ _ _ _ _ _ _ _ _ (fun q => absurd q (by omega)))  rfl pd_6 rfl (by decide) rfl 0 (Nat.le_of_eq rfl) (by decide) (by decide) (by decide) (by decide) at_262 rfl (fun T v L hQ o => ?_)
              obtain ⟨d2, rfl, kd2, rfl⟩ := hQ
              simp only [Option.toList_some, Option.toList_none, List.cons_append, List.nil_append]
              have ed2 : d2 = FP.dconst1 := kd2.elim (fun q => absurd q.2.1 (by omega)) (fun q => q.2)
              subst ed2
              refine g_dload cx o (pc' := 267) at_265 rfl rfl ?_
              refine g_dcmp cx o (pc' := 268) at_267 rfl ?_
              refine g_if_ne cx o (pc' := 275) (pc2 := 271) at_268 (by decide) (by decide) rfl (fun c268 => absurd (by first | exact dcmpV_self oR.one.nn _ | (rw [h_f1]; exact dcmpV_self oR.one.nn _) | (rw [h_f2]; exact dcmpV_self oR.one.nn _)) c268) (fun c268 => ?_)
              refine g_iconst cx o (pc' := 272) (1 : Int32) at_271 rfl rfl ?_
              refine g_goto cx o (pc' := 276) at_272 (by decide) (by decide) ?_
              exact g_ireturnZ cx o at_276 (by decide) (by decide) (by decide) rfl
            · refine g_dload cx o (pc' := 240) at_238 rfl rfl ?_
              refine g_goto cx o (pc' := 244) at_240 (by decide) (by decide) ?_
              refine g_dstore cx o (pc' := 246) (l' := #[.val (.int p0), .val (.int p1), .val (.int p2), .val (.long p3), .second, .val (.long p4), .second, .val (.int p5), .val (.int cp), .val (.int s1), .val (.int s2), .val (.long e1), .second, .val (.long e2), .second, .val (.int (0 : Int32)), .val (.int (1 : Int32)), .val (.int (2 : Int32)), .val (.ref kr), .val (.long pq), .second, .val (.long qq), .second, .val (.int (0 : Int32)), .val (.int s1), .val (.int s2), .val (.double f1), .second, .val (.double f1), .second]) at_244 rfl rfl ?_
              refine g_aload cx o (pc' := 248) at_246 rfl rfl rfl ?_
              refine g_iconst cx o (pc' := 249) (0 : Int32) at_248 rfl rfl ?_
              refine g_virtual cx o (pc' := 252) (y := (⟨"com/example/cachesmith/cachesmith/solver/Knapsack", "share", "(I)D"⟩ : MethodName)) (z := (⟨"com/example/cachesmith/cachesmith/solver/Knapsack", "share", "(I)D"⟩ : MethodName)) (hw _ (List.mem_of_getElem? (i := 42) rfl)) (hw _ (List.mem_of_getElem? (i := 43) rfl)) (notFace_of_selects (args := #[]) (mvT cx.2.1 (hw _ (List.mem_of_getElem? (i := 45) rfl)))) (hw _ (List.mem_of_getElem? (i := 45) rfl)) (hw _ (List.mem_of_getElem? (i := 44) rfl)) (hw _ (List.mem_of_getElem? (i := 8) rfl)) (hw _ (List.mem_of_getElem? (i := 46) rfl)) 3 rfl (rmSh l Z a0 hw er sr vr kr cp _ _ _ _ _ _ _ _ _ _ _ _ _ _ _ _ _ (fun q => absurd q (by omega)))  rfl pd_6 rfl (by decide) rfl 0 (Nat.le_of_eq rfl) (by decide) (by decide) (by decide) (by decide) at_249 rfl (fun T v L hQ o => ?_)
              obtain ⟨d1, rfl, kd1, rfl⟩ := hQ
              simp only [Option.toList_some, Option.toList_none, List.cons_append, List.nil_append]
              have ed1 : d1 = FP.dconst1 := kd1.elim (fun q => absurd q.2.1 (by omega)) (fun q => q.2)
              subst ed1
              refine g_dload cx o (pc' := 254) at_252 rfl rfl ?_
              refine g_dcmp cx o (pc' := 255) at_254 rfl ?_
              refine g_if_ne cx o (pc' := 275) (pc2 := 258) at_255 (by decide) (by decide) rfl (fun c255 => absurd (by first | exact dcmpV_self oR.one.nn _ | (rw [h_f1]; exact dcmpV_self oR.one.nn _) | (rw [h_f2]; exact dcmpV_self oR.one.nn _)) c255) (fun c255 => ?_)
              refine g_aload cx o (pc' := 260) at_258 rfl rfl rfl ?_
              refine g_iload cx o (pc' := 262) at_260 rfl rfl ?_
              refine g_virtual cx o (pc' := 265) (y := (⟨"com/example/cachesmith/cachesmith/solver/Knapsack", "share", "(I)D"⟩ : MethodName)) (z := (⟨"com/example/cachesmith/cachesmith/solver/Knapsack", "share", "(I)D"⟩ : MethodName)) (hw _ (List.mem_of_getElem? (i := 42) rfl)) (hw _ (List.mem_of_getElem? (i := 43) rfl)) (notFace_of_selects (args := #[]) (mvT cx.2.1 (hw _ (List.mem_of_getElem? (i := 45) rfl)))) (hw _ (List.mem_of_getElem? (i := 45) rfl)) (hw _ (List.mem_of_getElem? (i := 44) rfl)) (hw _ (List.mem_of_getElem? (i := 8) rfl)) (hw _ (List.mem_of_getElem? (i := 46) rfl)) 3 rfl (rmSh l Z a0 hw er sr vr kr cp _ _ _ _ _ _ _ _ _ _ _ _ _ _ _ _ _ (fun q => absurd q (by omega)))  rfl pd_6 rfl (by decide) rfl 0 (Nat.le_of_eq rfl) (by decide) (by decide) (by decide) (by decide) at_262 rfl (fun T v L hQ o => ?_)
              obtain ⟨d2, rfl, kd2, rfl⟩ := hQ
              simp only [Option.toList_some, Option.toList_none, List.cons_append, List.nil_append]
              have ed2 : d2 = FP.dconst1 := kd2.elim (fun q => absurd q.2.1 (by omega)) (fun q => q.2)
              subst ed2
              refine g_dload cx o (pc' := 267) at_265 rfl rfl ?_
              refine g_dcmp cx o (pc' := 268) at_267 rfl ?_
              refine g_if_ne cx o (pc' := 275) (pc2 := 271) at_268 (by decide) (by decide) rfl (fun c268 => absurd (by first | exact dcmpV_self oR.one.nn _ | (rw [h_f1]; exact dcmpV_self oR.one.nn _) | (rw [h_f2]; exact dcmpV_self oR.one.nn _)) c268) (fun c268 => ?_)
              refine g_iconst cx o (pc' := 272) (1 : Int32) at_271 rfl rfl ?_
              refine g_goto cx o (pc' := 276) at_272 (by decide) (by decide) ?_
              exact g_ireturnZ cx o at_276 (by decide) (by decide) (by decide) rfl
          · have c := (o_cmpL _ _).mp c214
            rw [ka, jc] at c
            have hc : h2.toInt = s1.toInt + s2.toInt ∧ y0 = s2 := by
              rcases sq with q | q
              · exact absurd q (fun q => by omega)
              · exact ⟨q.1, q.2.2.2⟩
            obtain ⟨hc, ey⟩ := hc
            have ki : (cp - s1).toInt = cp.toInt - s1.toInt := by rw [Jvm.Kit.i32_sub (by omega) (by omega)]
            have Ri := o_i2dN (x := cp - s1) (by omega)
            have Rm := o_i2dN (x := s2) (by omega)
            have kj : (h2 - y0.toInt64).toInt = s1.toInt := by rw [ey, Jvm.Kit.i64_sub (by rw [j2]; omega) (by rw [j2]; omega), j2]; omega
            have kl2 : (cp.toInt64 - (h2 - y0.toInt64)).toInt = cp.toInt - s1.toInt := by rw [Jvm.Kit.i64_sub (by rw [kj, jc]; omega) (by rw [kj, jc]; omega), kj, jc]
            have Rl := o_l2dN (x := cp.toInt64 - (h2 - y0.toInt64)) (by omega)
            have Ry : oR ((s2.toInt.toNat : Nat) : Int) 0 (FP.i2d y0) := by rw [ey]; exact Rm
            have nA : NoNaN64 (FP.ddiv (FP.i2d (cp - s1)) (FP.i2d s2)) := o_div_nn Ri Rm (by omega)
            have nB : NoNaN64 (FP.ddiv (FP.l2d (cp.toInt64 - (h2 - y0.toInt64))) (FP.i2d y0)) := o_div_nn Rl Ry (by omega)
            have eqz : oz (FP.ddiv (FP.l2d (cp.toInt64 - (h2 - y0.toInt64))) (FP.i2d y0)) = oz (FP.ddiv (FP.i2d (cp - s1)) (FP.i2d s2)) := by
              have zi := Ri.z (by decide)
              have zm := Rm.z (by decide)
              have zl := Rl.z (by decide)
              have zy := Ry.z (by decide)
              rw [kl2] at zl
              rw [ki] at zi
              have pp := o_pow_pos (1074 - 0)
              have pm : (0 : Int) < ((s2.toInt.toNat : Nat) : Int) := by omega
              refine o_div_same Rl.1 Ry.1 Ri.1 Rm.1 (by rw [zy]; exact Int.mul_pos pm pp) (by rw [zm]; exact Int.mul_pos pm pp) (by rw [zl]; exact Int.mul_nonneg (Int.natCast_nonneg _) (Int.natCast_nonneg _)) (by rw [zi]; exact Int.mul_nonneg (Int.natCast_nonneg _) (Int.natCast_nonneg _)) (by rw [zl, zy, zi, zm])
            have cq : cmpValue (FP.dcmp (FP.ddiv (FP.l2d (cp.toInt64 - (h2 - y0.toInt64))) (FP.i2d y0)) (FP.ddiv (FP.i2d (cp - s1)) (FP.i2d s2))) .l = 0 := by rw [o_cvz nB nA, if_neg (by omega), if_pos eqz]
            refine g_iload cx o (pc' := 219) at_217 rfl rfl ?_
            refine g_iload cx o (pc' := 221) at_219 rfl rfl ?_
            refine g_isub cx o (pc' := 222) at_221 rfl ?_
            refine g_i2d cx o (pc' := 223) at_222 rfl ?_
            refine g_iload cx o (pc' := 225) at_223 rfl rfl ?_
            refine g_i2d cx o (pc' := 226) at_225 rfl ?_
            refine g_ddiv cx o (pc' := 227) at_226 rfl nA ?_
            refine g_goto cx o (pc' := 231) at_227 (by decide) (by decide) ?_
            refine g_dstoreV cx o (pc' := 233) (fun w' => #[.val (.int p0), .val (.int p1), .val (.int p2), .val (.long p3), .second, .val (.long p4), .second, .val (.int p5), .val (.int cp), .val (.int s1), .val (.int s2), .val (.long e1), .second, .val (.long e2), .second, .val (.int (0 : Int32)), .val (.int (1 : Int32)), .val (.int (2 : Int32)), .val (.ref kr), .val (.long pq), .second, .val (.long qq), .second, .val (.int (0 : Int32)), .val (.int s1), .val (.int s2), .val (.double w'), .second, .unset, .unset]) at_231 rfl (fun _ => rfl) (fun ex h_ex => ?_)
            refine g_iload cx o (pc' := 235) at_233 rfl rfl ?_
            refine g_if_ne cx o (pc' := 243) (pc2 := 238) at_235 (by decide) (by decide) rfl (fun c235 => ?_) (fun c235 => ?_)
            · refine g_dconst1 cx o (pc' := 244) at_243 rfl ?_
              refine g_dstoreV cx o (pc' := 246) (fun w' => #[.val (.int p0), .val (.int p1), .val (.int p2), .val (.long p3), .second, .val (.long p4), .second, .val (.int p5), .val (.int cp), .val (.int s1), .val (.int s2), .val (.long e1), .second, .val (.long e2), .second, .val (.int (0 : Int32)), .val (.int (1 : Int32)), .val (.int (2 : Int32)), .val (.ref kr), .val (.long pq), .second, .val (.long qq), .second, .val (.int (0 : Int32)), .val (.int s1), .val (.int s2), .val (.double ex), .second, .val (.double w'), .second]) at_244 rfl (fun _ => rfl) (fun f1 h_f1 => ?_)
              refine g_aload cx o (pc' := 248) at_246 rfl rfl rfl ?_
              refine g_iconst cx o (pc' := 249) (0 : Int32) at_248 rfl rfl ?_
              refine g_virtual cx o (pc' := 252) (y := (⟨"com/example/cachesmith/cachesmith/solver/Knapsack", "share", "(I)D"⟩ : MethodName)) (z := (⟨"com/example/cachesmith/cachesmith/solver/Knapsack", "share", "(I)D"⟩ : MethodName)) (hw _ (List.mem_of_getElem? (i := 42) rfl)) (hw _ (List.mem_of_getElem? (i := 43) rfl)) (notFace_of_selects (args := #[]) (mvT cx.2.1 (hw _ (List.mem_of_getElem? (i := 45) rfl)))) (hw _ (List.mem_of_getElem? (i := 45) rfl)) (hw _ (List.mem_of_getElem? (i := 44) rfl)) (hw _ (List.mem_of_getElem? (i := 8) rfl)) (hw _ (List.mem_of_getElem? (i := 46) rfl)) 3 rfl (rmSh l Z a0 hw er sr vr kr cp _ _ _ _ _ _ _ _ _ _ _ _ _ _ _ _ _ (fun _ => nB))  rfl pd_6 rfl (by decide) rfl 0 (Nat.le_of_eq rfl) (by decide) (by decide) (by decide) (by decide) at_249 rfl (fun T v L hQ o => ?_)
              obtain ⟨d1, rfl, kd1, rfl⟩ := hQ
              simp only [Option.toList_some, Option.toList_none, List.cons_append, List.nil_append]
              have ed1 := kd1.elim (fun q => q.2.2) (fun q => q.1.elim (fun z => absurd rfl z) (fun z => absurd z (by omega)))
              rw [← ed1, ← h_ex] at cq
              refine g_dload cx o (pc' := 254) at_252 rfl rfl ?_
              refine g_dcmp cx o (pc' := 255) at_254 rfl ?_
              refine g_if_ne cx o (pc' := 275) (pc2 := 258) at_255 (by decide) (by decide) rfl (fun c255 => absurd cq c255) (fun c255 => ?_)
              refine g_aload cx o (pc' := 260) at_258 rfl rfl rfl ?_
              refine g_iload cx o (pc' := 262) at_260 rfl rfl ?_
              refine g_virtual cx o (pc' := 265) (y := (⟨"com/example/cachesmith/cachesmith/solver/Knapsack", "share", "(I)D"⟩ : MethodName)) (z := (⟨"com/example/cachesmith/cachesmith/solver/Knapsack", "share", "(I)D"⟩ : MethodName)) (hw _ (List.mem_of_getElem? (i := 42) rfl)) (hw _ (List.mem_of_getElem? (i := 43) rfl)) (notFace_of_selects (args := #[]) (mvT cx.2.1 (hw _ (List.mem_of_getElem? (i := 45) rfl)))) (hw _ (List.mem_of_getElem? (i := 45) rfl)) (hw _ (List.mem_of_getElem? (i := 44) rfl)) (hw _ (List.mem_of_getElem? (i := 8) rfl)) (hw _ (List.mem_of_getElem? (i := 46) rfl)) 3 rfl (rmSh l Z a0 hw er sr vr kr cp _ _ _ _ _ _ _ _ _ _ _ _ _ _ _ _ _ (fun _ => nB))  rfl pd_6 rfl (by decide) rfl 0 (Nat.le_of_eq rfl) (by decide) (by decide) (by decide) (by decide) at_262 rfl (fun T v L hQ o => ?_)
              obtain ⟨d2, rfl, kd2, rfl⟩ := hQ
              simp only [Option.toList_some, Option.toList_none, List.cons_append, List.nil_append]
              have ed2 : d2 = FP.dconst1 := kd2.elim (fun q => absurd q.1 c235) (fun q => q.2)
              subst ed2
              refine g_dload cx o (pc' := 267) at_265 rfl rfl ?_
              refine g_dcmp cx o (pc' := 268) at_267 rfl ?_
              refine g_if_ne cx o (pc' := 275) (pc2 := 271) at_268 (by decide) (by decide) rfl (fun c268 => absurd (by first | exact dcmpV_self oR.one.nn _ | (rw [h_f1]; exact dcmpV_self oR.one.nn _) | (rw [h_f2]; exact dcmpV_self oR.one.nn _)) c268) (fun c268 => ?_)
              refine g_iconst cx o (pc' := 272) (1 : Int32) at_271 rfl rfl ?_
              refine g_goto cx o (pc' := 276) at_272 (by decide) (by decide) ?_
              exact g_ireturnZ cx o at_276 (by decide) (by decide) (by decide) rfl
            · refine g_dload cx o (pc' := 240) at_238 rfl rfl ?_
              refine g_goto cx o (pc' := 244) at_240 (by decide) (by decide) ?_
              refine g_dstore cx o (pc' := 246) (l' := #[.val (.int p0), .val (.int p1), .val (.int p2), .val (.long p3), .second, .val (.long p4), .second, .val (.int p5), .val (.int cp), .val (.int s1), .val (.int s2), .val (.long e1), .second, .val (.long e2), .second, .val (.int (0 : Int32)), .val (.int (1 : Int32)), .val (.int (2 : Int32)), .val (.ref kr), .val (.long pq), .second, .val (.long qq), .second, .val (.int (0 : Int32)), .val (.int s1), .val (.int s2), .val (.double ex), .second, .val (.double ex), .second]) at_244 rfl rfl ?_
              refine g_aload cx o (pc' := 248) at_246 rfl rfl rfl ?_
              refine g_iconst cx o (pc' := 249) (0 : Int32) at_248 rfl rfl ?_
              refine g_virtual cx o (pc' := 252) (y := (⟨"com/example/cachesmith/cachesmith/solver/Knapsack", "share", "(I)D"⟩ : MethodName)) (z := (⟨"com/example/cachesmith/cachesmith/solver/Knapsack", "share", "(I)D"⟩ : MethodName)) (hw _ (List.mem_of_getElem? (i := 42) rfl)) (hw _ (List.mem_of_getElem? (i := 43) rfl)) (notFace_of_selects (args := #[]) (mvT cx.2.1 (hw _ (List.mem_of_getElem? (i := 45) rfl)))) (hw _ (List.mem_of_getElem? (i := 45) rfl)) (hw _ (List.mem_of_getElem? (i := 44) rfl)) (hw _ (List.mem_of_getElem? (i := 8) rfl)) (hw _ (List.mem_of_getElem? (i := 46) rfl)) 3 rfl (rmSh l Z a0 hw er sr vr kr cp _ _ _ _ _ _ _ _ _ _ _ _ _ _ _ _ _ (fun _ => nB))  rfl pd_6 rfl (by decide) rfl 0 (Nat.le_of_eq rfl) (by decide) (by decide) (by decide) (by decide) at_249 rfl (fun T v L hQ o => ?_)
              obtain ⟨d1, rfl, kd1, rfl⟩ := hQ
              simp only [Option.toList_some, Option.toList_none, List.cons_append, List.nil_append]
              have ed1 := kd1.elim (fun q => q.2.2) (fun q => q.1.elim (fun z => absurd rfl z) (fun z => absurd z (by omega)))
              rw [← ed1, ← h_ex] at cq
              refine g_dload cx o (pc' := 254) at_252 rfl rfl ?_
              refine g_dcmp cx o (pc' := 255) at_254 rfl ?_
              refine g_if_ne cx o (pc' := 275) (pc2 := 258) at_255 (by decide) (by decide) rfl (fun c255 => absurd cq c255) (fun c255 => ?_)
              refine g_aload cx o (pc' := 260) at_258 rfl rfl rfl ?_
              refine g_iload cx o (pc' := 262) at_260 rfl rfl ?_
              refine g_virtual cx o (pc' := 265) (y := (⟨"com/example/cachesmith/cachesmith/solver/Knapsack", "share", "(I)D"⟩ : MethodName)) (z := (⟨"com/example/cachesmith/cachesmith/solver/Knapsack", "share", "(I)D"⟩ : MethodName)) (hw _ (List.mem_of_getElem? (i := 42) rfl)) (hw _ (List.mem_of_getElem? (i := 43) rfl)) (notFace_of_selects (args := #[]) (mvT cx.2.1 (hw _ (List.mem_of_getElem? (i := 45) rfl)))) (hw _ (List.mem_of_getElem? (i := 45) rfl)) (hw _ (List.mem_of_getElem? (i := 44) rfl)) (hw _ (List.mem_of_getElem? (i := 8) rfl)) (hw _ (List.mem_of_getElem? (i := 46) rfl)) 3 rfl (rmSh l Z a0 hw er sr vr kr cp _ _ _ _ _ _ _ _ _ _ _ _ _ _ _ _ _ (fun _ => nB))  rfl pd_6 rfl (by decide) rfl 0 (Nat.le_of_eq rfl) (by decide) (by decide) (by decide) (by decide) at_262 rfl (fun T v L hQ o => ?_)
              obtain ⟨d2, rfl, kd2, rfl⟩ := hQ
              simp only [Option.toList_some, Option.toList_none, List.cons_append, List.nil_append]
              have ed2 : d2 = d1 := kd2.elim (fun q => q.2.2.trans ed1.symm) (fun q => q.1.elim (fun z => absurd c235 z) (fun z => absurd z (by omega)))
              subst ed2
              refine g_dload cx o (pc' := 267) at_265 rfl rfl ?_
              refine g_dcmp cx o (pc' := 268) at_267 rfl ?_
              refine g_if_ne cx o (pc' := 275) (pc2 := 271) at_268 (by decide) (by decide) rfl (fun c268 => absurd cq c268) (fun c268 => ?_)
              refine g_iconst cx o (pc' := 272) (1 : Int32) at_271 rfl rfl ?_
              refine g_goto cx o (pc' := 276) at_272 (by decide) (by decide) ?_
              exact g_ireturnZ cx o at_276 (by decide) (by decide) (by decide) rfl
      · have c2_ := (o_cmpL0 _ _).mp c151
        rw [kp.1, kq.1] at c2_
        refine g_iload cx o (pc' := 156) at_154 rfl rfl ?_
        refine g_iload cx o (pc' := 158) at_156 rfl rfl ?_
        refine g_icmp_ge cx o (pc' := 165) (pc2 := 161) at_158 (by decide) (by decide) rfl (fun c158 => ?_) (fun c158 => absurd c158 (by decide))
        refine g_iconst cx o (pc' := 166) (0 : Int32) at_165 rfl rfl ?_
        refine g_istore cx o (pc' := 168) (l' := #[.val (.int p0), .val (.int p1), .val (.int p2), .val (.long p3), .second, .val (.long p4), .second, .val (.int p5), .val (.int cp), .val (.int s1), .val (.int s2), .val (.long e1), .second, .val (.long e2), .second, .val (.int (0 : Int32)), .val (.int (1 : Int32)), .val (.int (2 : Int32)), .val (.ref kr), .val (.long pq), .second, .val (.long qq), .second, .val (.int (0 : Int32)), .unset, .unset, .unset, .unset, .unset, .unset]) at_166 rfl rfl ?_
        refine g_iload cx o (pc' := 170) at_168 rfl rfl ?_
        have fP : ¬ oP e2.toInt s2.toInt ((2 : Int32)).toInt e1.toInt s1.toInt ((1 : Int32)).toInt := fun q => q.elim c (fun z => absurd z.2 (by decide))
        refine g_if_eq cx o (pc' := 178) (pc2 := 173) at_170 (by decide) (by decide) rfl (fun c170 => ?_) (fun c170 => absurd (by decide) c170)
        refine g_iload cx o (pc' := 180) at_178 rfl rfl ?_
        refine g_istore cx o (pc' := 182) (l' := #[.val (.int p0), .val (.int p1), .val (.int p2), .val (.long p3), .second, .val (.long p4), .second, .val (.int p5), .val (.int cp), .val (.int s1), .val (.int s2), .val (.long e1), .second, .val (.long e2), .second, .val (.int (0 : Int32)), .val (.int (1 : Int32)), .val (.int (2 : Int32)), .val (.ref kr), .val (.long pq), .second, .val (.long qq), .second, .val (.int (0 : Int32)), .val (.int s1), .unset, .unset, .unset, .unset, .unset]) at_180 rfl rfl ?_
        refine g_iload cx o (pc' := 184) at_182 rfl rfl ?_
        refine g_if_eq cx o (pc' := 192) (pc2 := 187) at_184 (by decide) (by decide) rfl (fun c184 => ?_) (fun c184 => absurd (by decide) c184)
        refine g_iload cx o (pc' := 194) at_192 rfl rfl ?_
        refine g_istore cx o (pc' := 196) (l' := #[.val (.int p0), .val (.int p1), .val (.int p2), .val (.long p3), .second, .val (.long p4), .second, .val (.int p5), .val (.int cp), .val (.int s1), .val (.int s2), .val (.long e1), .second, .val (.long e2), .second, .val (.int (0 : Int32)), .val (.int (1 : Int32)), .val (.int (2 : Int32)), .val (.ref kr), .val (.long pq), .second, .val (.long qq), .second, .val (.int (0 : Int32)), .val (.int s1), .val (.int s2), .unset, .unset, .unset, .unset]) at_194 rfl rfl ?_
        refine g_iload cx o (pc' := 198) at_196 rfl rfl ?_
        refine g_iload cx o (pc' := 200) at_198 rfl rfl ?_
        have sq : (h2.toInt ≤ cp.toInt ∧ (cp.toInt ≤ s1.toInt ∨ s1.toInt + s2.toInt ≤ cp.toInt)) ∨ (h2.toInt = s1.toInt + s2.toInt ∧ cp.toInt < s1.toInt + s2.toInt ∧ s1.toInt < cp.toInt ∧ y0 = s2) := sp.elim (fun q => absurd q.1 fP) (fun q => q.2)
        refine g_icmp_ge cx o (pc' := 230) (pc2 := 203) at_200 (by decide) (by decide) rfl (fun c200 => ?_) (fun c200 => ?_)
        · have c : ¬ _ := fun z => c200 (Int32.lt_iff_toInt_lt.mpr z)
          have hc : h2.toInt ≤ cp.toInt := by
            rcases sq with q | q
            · exact q.1
            · exact absurd q (fun q => c q.2.2.1)
          refine g_dconst1 cx o (pc' := 231) at_230 rfl ?_
          refine g_dstoreV cx o (pc' := 233) (fun w' => #[.val (.int p0), .val (.int p1), .val (.int p2), .val (.long p3), .second, .val (.long p4), .second, .val (.int p5), .val (.int cp), .val (.int s1), .val (.int s2), .val (.long e1), .second, .val (.long e2), .second, .val (.int (0 : Int32)), .val (.int (1 : Int32)), .val (.int (2 : Int32)), .val (.ref kr), .val (.long pq), .second, .val (.long qq), .second, .val (.int (0 : Int32)), .val (.int s1), .val (.int s2), .val (.double w'), .second, .unset, .unset]) at_231 rfl (fun _ => rfl) (fun f1 h_f1 => ?_)
          refine g_iload cx o (pc' := 235) at_233 rfl rfl ?_
          refine g_if_ne cx o (pc' := 243) (pc2 := 238) at_235 (by decide) (by decide) rfl (fun c235 => ?_) (fun c235 => ?_)
          · refine g_dconst1 cx o (pc' := 244) at_243 rfl ?_
            refine g_dstoreV cx o (pc' := 246) (fun w' => #[.val (.int p0), .val (.int p1), .val (.int p2), .val (.long p3), .second, .val (.long p4), .second, .val (.int p5), .val (.int cp), .val (.int s1), .val (.int s2), .val (.long e1), .second, .val (.long e2), .second, .val (.int (0 : Int32)), .val (.int (1 : Int32)), .val (.int (2 : Int32)), .val (.ref kr), .val (.long pq), .second, .val (.long qq), .second, .val (.int (0 : Int32)), .val (.int s1), .val (.int s2), .val (.double f1), .second, .val (.double w'), .second]) at_244 rfl (fun _ => rfl) (fun f2 h_f2 => ?_)
            refine g_aload cx o (pc' := 248) at_246 rfl rfl rfl ?_
            refine g_iconst cx o (pc' := 249) (0 : Int32) at_248 rfl rfl ?_
            refine g_virtual cx o (pc' := 252) (y := (⟨"com/example/cachesmith/cachesmith/solver/Knapsack", "share", "(I)D"⟩ : MethodName)) (z := (⟨"com/example/cachesmith/cachesmith/solver/Knapsack", "share", "(I)D"⟩ : MethodName)) (hw _ (List.mem_of_getElem? (i := 42) rfl)) (hw _ (List.mem_of_getElem? (i := 43) rfl)) (notFace_of_selects (args := #[]) (mvT cx.2.1 (hw _ (List.mem_of_getElem? (i := 45) rfl)))) (hw _ (List.mem_of_getElem? (i := 45) rfl)) (hw _ (List.mem_of_getElem? (i := 44) rfl)) (hw _ (List.mem_of_getElem? (i := 8) rfl)) (hw _ (List.mem_of_getElem? (i := 46) rfl)) 3 rfl (rmSh l Z a0 hw er sr vr kr cp _ _ _ _ _ _ _ _ _ _ _ _ _ _ _ _ _ (fun q => absurd q (by omega)))  rfl pd_6 rfl (by decide) rfl 0 (Nat.le_of_eq rfl) (by decide) (by decide) (by decide) (by decide) at_249 rfl (fun T v L hQ o => ?_)
            obtain ⟨d1, rfl, kd1, rfl⟩ := hQ
            simp only [Option.toList_some, Option.toList_none, List.cons_append, List.nil_append]
            have ed1 : d1 = FP.dconst1 := kd1.elim (fun q => absurd q.2.1 (by omega)) (fun q => q.2)
            subst ed1
            refine g_dload cx o (pc' := 254) at_252 rfl rfl ?_
            refine g_dcmp cx o (pc' := 255) at_254 rfl ?_
            refine g_if_ne cx o (pc' := 275) (pc2 := 258) at_255 (by decide) (by decide) rfl (fun c255 => absurd (by first | exact dcmpV_self oR.one.nn _ | (rw [h_f1]; exact dcmpV_self oR.one.nn _) | (rw [h_f2]; exact dcmpV_self oR.one.nn _)) c255) (fun c255 => ?_)
            refine g_aload cx o (pc' := 260) at_258 rfl rfl rfl ?_
            refine g_iload cx o (pc' := 262) at_260 rfl rfl ?_
            refine g_virtual cx o (pc' := 265) (y := (⟨"com/example/cachesmith/cachesmith/solver/Knapsack", "share", "(I)D"⟩ : MethodName)) (z := (⟨"com/example/cachesmith/cachesmith/solver/Knapsack", "share", "(I)D"⟩ : MethodName)) (hw _ (List.mem_of_getElem? (i := 42) rfl)) (hw _ (List.mem_of_getElem? (i := 43) rfl)) (notFace_of_selects (args := #[]) (mvT cx.2.1 (hw _ (List.mem_of_getElem? (i := 45) rfl)))) (hw _ (List.mem_of_getElem? (i := 45) rfl)) (hw _ (List.mem_of_getElem? (i := 44) rfl)) (hw _ (List.mem_of_getElem? (i := 8) rfl)) (hw _ (List.mem_of_getElem? (i := 46) rfl)) 3 rfl (rmSh l Z a0 hw er sr vr kr cp _ _ _ _ _ _ _ _ _ _ _ _ _ _ _ _ _ (fun q => absurd q (by omega)))  rfl pd_6 rfl (by decide) rfl 0 (Nat.le_of_eq rfl) (by decide) (by decide) (by decide) (by decide) at_262 rfl (fun T v L hQ o => ?_)
            obtain ⟨d2, rfl, kd2, rfl⟩ := hQ
            simp only [Option.toList_some, Option.toList_none, List.cons_append, List.nil_append]
            have ed2 : d2 = FP.dconst1 := kd2.elim (fun q => absurd q.2.1 (by omega)) (fun q => q.2)
            subst ed2
            refine g_dload cx o (pc' := 267) at_265 rfl rfl ?_
            refine g_dcmp cx o (pc' := 268) at_267 rfl ?_
            refine g_if_ne cx o (pc' := 275) (pc2 := 271) at_268 (by decide) (by decide) rfl (fun c268 => absurd (by first | exact dcmpV_self oR.one.nn _ | (rw [h_f1]; exact dcmpV_self oR.one.nn _) | (rw [h_f2]; exact dcmpV_self oR.one.nn _)) c268) (fun c268 => ?_)
            refine g_iconst cx o (pc' := 272) (1 : Int32) at_271 rfl rfl ?_
            refine g_goto cx o (pc' := 276) at_272 (by decide) (by decide) ?_
            exact g_ireturnZ cx o at_276 (by decide) (by decide) (by decide) rfl
          · refine g_dload cx o (pc' := 240) at_238 rfl rfl ?_
            refine g_goto cx o (pc' := 244) at_240 (by decide) (by decide) ?_
            refine g_dstore cx o (pc' := 246) (l' := #[.val (.int p0), .val (.int p1), .val (.int p2), .val (.long p3), .second, .val (.long p4), .second, .val (.int p5), .val (.int cp), .val (.int s1), .val (.int s2), .val (.long e1), .second, .val (.long e2), .second, .val (.int (0 : Int32)), .val (.int (1 : Int32)), .val (.int (2 : Int32)), .val (.ref kr), .val (.long pq), .second, .val (.long qq), .second, .val (.int (0 : Int32)), .val (.int s1), .val (.int s2), .val (.double f1), .second, .val (.double f1), .second]) at_244 rfl rfl ?_
            refine g_aload cx o (pc' := 248) at_246 rfl rfl rfl ?_
            refine g_iconst cx o (pc' := 249) (0 : Int32) at_248 rfl rfl ?_
            refine g_virtual cx o (pc' := 252) (y := (⟨"com/example/cachesmith/cachesmith/solver/Knapsack", "share", "(I)D"⟩ : MethodName)) (z := (⟨"com/example/cachesmith/cachesmith/solver/Knapsack", "share", "(I)D"⟩ : MethodName)) (hw _ (List.mem_of_getElem? (i := 42) rfl)) (hw _ (List.mem_of_getElem? (i := 43) rfl)) (notFace_of_selects (args := #[]) (mvT cx.2.1 (hw _ (List.mem_of_getElem? (i := 45) rfl)))) (hw _ (List.mem_of_getElem? (i := 45) rfl)) (hw _ (List.mem_of_getElem? (i := 44) rfl)) (hw _ (List.mem_of_getElem? (i := 8) rfl)) (hw _ (List.mem_of_getElem? (i := 46) rfl)) 3 rfl (rmSh l Z a0 hw er sr vr kr cp _ _ _ _ _ _ _ _ _ _ _ _ _ _ _ _ _ (fun q => absurd q (by omega)))  rfl pd_6 rfl (by decide) rfl 0 (Nat.le_of_eq rfl) (by decide) (by decide) (by decide) (by decide) at_249 rfl (fun T v L hQ o => ?_)
            obtain ⟨d1, rfl, kd1, rfl⟩ := hQ
            simp only [Option.toList_some, Option.toList_none, List.cons_append, List.nil_append]
            have ed1 : d1 = FP.dconst1 := kd1.elim (fun q => absurd q.2.1 (by omega)) (fun q => q.2)
            subst ed1
            refine g_dload cx o (pc' := 254) at_252 rfl rfl ?_
            refine g_dcmp cx o (pc' := 255) at_254 rfl ?_
            refine g_if_ne cx o (pc' := 275) (pc2 := 258) at_255 (by decide) (by decide) rfl (fun c255 => absurd (by first | exact dcmpV_self oR.one.nn _ | (rw [h_f1]; exact dcmpV_self oR.one.nn _) | (rw [h_f2]; exact dcmpV_self oR.one.nn _)) c255) (fun c255 => ?_)
            refine g_aload cx o (pc' := 260) at_258 rfl rfl rfl ?_
            refine g_iload cx o (pc' := 262) at_260 rfl rfl ?_
            refine g_virtual cx o (pc' := 265) (y := (⟨"com/example/cachesmith/cachesmith/solver/Knapsack", "share", "(I)D"⟩ : MethodName)) (z := (⟨"com/example/cachesmith/cachesmith/solver/Knapsack", "share", "(I)D"⟩ : MethodName)) (hw _ (List.mem_of_getElem? (i := 42) rfl)) (hw _ (List.mem_of_getElem? (i := 43) rfl)) (notFace_of_selects (args := #[]) (mvT cx.2.1 (hw _ (List.mem_of_getElem? (i := 45) rfl)))) (hw _ (List.mem_of_getElem? (i := 45) rfl)) (hw _ (List.mem_of_getElem? (i := 44) rfl)) (hw _ (List.mem_of_getElem? (i := 8) rfl)) (hw _ (List.mem_of_getElem? (i := 46) rfl)) 3 rfl (rmSh l Z a0 hw er sr vr kr cp _ _ _ _ _ _ _ _ _ _ _ _ _ _ _ _ _ (fun q => absurd q (by omega)))  rfl pd_6 rfl (by decide) rfl 0 (Nat.le_of_eq rfl) (by decide) (by decide) (by decide) (by decide) at_262 rfl (fun T v L hQ o => ?_)
            obtain ⟨d2, rfl, kd2, rfl⟩ := hQ
            simp only [Option.toList_some, Option.toList_none, List.cons_append, List.nil_append]
            have ed2 : d2 = FP.dconst1 := kd2.elim (fun q => absurd q.2.1 (by omega)) (fun q => q.2)
            subst ed2
            refine g_dload cx o (pc' := 267) at_265 rfl rfl ?_
            refine g_dcmp cx o (pc' := 268) at_267 rfl ?_
            refine g_if_ne cx o (pc' := 275) (pc2 := 271) at_268 (by decide) (by decide) rfl (fun c268 => absurd (by first | exact dcmpV_self oR.one.nn _ | (rw [h_f1]; exact dcmpV_self oR.one.nn _) | (rw [h_f2]; exact dcmpV_self oR.one.nn _)) c268) (fun c268 => ?_)
            refine g_iconst cx o (pc' := 272) (1 : Int32) at_271 rfl rfl ?_
            refine g_goto cx o (pc' := 276) at_272 (by decide) (by decide) ?_
            exact g_ireturnZ cx o at_276 (by decide) (by decide) (by decide) rfl
        · have c200 := Int32.lt_iff_toInt_lt.mp c200
          refine g_iload cx o (pc' := 205) at_203 rfl rfl ?_
          refine g_i2l cx o (pc' := 206) at_205 rfl ?_
          refine g_iload cx o (pc' := 208) at_206 rfl rfl ?_
          refine g_i2l cx o (pc' := 209) at_208 rfl ?_
          refine g_ladd cx o (pc' := 210) at_209 rfl ?_
          refine g_iload cx o (pc' := 212) at_210 rfl rfl ?_
          refine g_i2l cx o (pc' := 213) at_212 rfl ?_
          refine g_lcmp cx o (pc' := 214) at_213 rfl ?_
          have ka : (s1.toInt64 + s2.toInt64).toInt = s1.toInt + s2.toInt := by rw [Jvm.Kit.i64_add (by rw [j1, j2]; omega) (by rw [j1, j2]; omega), j1, j2]
          refine g_if_le cx o (pc' := 230) (pc2 := 217) at_214 (by decide) (by decide) rfl (fun c214 => ?_) (fun c214 => ?_)
          · have c : ¬ _ := fun z => c214 ((o_cmpL _ _).mpr z)
            rw [ka, jc] at c
            have hc : h2.toInt ≤ cp.toInt := by
              rcases sq with q | q
              · exact q.1
              · exact absurd q (fun q => c (by omega))
            refine g_dconst1 cx o (pc' := 231) at_230 rfl ?_
            refine g_dstoreV cx o (pc' := 233) (fun w' => #[.val (.int p0), .val (.int p1), .val (.int p2), .val (.long p3), .second, .val (.long p4), .second, .val (.int p5), .val (.int cp), .val (.int s1), .val (.int s2), .val (.long e1), .second, .val (.long e2), .second, .val (.int (0 : Int32)), .val (.int (1 : Int32)), .val (.int (2 : Int32)), .val (.ref kr), .val (.long pq), .second, .val (.long qq), .second, .val (.int (0 : Int32)), .val (.int s1), .val (.int s2), .val (.double w'), .second, .unset, .unset]) at_231 rfl (fun _ => rfl) (fun f1 h_f1 => ?_)
            refine g_iload cx o (pc' := 235) at_233 rfl rfl ?_
            refine g_if_ne cx o (pc' := 243) (pc2 := 238) at_235 (by decide) (by decide) rfl (fun c235 => ?_) (fun c235 => ?_)
            · refine g_dconst1 cx o (pc' := 244) at_243 rfl ?_
              refine g_dstoreV cx o (pc' := 246) (fun w' => #[.val (.int p0), .val (.int p1), .val (.int p2), .val (.long p3), .second, .val (.long p4), .second, .val (.int p5), .val (.int cp), .val (.int s1), .val (.int s2), .val (.long e1), .second, .val (.long e2), .second, .val (.int (0 : Int32)), .val (.int (1 : Int32)), .val (.int (2 : Int32)), .val (.ref kr), .val (.long pq), .second, .val (.long qq), .second, .val (.int (0 : Int32)), .val (.int s1), .val (.int s2), .val (.double f1), .second, .val (.double w'), .second]) at_244 rfl (fun _ => rfl) (fun f2 h_f2 => ?_)
              refine g_aload cx o (pc' := 248) at_246 rfl rfl rfl ?_
              refine g_iconst cx o (pc' := 249) (0 : Int32) at_248 rfl rfl ?_
              refine g_virtual cx o (pc' := 252) (y := (⟨"com/example/cachesmith/cachesmith/solver/Knapsack", "share", "(I)D"⟩ : MethodName)) (z := (⟨"com/example/cachesmith/cachesmith/solver/Knapsack", "share", "(I)D"⟩ : MethodName)) (hw _ (List.mem_of_getElem? (i := 42) rfl)) (hw _ (List.mem_of_getElem? (i := 43) rfl)) (notFace_of_selects (args := #[]) (mvT cx.2.1 (hw _ (List.mem_of_getElem? (i := 45) rfl)))) (hw _ (List.mem_of_getElem? (i := 45) rfl)) (hw _ (List.mem_of_getElem? (i := 44) rfl)) (hw _ (List.mem_of_getElem? (i := 8) rfl)) (hw _ (List.mem_of_getElem? (i := 46) rfl)) 3 rfl (rmSh l Z a0 hw er sr vr kr cp _ _ _ _ _ _ _ _ _ _ _ _ _ _ _ _ _ (fun q => absurd q (by omega)))  rfl pd_6 rfl (by decide) rfl 0 (Nat.le_of_eq rfl) (by decide) (by decide) (by decide) (by decide) at_249 rfl (fun T v L hQ o => ?_)
              obtain ⟨d1, rfl, kd1, rfl⟩ := hQ
              simp only [Option.toList_some, Option.toList_none, List.cons_append, List.nil_append]
              have ed1 : d1 = FP.dconst1 := kd1.elim (fun q => absurd q.2.1 (by omega)) (fun q => q.2)
              subst ed1
              refine g_dload cx o (pc' := 254) at_252 rfl rfl ?_
              refine g_dcmp cx o (pc' := 255) at_254 rfl ?_
              refine g_if_ne cx o (pc' := 275) (pc2 := 258) at_255 (by decide) (by decide) rfl (fun c255 => absurd (by first | exact dcmpV_self oR.one.nn _ | (rw [h_f1]; exact dcmpV_self oR.one.nn _) | (rw [h_f2]; exact dcmpV_self oR.one.nn _)) c255) (fun c255 => ?_)
              refine g_aload cx o (pc' := 260) at_258 rfl rfl rfl ?_
              refine g_iload cx o (pc' := 262) at_260 rfl rfl ?_
              refine g_virtual cx o (pc' := 265) (y := (⟨"com/example/cachesmith/cachesmith/solver/Knapsack", "share", "(I)D"⟩ : MethodName)) (z := (⟨"com/example/cachesmith/cachesmith/solver/Knapsack", "share", "(I)D"⟩ : MethodName)) (hw _ (List.mem_of_getElem? (i := 42) rfl)) (hw _ (List.mem_of_getElem? (i := 43) rfl)) (notFace_of_selects (args := #[]) (mvT cx.2.1 (hw _ (List.mem_of_getElem? (i := 45) rfl)))) (hw _ (List.mem_of_getElem? (i := 45) rfl)) (hw _ (List.mem_of_getElem? (i := 44) rfl)) (hw _ (List.mem_of_getElem? (i := 8) rfl)) (hw _ (List.mem_of_getElem? (i := 46) rfl)) 3 rfl (rmSh l Z a0 hw er sr vr kr cp _ _ _ _ _ _ _ _ _ _ _ _ _ _ _ _ _ (fun q => absurd q (by omega)))  rfl pd_6 rfl (by decide) rfl 0 (Nat.le_of_eq rfl) (by decide) (by decide) (by decide) (by decide) at_262 rfl (fun T v L hQ o => ?_)
              obtain ⟨d2, rfl, kd2, rfl⟩ := hQ
              simp only [Option.toList_some, Option.toList_none, List.cons_append, List.nil_append]
              have ed2 : d2 = FP.dconst1 := kd2.elim (fun q => absurd q.2.1 (by omega)) (fun q => q.2)
              subst ed2
              refine g_dload cx o (pc' := 267) at_265 rfl rfl ?_
              refine g_dcmp cx o (pc' := 268) at_267 rfl ?_
              refine g_if_ne cx o (pc' := 275) (pc2 := 271) at_268 (by decide) (by decide) rfl (fun c268 => absurd (by first | exact dcmpV_self oR.one.nn _ | (rw [h_f1]; exact dcmpV_self oR.one.nn _) | (rw [h_f2]; exact dcmpV_self oR.one.nn _)) c268) (fun c268 => ?_)
              refine g_iconst cx o (pc' := 272) (1 : Int32) at_271 rfl rfl ?_
              refine g_goto cx o (pc' := 276) at_272 (by decide) (by decide) ?_
              exact g_ireturnZ cx o at_276 (by decide) (by decide) (by decide) rfl
            · refine g_dload cx o (pc' := 240) at_238 rfl rfl ?_
              refine g_goto cx o (pc' := 244) at_240 (by decide) (by decide) ?_
              refine g_dstore cx o (pc' := 246) (l' := #[.val (.int p0), .val (.int p1), .val (.int p2), .val (.long p3), .second, .val (.long p4), .second, .val (.int p5), .val (.int cp), .val (.int s1), .val (.int s2), .val (.long e1), .second, .val (.long e2), .second, .val (.int (0 : Int32)), .val (.int (1 : Int32)), .val (.int (2 : Int32)), .val (.ref kr), .val (.long pq), .second, .val (.long qq), .second, .val (.int (0 : Int32)), .val (.int s1), .val (.int s2), .val (.double f1), .second, .val (.double f1), .second]) at_244 rfl rfl ?_
              refine g_aload cx o (pc' := 248) at_246 rfl rfl rfl ?_
              refine g_iconst cx o (pc' := 249) (0 : Int32) at_248 rfl rfl ?_
              refine g_virtual cx o (pc' := 252) (y := (⟨"com/example/cachesmith/cachesmith/solver/Knapsack", "share", "(I)D"⟩ : MethodName)) (z := (⟨"com/example/cachesmith/cachesmith/solver/Knapsack", "share", "(I)D"⟩ : MethodName)) (hw _ (List.mem_of_getElem? (i := 42) rfl)) (hw _ (List.mem_of_getElem? (i := 43) rfl)) (notFace_of_selects (args := #[]) (mvT cx.2.1 (hw _ (List.mem_of_getElem? (i := 45) rfl)))) (hw _ (List.mem_of_getElem? (i := 45) rfl)) (hw _ (List.mem_of_getElem? (i := 44) rfl)) (hw _ (List.mem_of_getElem? (i := 8) rfl)) (hw _ (List.mem_of_getElem? (i := 46) rfl)) 3 rfl (rmSh l Z a0 hw er sr vr kr cp _ _ _ _ _ _ _ _ _ _ _ _ _ _ _ _ _ (fun q => absurd q (by omega)))  rfl pd_6 rfl (by decide) rfl 0 (Nat.le_of_eq rfl) (by decide) (by decide) (by decide) (by decide) at_249 rfl (fun T v L hQ o => ?_)
              obtain ⟨d1, rfl, kd1, rfl⟩ := hQ
              simp only [Option.toList_some, Option.toList_none, List.cons_append, List.nil_append]
              have ed1 : d1 = FP.dconst1 := kd1.elim (fun q => absurd q.2.1 (by omega)) (fun q => q.2)
              subst ed1
              refine g_dload cx o (pc' := 254) at_252 rfl rfl ?_
              refine g_dcmp cx o (pc' := 255) at_254 rfl ?_
              refine g_if_ne cx o (pc' := 275) (pc2 := 258) at_255 (by decide) (by decide) rfl (fun c255 => absurd (by first | exact dcmpV_self oR.one.nn _ | (rw [h_f1]; exact dcmpV_self oR.one.nn _) | (rw [h_f2]; exact dcmpV_self oR.one.nn _)) c255) (fun c255 => ?_)
              refine g_aload cx o (pc' := 260) at_258 rfl rfl rfl ?_
              refine g_iload cx o (pc' := 262) at_260 rfl rfl ?_
              refine g_virtual cx o (pc' := 265) (y := (⟨"com/example/cachesmith/cachesmith/solver/Knapsack", "share", "(I)D"⟩ : MethodName)) (z := (⟨"com/example/cachesmith/cachesmith/solver/Knapsack", "share", "(I)D"⟩ : MethodName)) (hw _ (List.mem_of_getElem? (i := 42) rfl)) (hw _ (List.mem_of_getElem? (i := 43) rfl)) (notFace_of_selects (args := #[]) (mvT cx.2.1 (hw _ (List.mem_of_getElem? (i := 45) rfl)))) (hw _ (List.mem_of_getElem? (i := 45) rfl)) (hw _ (List.mem_of_getElem? (i := 44) rfl)) (hw _ (List.mem_of_getElem? (i := 8) rfl)) (hw _ (List.mem_of_getElem? (i := 46) rfl)) 3 rfl (rmSh l Z a0 hw er sr vr kr cp _ _ _ _ _ _ _ _ _ _ _ _ _ _ _ _ _ (fun q => absurd q (by omega)))  rfl pd_6 rfl (by decide) rfl 0 (Nat.le_of_eq rfl) (by decide) (by decide) (by decide) (by decide) at_262 rfl (fun T v L hQ o => ?_)
              obtain ⟨d2, rfl, kd2, rfl⟩ := hQ
              simp only [Option.toList_some, Option.toList_none, List.cons_append, List.nil_append]
              have ed2 : d2 = FP.dconst1 := kd2.elim (fun q => absurd q.2.1 (by omega)) (fun q => q.2)
              subst ed2
              refine g_dload cx o (pc' := 267) at_265 rfl rfl ?_
              refine g_dcmp cx o (pc' := 268) at_267 rfl ?_
              refine g_if_ne cx o (pc' := 275) (pc2 := 271) at_268 (by decide) (by decide) rfl (fun c268 => absurd (by first | exact dcmpV_self oR.one.nn _ | (rw [h_f1]; exact dcmpV_self oR.one.nn _) | (rw [h_f2]; exact dcmpV_self oR.one.nn _)) c268) (fun c268 => ?_)
              refine g_iconst cx o (pc' := 272) (1 : Int32) at_271 rfl rfl ?_
              refine g_goto cx o (pc' := 276) at_272 (by decide) (by decide) ?_
              exact g_ireturnZ cx o at_276 (by decide) (by decide) (by decide) rfl
          · have c := (o_cmpL _ _).mp c214
            rw [ka, jc] at c
            have hc : h2.toInt = s1.toInt + s2.toInt ∧ y0 = s2 := by
              rcases sq with q | q
              · exact absurd q (fun q => by omega)
              · exact ⟨q.1, q.2.2.2⟩
            obtain ⟨hc, ey⟩ := hc
            have ki : (cp - s1).toInt = cp.toInt - s1.toInt := by rw [Jvm.Kit.i32_sub (by omega) (by omega)]
            have Ri := o_i2dN (x := cp - s1) (by omega)
            have Rm := o_i2dN (x := s2) (by omega)
            have kj : (h2 - y0.toInt64).toInt = s1.toInt := by rw [ey, Jvm.Kit.i64_sub (by rw [j2]; omega) (by rw [j2]; omega), j2]; omega
            have kl2 : (cp.toInt64 - (h2 - y0.toInt64)).toInt = cp.toInt - s1.toInt := by rw [Jvm.Kit.i64_sub (by rw [kj, jc]; omega) (by rw [kj, jc]; omega), kj, jc]
            have Rl := o_l2dN (x := cp.toInt64 - (h2 - y0.toInt64)) (by omega)
            have Ry : oR ((s2.toInt.toNat : Nat) : Int) 0 (FP.i2d y0) := by rw [ey]; exact Rm
            have nA : NoNaN64 (FP.ddiv (FP.i2d (cp - s1)) (FP.i2d s2)) := o_div_nn Ri Rm (by omega)
            have nB : NoNaN64 (FP.ddiv (FP.l2d (cp.toInt64 - (h2 - y0.toInt64))) (FP.i2d y0)) := o_div_nn Rl Ry (by omega)
            have eqz : oz (FP.ddiv (FP.l2d (cp.toInt64 - (h2 - y0.toInt64))) (FP.i2d y0)) = oz (FP.ddiv (FP.i2d (cp - s1)) (FP.i2d s2)) := by
              have zi := Ri.z (by decide)
              have zm := Rm.z (by decide)
              have zl := Rl.z (by decide)
              have zy := Ry.z (by decide)
              rw [kl2] at zl
              rw [ki] at zi
              have pp := o_pow_pos (1074 - 0)
              have pm : (0 : Int) < ((s2.toInt.toNat : Nat) : Int) := by omega
              refine o_div_same Rl.1 Ry.1 Ri.1 Rm.1 (by rw [zy]; exact Int.mul_pos pm pp) (by rw [zm]; exact Int.mul_pos pm pp) (by rw [zl]; exact Int.mul_nonneg (Int.natCast_nonneg _) (Int.natCast_nonneg _)) (by rw [zi]; exact Int.mul_nonneg (Int.natCast_nonneg _) (Int.natCast_nonneg _)) (by rw [zl, zy, zi, zm])
            have cq : cmpValue (FP.dcmp (FP.ddiv (FP.l2d (cp.toInt64 - (h2 - y0.toInt64))) (FP.i2d y0)) (FP.ddiv (FP.i2d (cp - s1)) (FP.i2d s2))) .l = 0 := by rw [o_cvz nB nA, if_neg (by omega), if_pos eqz]
            refine g_iload cx o (pc' := 219) at_217 rfl rfl ?_
            refine g_iload cx o (pc' := 221) at_219 rfl rfl ?_
            refine g_isub cx o (pc' := 222) at_221 rfl ?_
            refine g_i2d cx o (pc' := 223) at_222 rfl ?_
            refine g_iload cx o (pc' := 225) at_223 rfl rfl ?_
            refine g_i2d cx o (pc' := 226) at_225 rfl ?_
            refine g_ddiv cx o (pc' := 227) at_226 rfl nA ?_
            refine g_goto cx o (pc' := 231) at_227 (by decide) (by decide) ?_
            refine g_dstoreV cx o (pc' := 233) (fun w' => #[.val (.int p0), .val (.int p1), .val (.int p2), .val (.long p3), .second, .val (.long p4), .second, .val (.int p5), .val (.int cp), .val (.int s1), .val (.int s2), .val (.long e1), .second, .val (.long e2), .second, .val (.int (0 : Int32)), .val (.int (1 : Int32)), .val (.int (2 : Int32)), .val (.ref kr), .val (.long pq), .second, .val (.long qq), .second, .val (.int (0 : Int32)), .val (.int s1), .val (.int s2), .val (.double w'), .second, .unset, .unset]) at_231 rfl (fun _ => rfl) (fun ex h_ex => ?_)
            refine g_iload cx o (pc' := 235) at_233 rfl rfl ?_
            refine g_if_ne cx o (pc' := 243) (pc2 := 238) at_235 (by decide) (by decide) rfl (fun c235 => ?_) (fun c235 => ?_)
            · refine g_dconst1 cx o (pc' := 244) at_243 rfl ?_
              refine g_dstoreV cx o (pc' := 246) (fun w' => #[.val (.int p0), .val (.int p1), .val (.int p2), .val (.long p3), .second, .val (.long p4), .second, .val (.int p5), .val (.int cp), .val (.int s1), .val (.int s2), .val (.long e1), .second, .val (.long e2), .second, .val (.int (0 : Int32)), .val (.int (1 : Int32)), .val (.int (2 : Int32)), .val (.ref kr), .val (.long pq), .second, .val (.long qq), .second, .val (.int (0 : Int32)), .val (.int s1), .val (.int s2), .val (.double ex), .second, .val (.double w'), .second]) at_244 rfl (fun _ => rfl) (fun f1 h_f1 => ?_)
              refine g_aload cx o (pc' := 248) at_246 rfl rfl rfl ?_
              refine g_iconst cx o (pc' := 249) (0 : Int32) at_248 rfl rfl ?_
              refine g_virtual cx o (pc' := 252) (y := (⟨"com/example/cachesmith/cachesmith/solver/Knapsack", "share", "(I)D"⟩ : MethodName)) (z := (⟨"com/example/cachesmith/cachesmith/solver/Knapsack", "share", "(I)D"⟩ : MethodName)) (hw _ (List.mem_of_getElem? (i := 42) rfl)) (hw _ (List.mem_of_getElem? (i := 43) rfl)) (notFace_of_selects (args := #[]) (mvT cx.2.1 (hw _ (List.mem_of_getElem? (i := 45) rfl)))) (hw _ (List.mem_of_getElem? (i := 45) rfl)) (hw _ (List.mem_of_getElem? (i := 44) rfl)) (hw _ (List.mem_of_getElem? (i := 8) rfl)) (hw _ (List.mem_of_getElem? (i := 46) rfl)) 3 rfl (rmSh l Z a0 hw er sr vr kr cp _ _ _ _ _ _ _ _ _ _ _ _ _ _ _ _ _ (fun _ => nB))  rfl pd_6 rfl (by decide) rfl 0 (Nat.le_of_eq rfl) (by decide) (by decide) (by decide) (by decide) at_249 rfl (fun T v L hQ o => ?_)
              obtain ⟨d1, rfl, kd1, rfl⟩ := hQ
              simp only [Option.toList_some, Option.toList_none, List.cons_append, List.nil_append]
              have ed1 := kd1.elim (fun q => q.2.2) (fun q => q.1.elim (fun z => absurd rfl z) (fun z => absurd z (by omega)))
              rw [← ed1, ← h_ex] at cq
              refine g_dload cx o (pc' := 254) at_252 rfl rfl ?_
              refine g_dcmp cx o (pc' := 255) at_254 rfl ?_
              refine g_if_ne cx o (pc' := 275) (pc2 := 258) at_255 (by decide) (by decide) rfl (fun c255 => absurd cq c255) (fun c255 => ?_)
              refine g_aload cx o (pc' := 260) at_258 rfl rfl rfl ?_
              refine g_iload cx o (pc' := 262) at_260 rfl rfl ?_
              refine g_virtual cx o (pc' := 265) (y := (⟨"com/example/cachesmith/cachesmith/solver/Knapsack", "share", "(I)D"⟩ : MethodName)) (z := (⟨"com/example/cachesmith/cachesmith/solver/Knapsack", "share", "(I)D"⟩ : MethodName)) (hw _ (List.mem_of_getElem? (i := 42) rfl)) (hw _ (List.mem_of_getElem? (i := 43) rfl)) (notFace_of_selects (args := #[]) (mvT cx.2.1 (hw _ (List.mem_of_getElem? (i := 45) rfl)))) (hw _ (List.mem_of_getElem? (i := 45) rfl)) (hw _ (List.mem_of_getElem? (i := 44) rfl)) (hw _ (List.mem_of_getElem? (i := 8) rfl)) (hw _ (List.mem_of_getElem? (i := 46) rfl)) 3 rfl (rmSh l Z a0 hw er sr vr kr cp _ _ _ _ _ _ _ _ _ _ _ _ _ _ _ _ _ (fun _ => nB))  rfl pd_6 rfl (by decide) rfl 0 (Nat.le_of_eq rfl) (by decide) (by decide) (by decide) (by decide) at_262 rfl (fun T v L hQ o => ?_)
              obtain ⟨d2, rfl, kd2, rfl⟩ := hQ
              simp only [Option.toList_some, Option.toList_none, List.cons_append, List.nil_append]
              have ed2 : d2 = FP.dconst1 := kd2.elim (fun q => absurd q.1 c235) (fun q => q.2)
              subst ed2
              refine g_dload cx o (pc' := 267) at_265 rfl rfl ?_
              refine g_dcmp cx o (pc' := 268) at_267 rfl ?_
              refine g_if_ne cx o (pc' := 275) (pc2 := 271) at_268 (by decide) (by decide) rfl (fun c268 => absurd (by first | exact dcmpV_self oR.one.nn _ | (rw [h_f1]; exact dcmpV_self oR.one.nn _) | (rw [h_f2]; exact dcmpV_self oR.one.nn _)) c268) (fun c268 => ?_)
              refine g_iconst cx o (pc' := 272) (1 : Int32) at_271 rfl rfl ?_
              refine g_goto cx o (pc' := 276) at_272 (by decide) (by decide) ?_
              exact g_ireturnZ cx o at_276 (by decide) (by decide) (by decide) rfl
            · refine g_dload cx o (pc' := 240) at_238 rfl rfl ?_
              refine g_goto cx o (pc' := 244) at_240 (by decide) (by decide) ?_
              refine g_dstore cx o (pc' := 246) (l' := #[.val (.int p0), .val (.int p1), .val (.int p2), .val (.long p3), .second, .val (.long p4), .second, .val (.int p5), .val (.int cp), .val (.int s1), .val (.int s2), .val (.long e1), .second, .val (.long e2), .second, .val (.int (0 : Int32)), .val (.int (1 : Int32)), .val (.int (2 : Int32)), .val (.ref kr), .val (.long pq), .second, .val (.long qq), .second, .val (.int (0 : Int32)), .val (.int s1), .val (.int s2), .val (.double ex), .second, .val (.double ex), .second]) at_244 rfl rfl ?_
              refine g_aload cx o (pc' := 248) at_246 rfl rfl rfl ?_
              refine g_iconst cx o (pc' := 249) (0 : Int32) at_248 rfl rfl ?_
              refine g_virtual cx o (pc' := 252) (y := (⟨"com/example/cachesmith/cachesmith/solver/Knapsack", "share", "(I)D"⟩ : MethodName)) (z := (⟨"com/example/cachesmith/cachesmith/solver/Knapsack", "share", "(I)D"⟩ : MethodName)) (hw _ (List.mem_of_getElem? (i := 42) rfl)) (hw _ (List.mem_of_getElem? (i := 43) rfl)) (notFace_of_selects (args := #[]) (mvT cx.2.1 (hw _ (List.mem_of_getElem? (i := 45) rfl)))) (hw _ (List.mem_of_getElem? (i := 45) rfl)) (hw _ (List.mem_of_getElem? (i := 44) rfl)) (hw _ (List.mem_of_getElem? (i := 8) rfl)) (hw _ (List.mem_of_getElem? (i := 46) rfl)) 3 rfl (rmSh l Z a0 hw er sr vr kr cp _ _ _ _ _ _ _ _ _ _ _ _ _ _ _ _ _ (fun _ => nB))  rfl pd_6 rfl (by decide) rfl 0 (Nat.le_of_eq rfl) (by decide) (by decide) (by decide) (by decide) at_249 rfl (fun T v L hQ o => ?_)
              obtain ⟨d1, rfl, kd1, rfl⟩ := hQ
              simp only [Option.toList_some, Option.toList_none, List.cons_append, List.nil_append]
              have ed1 := kd1.elim (fun q => q.2.2) (fun q => q.1.elim (fun z => absurd rfl z) (fun z => absurd z (by omega)))
              rw [← ed1, ← h_ex] at cq
              refine g_dload cx o (pc' := 254) at_252 rfl rfl ?_
              refine g_dcmp cx o (pc' := 255) at_254 rfl ?_
              refine g_if_ne cx o (pc' := 275) (pc2 := 258) at_255 (by decide) (by decide) rfl (fun c255 => absurd cq c255) (fun c255 => ?_)
              refine g_aload cx o (pc' := 260) at_258 rfl rfl rfl ?_
              refine g_iload cx o (pc' := 262) at_260 rfl rfl ?_
              refine g_virtual cx o (pc' := 265) (y := (⟨"com/example/cachesmith/cachesmith/solver/Knapsack", "share", "(I)D"⟩ : MethodName)) (z := (⟨"com/example/cachesmith/cachesmith/solver/Knapsack", "share", "(I)D"⟩ : MethodName)) (hw _ (List.mem_of_getElem? (i := 42) rfl)) (hw _ (List.mem_of_getElem? (i := 43) rfl)) (notFace_of_selects (args := #[]) (mvT cx.2.1 (hw _ (List.mem_of_getElem? (i := 45) rfl)))) (hw _ (List.mem_of_getElem? (i := 45) rfl)) (hw _ (List.mem_of_getElem? (i := 44) rfl)) (hw _ (List.mem_of_getElem? (i := 8) rfl)) (hw _ (List.mem_of_getElem? (i := 46) rfl)) 3 rfl (rmSh l Z a0 hw er sr vr kr cp _ _ _ _ _ _ _ _ _ _ _ _ _ _ _ _ _ (fun _ => nB))  rfl pd_6 rfl (by decide) rfl 0 (Nat.le_of_eq rfl) (by decide) (by decide) (by decide) (by decide) at_262 rfl (fun T v L hQ o => ?_)
              obtain ⟨d2, rfl, kd2, rfl⟩ := hQ
              simp only [Option.toList_some, Option.toList_none, List.cons_append, List.nil_append]
              have ed2 : d2 = d1 := kd2.elim (fun q => q.2.2.trans ed1.symm) (fun q => q.1.elim (fun z => absurd c235 z) (fun z => absurd z (by omega)))
              subst ed2
              refine g_dload cx o (pc' := 267) at_265 rfl rfl ?_
              refine g_dcmp cx o (pc' := 268) at_267 rfl ?_
              refine g_if_ne cx o (pc' := 275) (pc2 := 271) at_268 (by decide) (by decide) rfl (fun c268 => absurd cq c268) (fun c268 => ?_)
              refine g_iconst cx o (pc' := 272) (1 : Int32) at_271 rfl rfl ?_
              refine g_goto cx o (pc' := 276) at_272 (by decide) (by decide) ?_
              exact g_ireturnZ cx o at_276 (by decide) (by decide) (by decide) rfl
  · refine g_iconst cx o (pc' := 59) (1 : Int32) at_58 rfl rfl ?_
    refine g_goto cx o (pc' := 63) at_59 (by decide) (by decide) ?_
    refine g_istore cx o (pc' := 65) (l' := #[.val (.int p0), .val (.int p1), .val (.int p2), .val (.long p3), .second, .val (.long p4), .second, .val (.int p5), .val (.int cp), .val (.int s1), .val (.int s2), .val (.long e1), .second, .val (.long e2), .second, .val (.int (1 : Int32)), .unset, .unset, .unset, .unset, .unset, .unset, .unset, .unset, .unset, .unset, .unset, .unset, .unset, .unset]) at_63 rfl rfl ?_
    refine g_iload cx o (pc' := 67) at_65 rfl rfl ?_
    refine g_if_eq cx o (pc' := 74) (pc2 := 70) at_67 (by decide) (by decide) rfl (fun c67 => absurd c67 (by decide)) (fun c67 => ?_)
    refine g_iconst cx o (pc' := 71) (2 : Int32) at_70 rfl rfl ?_
    refine g_goto cx o (pc' := 75) at_71 (by decide) (by decide) ?_
    refine g_istore cx o (pc' := 77) (l' := #[.val (.int p0), .val (.int p1), .val (.int p2), .val (.long p3), .second, .val (.long p4), .second, .val (.int p5), .val (.int cp), .val (.int s1), .val (.int s2), .val (.long e1), .second, .val (.long e2), .second, .val (.int (1 : Int32)), .val (.int (2 : Int32)), .unset, .unset, .unset, .unset, .unset, .unset, .unset, .unset, .unset, .unset, .unset, .unset, .unset]) at_75 rfl rfl ?_
    refine g_iload cx o (pc' := 79) at_77 rfl rfl ?_
    refine g_if_eq cx o (pc' := 86) (pc2 := 82) at_79 (by decide) (by decide) rfl (fun c79 => absurd c79 (by decide)) (fun c79 => ?_)
    refine g_iconst cx o (pc' := 83) (1 : Int32) at_82 rfl rfl ?_
    refine g_goto cx o (pc' := 87) at_83 (by decide) (by decide) ?_
    refine g_istore cx o (pc' := 89) (l' := #[.val (.int p0), .val (.int p1), .val (.int p2), .val (.long p3), .second, .val (.long p4), .second, .val (.int p5), .val (.int cp), .val (.int s1), .val (.int s2), .val (.long e1), .second, .val (.long e2), .second, .val (.int (1 : Int32)), .val (.int (2 : Int32)), .val (.int (1 : Int32)), .unset, .unset, .unset, .unset, .unset, .unset, .unset, .unset, .unset, .unset, .unset, .unset]) at_87 rfl rfl ?_
    refine g_new cx o (pc' := 92) (hw _ (List.mem_of_getElem? (i := 6) rfl)) (hw _ (List.mem_of_getElem? (i := 7) rfl)) (hw _ (List.mem_of_getElem? (i := 8) rfl)) (fs_Knapsack hw) (by decide) (by decide) at_89 rfl (fun T kr o => ?_)
    refine g_dup cx o (pc' := 93) at_92 rfl rfl ?_
    refine g_iload cx o (pc' := 95) at_93 rfl rfl ?_
    refine g_special cx o (pc' := 98) (y := (⟨"com/example/cachesmith/cachesmith/solver/Knapsack", "<init>", "(I)V"⟩ : MethodName)) rfl (hw _ (List.mem_of_getElem? (i := 9) rfl)) (hw _ (List.mem_of_getElem? (i := 10) rfl)) (hw _ (List.mem_of_getElem? (i := 8) rfl)) (hw _ (List.mem_of_getElem? (i := 11) rfl)) (rmI l Z a0 hw kr cp _)  rfl pd_2 rfl (by decide) rfl 1 (Nat.le_of_eq rfl) (by decide) (by decide) (by decide) (by decide) at_95 rfl (fun T v L hQ o => ?_)
    obtain ⟨rfl, er, sr, vr, rfl⟩ := hQ
    simp only [Option.toList_some, Option.toList_none, List.cons_append, List.nil_append]
    refine g_astore cx o (pc' := 100) (l' := #[.val (.int p0), .val (.int p1), .val (.int p2), .val (.long p3), .second, .val (.long p4), .second, .val (.int p5), .val (.int cp), .val (.int s1), .val (.int s2), .val (.long e1), .second, .val (.long e2), .second, .val (.int (1 : Int32)), .val (.int (2 : Int32)), .val (.int (1 : Int32)), .val (.ref kr), .unset, .unset, .unset, .unset, .unset, .unset, .unset, .unset, .unset, .unset, .unset]) at_98 rfl rfl rfl ?_
    refine g_aload cx o (pc' := 102) at_100 rfl rfl rfl ?_
    refine g_iload cx o (pc' := 104) at_102 rfl rfl ?_
    refine g_iload cx o (pc' := 106) at_104 rfl rfl ?_
    refine g_lload cx o (pc' := 108) at_106 rfl rfl ?_
    refine g_virtual cx o (pc' := 111) (y := (⟨"com/example/cachesmith/cachesmith/solver/Knapsack", "offer", "(IIJ)V"⟩ : MethodName)) (z := (⟨"com/example/cachesmith/cachesmith/solver/Knapsack", "offer", "(IIJ)V"⟩ : MethodName)) (hw _ (List.mem_of_getElem? (i := 28) rfl)) (hw _ (List.mem_of_getElem? (i := 29) rfl)) (notFace_of_selects (args := #[]) (mvT cx.2.1 (hw _ (List.mem_of_getElem? (i := 31) rfl)))) (hw _ (List.mem_of_getElem? (i := 31) rfl)) (hw _ (List.mem_of_getElem? (i := 30) rfl)) (hw _ (List.mem_of_getElem? (i := 8) rfl)) (hw _ (List.mem_of_getElem? (i := 32) rfl)) 3 rfl (of1 l Z a0 hw er sr vr kr cp _ _ _ _ ke1 ks1.1)  rfl pd_4 rfl (by decide) rfl 0 (Nat.le_of_eq rfl) (by decide) (by decide) (by decide) (by decide) at_108 rfl (fun T v L hQ o => ?_)
    obtain ⟨rfl, held, lst, rfl, kh, kl⟩ := hQ
    simp only [Option.toList_some, Option.toList_none, List.cons_append, List.nil_append]
    refine g_aload cx o (pc' := 113) at_111 rfl rfl rfl ?_
    refine g_iload cx o (pc' := 115) at_113 rfl rfl ?_
    refine g_iload cx o (pc' := 117) at_115 rfl rfl ?_
    refine g_lload cx o (pc' := 119) at_117 rfl rfl ?_
    refine g_virtual cx o (pc' := 122) (y := (⟨"com/example/cachesmith/cachesmith/solver/Knapsack", "offer", "(IIJ)V"⟩ : MethodName)) (z := (⟨"com/example/cachesmith/cachesmith/solver/Knapsack", "offer", "(IIJ)V"⟩ : MethodName)) (hw _ (List.mem_of_getElem? (i := 28) rfl)) (hw _ (List.mem_of_getElem? (i := 29) rfl)) (notFace_of_selects (args := #[]) (mvT cx.2.1 (hw _ (List.mem_of_getElem? (i := 31) rfl)))) (hw _ (List.mem_of_getElem? (i := 31) rfl)) (hw _ (List.mem_of_getElem? (i := 30) rfl)) (hw _ (List.mem_of_getElem? (i := 8) rfl)) (hw _ (List.mem_of_getElem? (i := 32) rfl)) 3 rfl (of2 l Z a0 hw er sr vr kr cp _ _ _ _ _ _ _ _ _ ke2 ks2.1 ke1 ks1.1 ks2.2 ks1.2 kh kl)  rfl pd_4 rfl (by decide) rfl 0 (Nat.le_of_eq rfl) (by decide) (by decide) (by decide) (by decide) at_119 rfl (fun T v L hQ o => ?_)
    obtain ⟨rfl, cnt, h2, l2, x0, x1, x2, x3, y0, y1, y2, y3, z0, z1, z2, z3, rfl, sp⟩ := hQ
    simp only [Option.toList_some, Option.toList_none, List.cons_append, List.nil_append]
    have j1 : s1.toInt64.toInt = s1.toInt := Jvm.Kit.i64_of_i32 s1
    have j2 : s2.toInt64.toInt = s2.toInt := Jvm.Kit.i64_of_i32 s2
    have jc : cp.toInt64.toInt = cp.toInt := Jvm.Kit.i64_of_i32 cp
    refine g_lload cx o (pc' := 124) at_122 rfl rfl ?_
    refine g_iload cx o (pc' := 126) at_124 rfl rfl ?_
    refine g_i2l cx o (pc' := 127) at_126 rfl ?_
    refine g_lmul cx o (pc' := 128) at_127 rfl ?_
    refine g_lstoreV cx o (pc' := 130) (fun w' => #[.val (.int p0), .val (.int p1), .val (.int p2), .val (.long p3), .second, .val (.long p4), .second, .val (.int p5), .val (.int cp), .val (.int s1), .val (.int s2), .val (.long e1), .second, .val (.long e2), .second, .val (.int (1 : Int32)), .val (.int (2 : Int32)), .val (.int (1 : Int32)), .val (.ref kr), .val (.long w'), .second, .unset, .unset, .unset, .unset, .unset, .unset, .unset, .unset, .unset]) at_128 rfl (fun _ => rfl) (fun pq h_pq => ?_)
    refine g_lload cx o (pc' := 132) at_130 rfl rfl ?_
    refine g_iload cx o (pc' := 134) at_132 rfl rfl ?_
    refine g_i2l cx o (pc' := 135) at_134 rfl ?_
    refine g_lmul cx o (pc' := 136) at_135 rfl ?_
    refine g_lstoreV cx o (pc' := 138) (fun w' => #[.val (.int p0), .val (.int p1), .val (.int p2), .val (.long p3), .second, .val (.long p4), .second, .val (.int p5), .val (.int cp), .val (.int s1), .val (.int s2), .val (.long e1), .second, .val (.long e2), .second, .val (.int (1 : Int32)), .val (.int (2 : Int32)), .val (.int (1 : Int32)), .val (.ref kr), .val (.long pq), .second, .val (.long w'), .second, .unset, .unset, .unset, .unset, .unset, .unset, .unset]) at_136 rfl (fun _ => rfl) (fun qq h_qq => ?_)
    refine g_lload cx o (pc' := 140) at_138 rfl rfl ?_
    refine g_lload cx o (pc' := 142) at_140 rfl rfl ?_
    refine g_lcmp cx o (pc' := 143) at_142 rfl ?_
    have kp := o_mul64 (x := e2) (y := s1.toInt64) rfl j1 ke2 (by omega)
    rw [← h_pq] at kp
    have kq := o_mul64 (x := e1) (y := s2.toInt64) rfl j2 ke1 (by omega)
    rw [← h_qq] at kq
    refine g_if_gt cx o (pc' := 161) (pc2 := 146) at_143 (by decide) (by decide) rfl (fun c143 => ?_) (fun c143 => ?_)
    · have c := (o_cmpL _ _).mp c143
      rw [kp.1, kq.1] at c
      refine g_iconst cx o (pc' := 162) (1 : Int32) at_161 rfl rfl ?_
      refine g_goto cx o (pc' := 166) at_162 (by decide) (by decide) ?_
      refine g_istore cx o (pc' := 168) (l' := #[.val (.int p0), .val (.int p1), .val (.int p2), .val (.long p3), .second, .val (.long p4), .second, .val (.int p5), .val (.int cp), .val (.int s1), .val (.int s2), .val (.long e1), .second, .val (.long e2), .second, .val (.int (1 : Int32)), .val (.int (2 : Int32)), .val (.int (1 : Int32)), .val (.ref kr), .val (.long pq), .second, .val (.long qq), .second, .val (.int (1 : Int32)), .unset, .unset, .unset, .unset, .unset, .unset]) at_166 rfl rfl ?_
      refine g_iload cx o (pc' := 170) at_168 rfl rfl ?_
      have fP : oP e2.toInt s2.toInt ((1 : Int32)).toInt e1.toInt s1.toInt ((2 : Int32)).toInt := Or.inl c
      refine g_if_eq cx o (pc' := 178) (pc2 := 173) at_170 (by decide) (by decide) rfl (fun c170 => absurd c170 (by decide)) (fun c170 => ?_)
      refine g_iload cx o (pc' := 175) at_173 rfl rfl ?_
      refine g_goto cx o (pc' := 180) at_175 (by decide) (by decide) ?_
      refine g_istore cx o (pc' := 182) (l' := #[.val (.int p0), .val (.int p1), .val (.int p2), .val (.long p3), .second, .val (.long p4), .second, .val (.int p5), .val (.int cp), .val (.int s1), .val (.int s2), .val (.long e1), .second, .val (.long e2), .second, .val (.int (1 : Int32)), .val (.int (2 : Int32)), .val (.int (1 : Int32)), .val (.ref kr), .val (.long pq), .second, .val (.long qq), .second, .val (.int (1 : Int32)), .val (.int s2), .unset, .unset, .unset, .unset, .unset]) at_180 rfl rfl ?_
      refine g_iload cx o (pc' := 184) at_182 rfl rfl ?_
      refine g_if_eq cx o (pc' := 192) (pc2 := 187) at_184 (by decide) (by decide) rfl (fun c184 => absurd c184 (by decide)) (fun c184 => ?_)
      refine g_iload cx o (pc' := 189) at_187 rfl rfl ?_
      refine g_goto cx o (pc' := 194) at_189 (by decide) (by decide) ?_
      refine g_istore cx o (pc' := 196) (l' := #[.val (.int p0), .val (.int p1), .val (.int p2), .val (.long p3), .second, .val (.long p4), .second, .val (.int p5), .val (.int cp), .val (.int s1), .val (.int s2), .val (.long e1), .second, .val (.long e2), .second, .val (.int (1 : Int32)), .val (.int (2 : Int32)), .val (.int (1 : Int32)), .val (.ref kr), .val (.long pq), .second, .val (.long qq), .second, .val (.int (1 : Int32)), .val (.int s2), .val (.int s1), .unset, .unset, .unset, .unset]) at_194 rfl rfl ?_
      refine g_iload cx o (pc' := 198) at_196 rfl rfl ?_
      refine g_iload cx o (pc' := 200) at_198 rfl rfl ?_
      have sq : (h2.toInt ≤ cp.toInt ∧ (cp.toInt ≤ s2.toInt ∨ s1.toInt + s2.toInt ≤ cp.toInt)) ∨ (h2.toInt = s1.toInt + s2.toInt ∧ cp.toInt < s1.toInt + s2.toInt ∧ s2.toInt < cp.toInt ∧ y0 = s1) := sp.elim (fun q => q.2) (fun q => absurd fP q.1)
      refine g_icmp_ge cx o (pc' := 230) (pc2 := 203) at_200 (by decide) (by decide) rfl (fun c200 => ?_) (fun c200 => ?_)
      · have c : ¬ _ := fun z => c200 (Int32.lt_iff_toInt_lt.mpr z)
        have hc : h2.toInt ≤ cp.toInt := by
          rcases sq with q | q
          · exact q.1
          · exact absurd q (fun q => c q.2.2.1)
        refine g_dconst1 cx o (pc' := 231) at_230 rfl ?_
        refine g_dstoreV cx o (pc' := 233) (fun w' => #[.val (.int p0), .val (.int p1), .val (.int p2), .val (.long p3), .second, .val (.long p4), .second, .val (.int p5), .val (.int cp), .val (.int s1), .val (.int s2), .val (.long e1), .second, .val (.long e2), .second, .val (.int (1 : Int32)), .val (.int (2 : Int32)), .val (.int (1 : Int32)), .val (.ref kr), .val (.long pq), .second, .val (.long qq), .second, .val (.int (1 : Int32)), .val (.int s2), .val (.int s1), .val (.double w'), .second, .unset, .unset]) at_231 rfl (fun _ => rfl) (fun f1 h_f1 => ?_)
        refine g_iload cx o (pc' := 235) at_233 rfl rfl ?_
        refine g_if_ne cx o (pc' := 243) (pc2 := 238) at_235 (by decide) (by decide) rfl (fun c235 => ?_) (fun c235 => ?_)
        · refine g_dconst1 cx o (pc' := 244) at_243 rfl ?_
          refine g_dstoreV cx o (pc' := 246) (fun w' => #[.val (.int p0), .val (.int p1), .val (.int p2), .val (.long p3), .second, .val (.long p4), .second, .val (.int p5), .val (.int cp), .val (.int s1), .val (.int s2), .val (.long e1), .second, .val (.long e2), .second, .val (.int (1 : Int32)), .val (.int (2 : Int32)), .val (.int (1 : Int32)), .val (.ref kr), .val (.long pq), .second, .val (.long qq), .second, .val (.int (1 : Int32)), .val (.int s2), .val (.int s1), .val (.double f1), .second, .val (.double w'), .second]) at_244 rfl (fun _ => rfl) (fun f2 h_f2 => ?_)
          refine g_aload cx o (pc' := 248) at_246 rfl rfl rfl ?_
          refine g_iconst cx o (pc' := 249) (0 : Int32) at_248 rfl rfl ?_
          refine g_virtual cx o (pc' := 252) (y := (⟨"com/example/cachesmith/cachesmith/solver/Knapsack", "share", "(I)D"⟩ : MethodName)) (z := (⟨"com/example/cachesmith/cachesmith/solver/Knapsack", "share", "(I)D"⟩ : MethodName)) (hw _ (List.mem_of_getElem? (i := 42) rfl)) (hw _ (List.mem_of_getElem? (i := 43) rfl)) (notFace_of_selects (args := #[]) (mvT cx.2.1 (hw _ (List.mem_of_getElem? (i := 45) rfl)))) (hw _ (List.mem_of_getElem? (i := 45) rfl)) (hw _ (List.mem_of_getElem? (i := 44) rfl)) (hw _ (List.mem_of_getElem? (i := 8) rfl)) (hw _ (List.mem_of_getElem? (i := 46) rfl)) 3 rfl (rmSh l Z a0 hw er sr vr kr cp _ _ _ _ _ _ _ _ _ _ _ _ _ _ _ _ _ (fun q => absurd q (by omega)))  rfl pd_6 rfl (by decide) rfl 0 (Nat.le_of_eq rfl) (by decide) (by decide) (by decide) (by decide) at_249 rfl (fun T v L hQ o => ?_)
          obtain ⟨d1, rfl, kd1, rfl⟩ := hQ
          simp only [Option.toList_some, Option.toList_none, List.cons_append, List.nil_append]
          have ed1 : d1 = FP.dconst1 := kd1.elim (fun q => absurd q.2.1 (by omega)) (fun q => q.2)
          subst ed1
          refine g_dload cx o (pc' := 254) at_252 rfl rfl ?_
          refine g_dcmp cx o (pc' := 255) at_254 rfl ?_
          refine g_if_ne cx o (pc' := 275) (pc2 := 258) at_255 (by decide) (by decide) rfl (fun c255 => absurd (by first | exact dcmpV_self oR.one.nn _ | (rw [h_f1]; exact dcmpV_self oR.one.nn _) | (rw [h_f2]; exact dcmpV_self oR.one.nn _)) c255) (fun c255 => ?_)
          refine g_aload cx o (pc' := 260) at_258 rfl rfl rfl ?_
          refine g_iload cx o (pc' := 262) at_260 rfl rfl ?_
          refine g_virtual cx o (pc' := 265) (y := (⟨"com/example/cachesmith/cachesmith/solver/Knapsack", "share", "(I)D"⟩ : MethodName)) (z := (⟨"com/example/cachesmith/cachesmith/solver/Knapsack", "share", "(I)D"⟩ : MethodName)) (hw _ (List.mem_of_getElem? (i := 42) rfl)) (hw _ (List.mem_of_getElem? (i := 43) rfl)) (notFace_of_selects (args := #[]) (mvT cx.2.1 (hw _ (List.mem_of_getElem? (i := 45) rfl)))) (hw _ (List.mem_of_getElem? (i := 45) rfl)) (hw _ (List.mem_of_getElem? (i := 44) rfl)) (hw _ (List.mem_of_getElem? (i := 8) rfl)) (hw _ (List.mem_of_getElem? (i := 46) rfl)) 3 rfl (rmSh l Z a0 hw er sr vr kr cp _ _ _ _ _ _ _ _ _ _ _ _ _ _ _ _ _ (fun q => absurd q (by omega)))  rfl pd_6 rfl (by decide) rfl 0 (Nat.le_of_eq rfl) (by decide) (by decide) (by decide) (by decide) at_262 rfl (fun T v L hQ o => ?_)
          obtain ⟨d2, rfl, kd2, rfl⟩ := hQ
          simp only [Option.toList_some, Option.toList_none, List.cons_append, List.nil_append]
          have ed2 : d2 = FP.dconst1 := kd2.elim (fun q => absurd q.2.1 (by omega)) (fun q => q.2)
          subst ed2
          refine g_dload cx o (pc' := 267) at_265 rfl rfl ?_
          refine g_dcmp cx o (pc' := 268) at_267 rfl ?_
          refine g_if_ne cx o (pc' := 275) (pc2 := 271) at_268 (by decide) (by decide) rfl (fun c268 => absurd (by first | exact dcmpV_self oR.one.nn _ | (rw [h_f1]; exact dcmpV_self oR.one.nn _) | (rw [h_f2]; exact dcmpV_self oR.one.nn _)) c268) (fun c268 => ?_)
          refine g_iconst cx o (pc' := 272) (1 : Int32) at_271 rfl rfl ?_
          refine g_goto cx o (pc' := 276) at_272 (by decide) (by decide) ?_
          exact g_ireturnZ cx o at_276 (by decide) (by decide) (by decide) rfl
        · refine g_dload cx o (pc' := 240) at_238 rfl rfl ?_
          refine g_goto cx o (pc' := 244) at_240 (by decide) (by decide) ?_
          refine g_dstore cx o (pc' := 246) (l' := #[.val (.int p0), .val (.int p1), .val (.int p2), .val (.long p3), .second, .val (.long p4), .second, .val (.int p5), .val (.int cp), .val (.int s1), .val (.int s2), .val (.long e1), .second, .val (.long e2), .second, .val (.int (1 : Int32)), .val (.int (2 : Int32)), .val (.int (1 : Int32)), .val (.ref kr), .val (.long pq), .second, .val (.long qq), .second, .val (.int (1 : Int32)), .val (.int s2), .val (.int s1), .val (.double f1), .second, .val (.double f1), .second]) at_244 rfl rfl ?_
          refine g_aload cx o (pc' := 248) at_246 rfl rfl rfl ?_
          refine g_iconst cx o (pc' := 249) (0 : Int32) at_248 rfl rfl ?_
          refine g_virtual cx o (pc' := 252) (y := (⟨"com/example/cachesmith/cachesmith/solver/Knapsack", "share", "(I)D"⟩ : MethodName)) (z := (⟨"com/example/cachesmith/cachesmith/solver/Knapsack", "share", "(I)D"⟩ : MethodName)) (hw _ (List.mem_of_getElem? (i := 42) rfl)) (hw _ (List.mem_of_getElem? (i := 43) rfl)) (notFace_of_selects (args := #[]) (mvT cx.2.1 (hw _ (List.mem_of_getElem? (i := 45) rfl)))) (hw _ (List.mem_of_getElem? (i := 45) rfl)) (hw _ (List.mem_of_getElem? (i := 44) rfl)) (hw _ (List.mem_of_getElem? (i := 8) rfl)) (hw _ (List.mem_of_getElem? (i := 46) rfl)) 3 rfl (rmSh l Z a0 hw er sr vr kr cp _ _ _ _ _ _ _ _ _ _ _ _ _ _ _ _ _ (fun q => absurd q (by omega)))  rfl pd_6 rfl (by decide) rfl 0 (Nat.le_of_eq rfl) (by decide) (by decide) (by decide) (by decide) at_249 rfl (fun T v L hQ o => ?_)
          obtain ⟨d1, rfl, kd1, rfl⟩ := hQ
          simp only [Option.toList_some, Option.toList_none, List.cons_append, List.nil_append]
          have ed1 : d1 = FP.dconst1 := kd1.elim (fun q => absurd q.2.1 (by omega)) (fun q => q.2)
          subst ed1
          refine g_dload cx o (pc' := 254) at_252 rfl rfl ?_
          refine g_dcmp cx o (pc' := 255) at_254 rfl ?_
          refine g_if_ne cx o (pc' := 275) (pc2 := 258) at_255 (by decide) (by decide) rfl (fun c255 => absurd (by first | exact dcmpV_self oR.one.nn _ | (rw [h_f1]; exact dcmpV_self oR.one.nn _) | (rw [h_f2]; exact dcmpV_self oR.one.nn _)) c255) (fun c255 => ?_)
          refine g_aload cx o (pc' := 260) at_258 rfl rfl rfl ?_
          refine g_iload cx o (pc' := 262) at_260 rfl rfl ?_
          refine g_virtual cx o (pc' := 265) (y := (⟨"com/example/cachesmith/cachesmith/solver/Knapsack", "share", "(I)D"⟩ : MethodName)) (z := (⟨"com/example/cachesmith/cachesmith/solver/Knapsack", "share", "(I)D"⟩ : MethodName)) (hw _ (List.mem_of_getElem? (i := 42) rfl)) (hw _ (List.mem_of_getElem? (i := 43) rfl)) (notFace_of_selects (args := #[]) (mvT cx.2.1 (hw _ (List.mem_of_getElem? (i := 45) rfl)))) (hw _ (List.mem_of_getElem? (i := 45) rfl)) (hw _ (List.mem_of_getElem? (i := 44) rfl)) (hw _ (List.mem_of_getElem? (i := 8) rfl)) (hw _ (List.mem_of_getElem? (i := 46) rfl)) 3 rfl (rmSh l Z a0 hw er sr vr kr cp _ _ _ _ _ _ _ _ _ _ _ _ _ _ _ _ _ (fun q => absurd q (by omega)))  rfl pd_6 rfl (by decide) rfl 0 (Nat.le_of_eq rfl) (by decide) (by decide) (by decide) (by decide) at_262 rfl (fun T v L hQ o => ?_)
          obtain ⟨d2, rfl, kd2, rfl⟩ := hQ
          simp only [Option.toList_some, Option.toList_none, List.cons_append, List.nil_append]
          have ed2 : d2 = FP.dconst1 := kd2.elim (fun q => absurd q.2.1 (by omega)) (fun q => q.2)
          subst ed2
          refine g_dload cx o (pc' := 267) at_265 rfl rfl ?_
          refine g_dcmp cx o (pc' := 268) at_267 rfl ?_
          refine g_if_ne cx o (pc' := 275) (pc2 := 271) at_268 (by decide) (by decide) rfl (fun c268 => absurd (by first | exact dcmpV_self oR.one.nn _ | (rw [h_f1]; exact dcmpV_self oR.one.nn _) | (rw [h_f2]; exact dcmpV_self oR.one.nn _)) c268) (fun c268 => ?_)
          refine g_iconst cx o (pc' := 272) (1 : Int32) at_271 rfl rfl ?_
          refine g_goto cx o (pc' := 276) at_272 (by decide) (by decide) ?_
          exact g_ireturnZ cx o at_276 (by decide) (by decide) (by decide) rfl
      · have c200 := Int32.lt_iff_toInt_lt.mp c200
        refine g_iload cx o (pc' := 205) at_203 rfl rfl ?_
        refine g_i2l cx o (pc' := 206) at_205 rfl ?_
        refine g_iload cx o (pc' := 208) at_206 rfl rfl ?_
        refine g_i2l cx o (pc' := 209) at_208 rfl ?_
        refine g_ladd cx o (pc' := 210) at_209 rfl ?_
        refine g_iload cx o (pc' := 212) at_210 rfl rfl ?_
        refine g_i2l cx o (pc' := 213) at_212 rfl ?_
        refine g_lcmp cx o (pc' := 214) at_213 rfl ?_
        have ka : (s1.toInt64 + s2.toInt64).toInt = s1.toInt + s2.toInt := by rw [Jvm.Kit.i64_add (by rw [j1, j2]; omega) (by rw [j1, j2]; omega), j1, j2]
        refine g_if_le cx o (pc' := 230) (pc2 := 217) at_214 (by decide) (by decide) rfl (fun c214 => ?_) (fun c214 => ?_)
        · have c : ¬ _ := fun z => c214 ((o_cmpL _ _).mpr z)
          rw [ka, jc] at c
          have hc : h2.toInt ≤ cp.toInt := by
            rcases sq with q | q
            · exact q.1
            · exact absurd q (fun q => c (by omega))
          refine g_dconst1 cx o (pc' := 231) at_230 rfl ?_
          refine g_dstoreV cx o (pc' := 233) (fun w' => #[.val (.int p0), .val (.int p1), .val (.int p2), .val (.long p3), .second, .val (.long p4), .second, .val (.int p5), .val (.int cp), .val (.int s1), .val (.int s2), .val (.long e1), .second, .val (.long e2), .second, .val (.int (1 : Int32)), .val (.int (2 : Int32)), .val (.int (1 : Int32)), .val (.ref kr), .val (.long pq), .second, .val (.long qq), .second, .val (.int (1 : Int32)), .val (.int s2), .val (.int s1), .val (.double w'), .second, .unset, .unset]) at_231 rfl (fun _ => rfl) (fun f1 h_f1 => ?_)
          refine g_iload cx o (pc' := 235) at_233 rfl rfl ?_
          refine g_if_ne cx o (pc' := 243) (pc2 := 238) at_235 (by decide) (by decide) rfl (fun c235 => ?_) (fun c235 => ?_)
          · refine g_dconst1 cx o (pc' := 244) at_243 rfl ?_
            refine g_dstoreV cx o (pc' := 246) (fun w' => #[.val (.int p0), .val (.int p1), .val (.int p2), .val (.long p3), .second, .val (.long p4), .second, .val (.int p5), .val (.int cp), .val (.int s1), .val (.int s2), .val (.long e1), .second, .val (.long e2), .second, .val (.int (1 : Int32)), .val (.int (2 : Int32)), .val (.int (1 : Int32)), .val (.ref kr), .val (.long pq), .second, .val (.long qq), .second, .val (.int (1 : Int32)), .val (.int s2), .val (.int s1), .val (.double f1), .second, .val (.double w'), .second]) at_244 rfl (fun _ => rfl) (fun f2 h_f2 => ?_)
            refine g_aload cx o (pc' := 248) at_246 rfl rfl rfl ?_
            refine g_iconst cx o (pc' := 249) (0 : Int32) at_248 rfl rfl ?_
            refine g_virtual cx o (pc' := 252) (y := (⟨"com/example/cachesmith/cachesmith/solver/Knapsack", "share", "(I)D"⟩ : MethodName)) (z := (⟨"com/example/cachesmith/cachesmith/solver/Knapsack", "share", "(I)D"⟩ : MethodName)) (hw _ (List.mem_of_getElem? (i := 42) rfl)) (hw _ (List.mem_of_getElem? (i := 43) rfl)) (notFace_of_selects (args := #[]) (mvT cx.2.1 (hw _ (List.mem_of_getElem? (i := 45) rfl)))) (hw _ (List.mem_of_getElem? (i := 45) rfl)) (hw _ (List.mem_of_getElem? (i := 44) rfl)) (hw _ (List.mem_of_getElem? (i := 8) rfl)) (hw _ (List.mem_of_getElem? (i := 46) rfl)) 3 rfl (rmSh l Z a0 hw er sr vr kr cp _ _ _ _ _ _ _ _ _ _ _ _ _ _ _ _ _ (fun q => absurd q (by omega)))  rfl pd_6 rfl (by decide) rfl 0 (Nat.le_of_eq rfl) (by decide) (by decide) (by decide) (by decide) at_249 rfl (fun T v L hQ o => ?_)
            obtain ⟨d1, rfl, kd1, rfl⟩ := hQ
            simp only [Option.toList_some, Option.toList_none, List.cons_append, List.nil_append]
            have ed1 : d1 = FP.dconst1 := kd1.elim (fun q => absurd q.2.1 (by omega)) (fun q => q.2)
            subst ed1
            refine g_dload cx o (pc' := 254) at_252 rfl rfl ?_
            refine g_dcmp cx o (pc' := 255) at_254 rfl ?_
            refine g_if_ne cx o (pc' := 275) (pc2 := 258) at_255 (by decide) (by decide) rfl (fun c255 => absurd (by first | exact dcmpV_self oR.one.nn _ | (rw [h_f1]; exact dcmpV_self oR.one.nn _) | (rw [h_f2]; exact dcmpV_self oR.one.nn _)) c255) (fun c255 => ?_)
            refine g_aload cx o (pc' := 260) at_258 rfl rfl rfl ?_
            refine g_iload cx o (pc' := 262) at_260 rfl rfl ?_
            refine g_virtual cx o (pc' := 265) (y := (⟨"com/example/cachesmith/cachesmith/solver/Knapsack", "share", "(I)D"⟩ : MethodName)) (z := (⟨"com/example/cachesmith/cachesmith/solver/Knapsack", "share", "(I)D"⟩ : MethodName)) (hw _ (List.mem_of_getElem? (i := 42) rfl)) (hw _ (List.mem_of_getElem? (i := 43) rfl)) (notFace_of_selects (args := #[]) (mvT cx.2.1 (hw _ (List.mem_of_getElem? (i := 45) rfl)))) (hw _ (List.mem_of_getElem? (i := 45) rfl)) (hw _ (List.mem_of_getElem? (i := 44) rfl)) (hw _ (List.mem_of_getElem? (i := 8) rfl)) (hw _ (List.mem_of_getElem? (i := 46) rfl)) 3 rfl (rmSh l Z a0 hw er sr vr kr cp _ _ _ _ _ _ _ _ _ _ _ _ _ _ _ _ _ (fun q => absurd q (by omega)))  rfl pd_6 rfl (by decide) rfl 0 (Nat.le_of_eq rfl) (by decide) (by decide) (by decide) (by decide) at_262 rfl (fun T v L hQ o => ?_)
            obtain ⟨d2, rfl, kd2, rfl⟩ := hQ
            simp only [Option.toList_some, Option.toList_none, List.cons_append, List.nil_append]
            have ed2 : d2 = FP.dconst1 := kd2.elim (fun q => absurd q.2.1 (by omega)) (fun q => q.2)
            subst ed2
            refine g_dload cx o (pc' := 267) at_265 rfl rfl ?_
            refine g_dcmp cx o (pc' := 268) at_267 rfl ?_
            refine g_if_ne cx o (pc' := 275) (pc2 := 271) at_268 (by decide) (by decide) rfl (fun c268 => absurd (by first | exact dcmpV_self oR.one.nn _ | (rw [h_f1]; exact dcmpV_self oR.one.nn _) | (rw [h_f2]; exact dcmpV_self oR.one.nn _)) c268) (fun c268 => ?_)
            refine g_iconst cx o (pc' := 272) (1 : Int32) at_271 rfl rfl ?_
            refine g_goto cx o (pc' := 276) at_272 (by decide) (by decide) ?_
            exact g_ireturnZ cx o at_276 (by decide) (by decide) (by decide) rfl
          · refine g_dload cx o (pc' := 240) at_238 rfl rfl ?_
            refine g_goto cx o (pc' := 244) at_240 (by decide) (by decide) ?_
            refine g_dstore cx o (pc' := 246) (l' := #[.val (.int p0), .val (.int p1), .val (.int p2), .val (.long p3), .second, .val (.long p4), .second, .val (.int p5), .val (.int cp), .val (.int s1), .val (.int s2), .val (.long e1), .second, .val (.long e2), .second, .val (.int (1 : Int32)), .val (.int (2 : Int32)), .val (.int (1 : Int32)), .val (.ref kr), .val (.long pq), .second, .val (.long qq), .second, .val (.int (1 : Int32)), .val (.int s2), .val (.int s1), .val (.double f1), .second, .val (.double f1), .second]) at_244 rfl rfl ?_
            refine g_aload cx o (pc' := 248) at_246 rfl rfl rfl ?_
            refine g_iconst cx o (pc' := 249) (0 : Int32) at_248 rfl rfl ?_
            refine g_virtual cx o (pc' := 252) (y := (⟨"com/example/cachesmith/cachesmith/solver/Knapsack", "share", "(I)D"⟩ : MethodName)) (z := (⟨"com/example/cachesmith/cachesmith/solver/Knapsack", "share", "(I)D"⟩ : MethodName)) (hw _ (List.mem_of_getElem? (i := 42) rfl)) (hw _ (List.mem_of_getElem? (i := 43) rfl)) (notFace_of_selects (args := #[]) (mvT cx.2.1 (hw _ (List.mem_of_getElem? (i := 45) rfl)))) (hw _ (List.mem_of_getElem? (i := 45) rfl)) (hw _ (List.mem_of_getElem? (i := 44) rfl)) (hw _ (List.mem_of_getElem? (i := 8) rfl)) (hw _ (List.mem_of_getElem? (i := 46) rfl)) 3 rfl (rmSh l Z a0 hw er sr vr kr cp _ _ _ _ _ _ _ _ _ _ _ _ _ _ _ _ _ (fun q => absurd q (by omega)))  rfl pd_6 rfl (by decide) rfl 0 (Nat.le_of_eq rfl) (by decide) (by decide) (by decide) (by decide) at_249 rfl (fun T v L hQ o => ?_)
            obtain ⟨d1, rfl, kd1, rfl⟩ := hQ
            simp only [Option.toList_some, Option.toList_none, List.cons_append, List.nil_append]
            have ed1 : d1 = FP.dconst1 := kd1.elim (fun q => absurd q.2.1 (by omega)) (fun q => q.2)
            subst ed1
            refine g_dload cx o (pc' := 254) at_252 rfl rfl ?_
            refine g_dcmp cx o (pc' := 255) at_254 rfl ?_
            refine g_if_ne cx o (pc' := 275) (pc2 := 258) at_255 (by decide) (by decide) rfl (fun c255 => absurd (by first | exact dcmpV_self oR.one.nn _ | (rw [h_f1]; exact dcmpV_self oR.one.nn _) | (rw [h_f2]; exact dcmpV_self oR.one.nn _)) c255) (fun c255 => ?_)
            refine g_aload cx o (pc' := 260) at_258 rfl rfl rfl ?_
            refine g_iload cx o (pc' := 262) at_260 rfl rfl ?_
            refine g_virtual cx o (pc' := 265) (y := (⟨"com/example/cachesmith/cachesmith/solver/Knapsack", "share", "(I)D"⟩ : MethodName)) (z := (⟨"com/example/cachesmith/cachesmith/solver/Knapsack", "share", "(I)D"⟩ : MethodName)) (hw _ (List.mem_of_getElem? (i := 42) rfl)) (hw _ (List.mem_of_getElem? (i := 43) rfl)) (notFace_of_selects (args := #[]) (mvT cx.2.1 (hw _ (List.mem_of_getElem? (i := 45) rfl)))) (hw _ (List.mem_of_getElem? (i := 45) rfl)) (hw _ (List.mem_of_getElem? (i := 44) rfl)) (hw _ (List.mem_of_getElem? (i := 8) rfl)) (hw _ (List.mem_of_getElem? (i := 46) rfl)) 3 rfl (rmSh l Z a0 hw er sr vr kr cp _ _ _ _ _ _ _ _ _ _ _ _ _ _ _ _ _ (fun q => absurd q (by omega)))  rfl pd_6 rfl (by decide) rfl 0 (Nat.le_of_eq rfl) (by decide) (by decide) (by decide) (by decide) at_262 rfl (fun T v L hQ o => ?_)
            obtain ⟨d2, rfl, kd2, rfl⟩ := hQ
            simp only [Option.toList_some, Option.toList_none, List.cons_append, List.nil_append]
            have ed2 : d2 = FP.dconst1 := kd2.elim (fun q => absurd q.2.1 (by omega)) (fun q => q.2)
            subst ed2
            refine g_dload cx o (pc' := 267) at_265 rfl rfl ?_
            refine g_dcmp cx o (pc' := 268) at_267 rfl ?_
            refine g_if_ne cx o (pc' := 275) (pc2 := 271) at_268 (by decide) (by decide) rfl (fun c268 => absurd (by first | exact dcmpV_self oR.one.nn _ | (rw [h_f1]; exact dcmpV_self oR.one.nn _) | (rw [h_f2]; exact dcmpV_self oR.one.nn _)) c268) (fun c268 => ?_)
            refine g_iconst cx o (pc' := 272) (1 : Int32) at_271 rfl rfl ?_
            refine g_goto cx o (pc' := 276) at_272 (by decide) (by decide) ?_
            exact g_ireturnZ cx o at_276 (by decide) (by decide) (by decide) rfl
        · have c := (o_cmpL _ _).mp c214
          rw [ka, jc] at c
          have hc : h2.toInt = s1.toInt + s2.toInt ∧ y0 = s1 := by
            rcases sq with q | q
            · exact absurd q (fun q => by omega)
            · exact ⟨q.1, q.2.2.2⟩
          obtain ⟨hc, ey⟩ := hc
          have ki : (cp - s2).toInt = cp.toInt - s2.toInt := by rw [Jvm.Kit.i32_sub (by omega) (by omega)]
          have Ri := o_i2dN (x := cp - s2) (by omega)
          have Rm := o_i2dN (x := s1) (by omega)
          have kj : (h2 - y0.toInt64).toInt = s2.toInt := by rw [ey, Jvm.Kit.i64_sub (by rw [j1]; omega) (by rw [j1]; omega), j1]; omega
          have kl2 : (cp.toInt64 - (h2 - y0.toInt64)).toInt = cp.toInt - s2.toInt := by rw [Jvm.Kit.i64_sub (by rw [kj, jc]; omega) (by rw [kj, jc]; omega), kj, jc]
          have Rl := o_l2dN (x := cp.toInt64 - (h2 - y0.toInt64)) (by omega)
          have Ry : oR ((s1.toInt.toNat : Nat) : Int) 0 (FP.i2d y0) := by rw [ey]; exact Rm
          have nA : NoNaN64 (FP.ddiv (FP.i2d (cp - s2)) (FP.i2d s1)) := o_div_nn Ri Rm (by omega)
          have nB : NoNaN64 (FP.ddiv (FP.l2d (cp.toInt64 - (h2 - y0.toInt64))) (FP.i2d y0)) := o_div_nn Rl Ry (by omega)
          have eqz : oz (FP.ddiv (FP.l2d (cp.toInt64 - (h2 - y0.toInt64))) (FP.i2d y0)) = oz (FP.ddiv (FP.i2d (cp - s2)) (FP.i2d s1)) := by
            have zi := Ri.z (by decide)
            have zm := Rm.z (by decide)
            have zl := Rl.z (by decide)
            have zy := Ry.z (by decide)
            rw [kl2] at zl
            rw [ki] at zi
            have pp := o_pow_pos (1074 - 0)
            have pm : (0 : Int) < ((s1.toInt.toNat : Nat) : Int) := by omega
            refine o_div_same Rl.1 Ry.1 Ri.1 Rm.1 (by rw [zy]; exact Int.mul_pos pm pp) (by rw [zm]; exact Int.mul_pos pm pp) (by rw [zl]; exact Int.mul_nonneg (Int.natCast_nonneg _) (Int.natCast_nonneg _)) (by rw [zi]; exact Int.mul_nonneg (Int.natCast_nonneg _) (Int.natCast_nonneg _)) (by rw [zl, zy, zi, zm])
          have cq : cmpValue (FP.dcmp (FP.ddiv (FP.l2d (cp.toInt64 - (h2 - y0.toInt64))) (FP.i2d y0)) (FP.ddiv (FP.i2d (cp - s2)) (FP.i2d s1))) .l = 0 := by rw [o_cvz nB nA, if_neg (by omega), if_pos eqz]
          refine g_iload cx o (pc' := 219) at_217 rfl rfl ?_
          refine g_iload cx o (pc' := 221) at_219 rfl rfl ?_
          refine g_isub cx o (pc' := 222) at_221 rfl ?_
          refine g_i2d cx o (pc' := 223) at_222 rfl ?_
          refine g_iload cx o (pc' := 225) at_223 rfl rfl ?_
          refine g_i2d cx o (pc' := 226) at_225 rfl ?_
          refine g_ddiv cx o (pc' := 227) at_226 rfl nA ?_
          refine g_goto cx o (pc' := 231) at_227 (by decide) (by decide) ?_
          refine g_dstoreV cx o (pc' := 233) (fun w' => #[.val (.int p0), .val (.int p1), .val (.int p2), .val (.long p3), .second, .val (.long p4), .second, .val (.int p5), .val (.int cp), .val (.int s1), .val (.int s2), .val (.long e1), .second, .val (.long e2), .second, .val (.int (1 : Int32)), .val (.int (2 : Int32)), .val (.int (1 : Int32)), .val (.ref kr), .val (.long pq), .second, .val (.long qq), .second, .val (.int (1 : Int32)), .val (.int s2), .val (.int s1), .val (.double w'), .second, .unset, .unset]) at_231 rfl (fun _ => rfl) (fun ex h_ex => ?_)
          refine g_iload cx o (pc' := 235) at_233 rfl rfl ?_
          refine g_if_ne cx o (pc' := 243) (pc2 := 238) at_235 (by decide) (by decide) rfl (fun c235 => ?_) (fun c235 => ?_)
          · refine g_dconst1 cx o (pc' := 244) at_243 rfl ?_
            refine g_dstoreV cx o (pc' := 246) (fun w' => #[.val (.int p0), .val (.int p1), .val (.int p2), .val (.long p3), .second, .val (.long p4), .second, .val (.int p5), .val (.int cp), .val (.int s1), .val (.int s2), .val (.long e1), .second, .val (.long e2), .second, .val (.int (1 : Int32)), .val (.int (2 : Int32)), .val (.int (1 : Int32)), .val (.ref kr), .val (.long pq), .second, .val (.long qq), .second, .val (.int (1 : Int32)), .val (.int s2), .val (.int s1), .val (.double ex), .second, .val (.double w'), .second]) at_244 rfl (fun _ => rfl) (fun f1 h_f1 => ?_)
            refine g_aload cx o (pc' := 248) at_246 rfl rfl rfl ?_
            refine g_iconst cx o (pc' := 249) (0 : Int32) at_248 rfl rfl ?_
            refine g_virtual cx o (pc' := 252) (y := (⟨"com/example/cachesmith/cachesmith/solver/Knapsack", "share", "(I)D"⟩ : MethodName)) (z := (⟨"com/example/cachesmith/cachesmith/solver/Knapsack", "share", "(I)D"⟩ : MethodName)) (hw _ (List.mem_of_getElem? (i := 42) rfl)) (hw _ (List.mem_of_getElem? (i := 43) rfl)) (notFace_of_selects (args := #[]) (mvT cx.2.1 (hw _ (List.mem_of_getElem? (i := 45) rfl)))) (hw _ (List.mem_of_getElem? (i := 45) rfl)) (hw _ (List.mem_of_getElem? (i := 44) rfl)) (hw _ (List.mem_of_getElem? (i := 8) rfl)) (hw _ (List.mem_of_getElem? (i := 46) rfl)) 3 rfl (rmSh l Z a0 hw er sr vr kr cp _ _ _ _ _ _ _ _ _ _ _ _ _ _ _ _ _ (fun _ => nB))  rfl pd_6 rfl (by decide) rfl 0 (Nat.le_of_eq rfl) (by decide) (by decide) (by decide) (by decide) at_249 rfl (fun T v L hQ o => ?_)
            obtain ⟨d1, rfl, kd1, rfl⟩ := hQ
            simp only [Option.toList_some, Option.toList_none, List.cons_append, List.nil_append]
            have ed1 := kd1.elim (fun q => q.2.2) (fun q => q.1.elim (fun z => absurd rfl z) (fun z => absurd z (by omega)))
            rw [← ed1, ← h_ex] at cq
            refine g_dload cx o (pc' := 254) at_252 rfl rfl ?_
            refine g_dcmp cx o (pc' := 255) at_254 rfl ?_
            refine g_if_ne cx o (pc' := 275) (pc2 := 258) at_255 (by decide) (by decide) rfl (fun c255 => absurd cq c255) (fun c255 => ?_)
            refine g_aload cx o (pc' := 260) at_258 rfl rfl rfl ?_
            refine g_iload cx o (pc' := 262) at_260 rfl rfl ?_
            refine g_virtual cx o (pc' := 265) (y := (⟨"com/example/cachesmith/cachesmith/solver/Knapsack", "share", "(I)D"⟩ : MethodName)) (z := (⟨"com/example/cachesmith/cachesmith/solver/Knapsack", "share", "(I)D"⟩ : MethodName)) (hw _ (List.mem_of_getElem? (i := 42) rfl)) (hw _ (List.mem_of_getElem? (i := 43) rfl)) (notFace_of_selects (args := #[]) (mvT cx.2.1 (hw _ (List.mem_of_getElem? (i := 45) rfl)))) (hw _ (List.mem_of_getElem? (i := 45) rfl)) (hw _ (List.mem_of_getElem? (i := 44) rfl)) (hw _ (List.mem_of_getElem? (i := 8) rfl)) (hw _ (List.mem_of_getElem? (i := 46) rfl)) 3 rfl (rmSh l Z a0 hw er sr vr kr cp _ _ _ _ _ _ _ _ _ _ _ _ _ _ _ _ _ (fun _ => nB))  rfl pd_6 rfl (by decide) rfl 0 (Nat.le_of_eq rfl) (by decide) (by decide) (by decide) (by decide) at_262 rfl (fun T v L hQ o => ?_)
            obtain ⟨d2, rfl, kd2, rfl⟩ := hQ
            simp only [Option.toList_some, Option.toList_none, List.cons_append, List.nil_append]
            have ed2 : d2 = FP.dconst1 := kd2.elim (fun q => absurd q.1 c235) (fun q => q.2)
            subst ed2
            refine g_dload cx o (pc' := 267) at_265 rfl rfl ?_
            refine g_dcmp cx o (pc' := 268) at_267 rfl ?_
            refine g_if_ne cx o (pc' := 275) (pc2 := 271) at_268 (by decide) (by decide) rfl (fun c268 => absurd (by first | exact dcmpV_self oR.one.nn _ | (rw [h_f1]; exact dcmpV_self oR.one.nn _) | (rw [h_f2]; exact dcmpV_self oR.one.nn _)) c268) (fun c268 => ?_)
            refine g_iconst cx o (pc' := 272) (1 : Int32) at_271 rfl rfl ?_
            refine g_goto cx o (pc' := 276) at_272 (by decide) (by decide) ?_
            exact g_ireturnZ cx o at_276 (by decide) (by decide) (by decide) rfl
          · refine g_dload cx o (pc' := 240) at_238 rfl rfl ?_
            refine g_goto cx o (pc' := 244) at_240 (by decide) (by decide) ?_
            refine g_dstore cx o (pc' := 246) (l' := #[.val (.int p0), .val (.int p1), .val (.int p2), .val (.long p3), .second, .val (.long p4), .second, .val (.int p5), .val (.int cp), .val (.int s1), .val (.int s2), .val (.long e1), .second, .val (.long e2), .second, .val (.int (1 : Int32)), .val (.int (2 : Int32)), .val (.int (1 : Int32)), .val (.ref kr), .val (.long pq), .second, .val (.long qq), .second, .val (.int (1 : Int32)), .val (.int s2), .val (.int s1), .val (.double ex), .second, .val (.double ex), .second]) at_244 rfl rfl ?_
            refine g_aload cx o (pc' := 248) at_246 rfl rfl rfl ?_
            refine g_iconst cx o (pc' := 249) (0 : Int32) at_248 rfl rfl ?_
            refine g_virtual cx o (pc' := 252) (y := (⟨"com/example/cachesmith/cachesmith/solver/Knapsack", "share", "(I)D"⟩ : MethodName)) (z := (⟨"com/example/cachesmith/cachesmith/solver/Knapsack", "share", "(I)D"⟩ : MethodName)) (hw _ (List.mem_of_getElem? (i := 42) rfl)) (hw _ (List.mem_of_getElem? (i := 43) rfl)) (notFace_of_selects (args := #[]) (mvT cx.2.1 (hw _ (List.mem_of_getElem? (i := 45) rfl)))) (hw _ (List.mem_of_getElem? (i := 45) rfl)) (hw _ (List.mem_of_getElem? (i := 44) rfl)) (hw _ (List.mem_of_getElem? (i := 8) rfl)) (hw _ (List.mem_of_getElem? (i := 46) rfl)) 3 rfl (rmSh l Z a0 hw er sr vr kr cp _ _ _ _ _ _ _ _ _ _ _ _ _ _ _ _ _ (fun _ => nB))  rfl pd_6 rfl (by decide) rfl 0 (Nat.le_of_eq rfl) (by decide) (by decide) (by decide) (by decide) at_249 rfl (fun T v L hQ o => ?_)
            obtain ⟨d1, rfl, kd1, rfl⟩ := hQ
            simp only [Option.toList_some, Option.toList_none, List.cons_append, List.nil_append]
            have ed1 := kd1.elim (fun q => q.2.2) (fun q => q.1.elim (fun z => absurd rfl z) (fun z => absurd z (by omega)))
            rw [← ed1, ← h_ex] at cq
            refine g_dload cx o (pc' := 254) at_252 rfl rfl ?_
            refine g_dcmp cx o (pc' := 255) at_254 rfl ?_
            refine g_if_ne cx o (pc' := 275) (pc2 := 258) at_255 (by decide) (by decide) rfl (fun c255 => absurd cq c255) (fun c255 => ?_)
            refine g_aload cx o (pc' := 260) at_258 rfl rfl rfl ?_
            refine g_iload cx o (pc' := 262) at_260 rfl rfl ?_
            refine g_virtual cx o (pc' := 265) (y := (⟨"com/example/cachesmith/cachesmith/solver/Knapsack", "share", "(I)D"⟩ : MethodName)) (z := (⟨"com/example/cachesmith/cachesmith/solver/Knapsack", "share", "(I)D"⟩ : MethodName)) (hw _ (List.mem_of_getElem? (i := 42) rfl)) (hw _ (List.mem_of_getElem? (i := 43) rfl)) (notFace_of_selects (args := #[]) (mvT cx.2.1 (hw _ (List.mem_of_getElem? (i := 45) rfl)))) (hw _ (List.mem_of_getElem? (i := 45) rfl)) (hw _ (List.mem_of_getElem? (i := 44) rfl)) (hw _ (List.mem_of_getElem? (i := 8) rfl)) (hw _ (List.mem_of_getElem? (i := 46) rfl)) 3 rfl (rmSh l Z a0 hw er sr vr kr cp _ _ _ _ _ _ _ _ _ _ _ _ _ _ _ _ _ (fun _ => nB))  rfl pd_6 rfl (by decide) rfl 0 (Nat.le_of_eq rfl) (by decide) (by decide) (by decide) (by decide) at_262 rfl (fun T v L hQ o => ?_)
            obtain ⟨d2, rfl, kd2, rfl⟩ := hQ
            simp only [Option.toList_some, Option.toList_none, List.cons_append, List.nil_append]
            have ed2 : d2 = d1 := kd2.elim (fun q => q.2.2.trans ed1.symm) (fun q => q.1.elim (fun z => absurd c235 z) (fun z => absurd z (by omega)))
            subst ed2
            refine g_dload cx o (pc' := 267) at_265 rfl rfl ?_
            refine g_dcmp cx o (pc' := 268) at_267 rfl ?_
            refine g_if_ne cx o (pc' := 275) (pc2 := 271) at_268 (by decide) (by decide) rfl (fun c268 => absurd cq c268) (fun c268 => ?_)
            refine g_iconst cx o (pc' := 272) (1 : Int32) at_271 rfl rfl ?_
            refine g_goto cx o (pc' := 276) at_272 (by decide) (by decide) ?_
            exact g_ireturnZ cx o at_276 (by decide) (by decide) (by decide) rfl
    · have c : ¬ _ := fun z => c143 ((o_cmpL _ _).mpr z)
      rw [kp.1, kq.1] at c
      refine g_lload cx o (pc' := 148) at_146 rfl rfl ?_
      refine g_lload cx o (pc' := 150) at_148 rfl rfl ?_
      refine g_lcmp cx o (pc' := 151) at_150 rfl ?_
      refine g_if_ne cx o (pc' := 165) (pc2 := 154) at_151 (by decide) (by decide) rfl (fun c151 => ?_) (fun c151 => ?_)
      · have c2_ := fun z => c151 ((o_cmpL0 _ _).mpr z)
        rw [kp.1, kq.1] at c2_
        refine g_iconst cx o (pc' := 166) (0 : Int32) at_165 rfl rfl ?_
        refine g_istore cx o (pc' := 168) (l' := #[.val (.int p0), .val (.int p1), .val (.int p2), .val (.long p3), .second, .val (.long p4), .second, .val (.int p5), .val (.int cp), .val (.int s1), .val (.int s2), .val (.long e1), .second, .val (.long e2), .second, .val (.int (1 : Int32)), .val (.int (2 : Int32)), .val (.int (1 : Int32)), .val (.ref kr), .val (.long pq), .second, .val (.long qq), .second, .val (.int (0 : Int32)), .unset, .unset, .unset, .unset, .unset, .unset]) at_166 rfl rfl ?_
        refine g_iload cx o (pc' := 170) at_168 rfl rfl ?_
        have fP : ¬ oP e2.toInt s2.toInt ((1 : Int32)).toInt e1.toInt s1.toInt ((2 : Int32)).toInt := fun q => q.elim c (fun z => c2_ z.1)
        refine g_if_eq cx o (pc' := 178) (pc2 := 173) at_170 (by decide) (by decide) rfl (fun c170 => ?_) (fun c170 => absurd (by decide) c170)
        refine g_iload cx o (pc' := 180) at_178 rfl rfl ?_
        refine g_istore cx o (pc' := 182) (l' := #[.val (.int p0), .val (.int p1), .val (.int p2), .val (.long p3), .second, .val (.long p4), .second, .val (.int p5), .val (.int cp), .val (.int s1), .val (.int s2), .val (.long e1), .second, .val (.long e2), .second, .val (.int (1 : Int32)), .val (.int (2 : Int32)), .val (.int (1 : Int32)), .val (.ref kr), .val (.long pq), .second, .val (.long qq), .second, .val (.int (0 : Int32)), .val (.int s1), .unset, .unset, .unset, .unset, .unset]) at_180 rfl rfl ?_
        refine g_iload cx o (pc' := 184) at_182 rfl rfl ?_
        refine g_if_eq cx o (pc' := 192) (pc2 := 187) at_184 (by decide) (by decide) rfl (fun c184 => ?_) (fun c184 => absurd (by decide) c184)
        refine g_iload cx o (pc' := 194) at_192 rfl rfl ?_
        refine g_istore cx o (pc' := 196) (l' := #[.val (.int p0), .val (.int p1), .val (.int p2), .val (.long p3), .second, .val (.long p4), .second, .val (.int p5), .val (.int cp), .val (.int s1), .val (.int s2), .val (.long e1), .second, .val (.long e2), .second, .val (.int (1 : Int32)), .val (.int (2 : Int32)), .val (.int (1 : Int32)), .val (.ref kr), .val (.long pq), .second, .val (.long qq), .second, .val (.int (0 : Int32)), .val (.int s1), .val (.int s2), .unset, .unset, .unset, .unset]) at_194 rfl rfl ?_
        refine g_iload cx o (pc' := 198) at_196 rfl rfl ?_
        refine g_iload cx o (pc' := 200) at_198 rfl rfl ?_
        have sq : (h2.toInt ≤ cp.toInt ∧ (cp.toInt ≤ s1.toInt ∨ s1.toInt + s2.toInt ≤ cp.toInt)) ∨ (h2.toInt = s1.toInt + s2.toInt ∧ cp.toInt < s1.toInt + s2.toInt ∧ s1.toInt < cp.toInt ∧ y0 = s2) := sp.elim (fun q => absurd q.1 fP) (fun q => q.2)
        refine g_icmp_ge cx o (pc' := 230) (pc2 := 203) at_200 (by decide) (by decide) rfl (fun c200 => ?_) (fun c200 => ?_)
        · have c : ¬ _ := fun z => c200 (Int32.lt_iff_toInt_lt.mpr z)
          have hc : h2.toInt ≤ cp.toInt := by
            rcases sq with q | q
            · exact q.1
            · exact absurd q (fun q => c q.2.2.1)
          refine g_dconst1 cx o (pc' := 231) at_230 rfl ?_
          refine g_dstoreV cx o (pc' := 233) (fun w' => #[.val (.int p0), .val (.int p1), .val (.int p2), .val (.long p3), .second, .val (.long p4), .second, .val (.int p5), .val (.int cp), .val (.int s1), .val (.int s2), .val (.long e1), .second, .val (.long e2), .second, .val (.int (1 : Int32)), .val (.int (2 : Int32)), .val (.int (1 : Int32)), .val (.ref kr), .val (.long pq), .second, .val (.long qq), .second, .val (.int (0 : Int32)), .val (.int s1), .val (.int s2), .val (.double w'), .second, .unset, .unset]) at_231 rfl (fun _ => rfl) (fun f1 h_f1 => ?_)
          refine g_iload cx o (pc' := 235) at_233 rfl rfl ?_
          refine g_if_ne cx o (pc' := 243) (pc2 := 238) at_235 (by decide) (by decide) rfl (fun c235 => ?_) (fun c235 => ?_)
          · refine g_dconst1 cx o (pc' := 244) at_243 rfl ?_
            refine g_dstoreV cx o (pc' := 246) (fun w' => #[.val (.int p0), .val (.int p1), .val (.int p2), .val (.long p3), .second, .val (.long p4), .second, .val (.int p5), .val (.int cp), .val (.int s1), .val (.int s2), .val (.long e1), .second, .val (.long e2), .second, .val (.int (1 : Int32)), .val (.int (2 : Int32)), .val (.int (1 : Int32)), .val (.ref kr), .val (.long pq), .second, .val (.long qq), .second, .val (.int (0 : Int32)), .val (.int s1), .val (.int s2), .val (.double f1), .second, .val (.double w'), .second]) at_244 rfl (fun _ => rfl) (fun f2 h_f2 => ?_)
            refine g_aload cx o (pc' := 248) at_246 rfl rfl rfl ?_
            refine g_iconst cx o (pc' := 249) (0 : Int32) at_248 rfl rfl ?_
            refine g_virtual cx o (pc' := 252) (y := (⟨"com/example/cachesmith/cachesmith/solver/Knapsack", "share", "(I)D"⟩ : MethodName)) (z := (⟨"com/example/cachesmith/cachesmith/solver/Knapsack", "share", "(I)D"⟩ : MethodName)) (hw _ (List.mem_of_getElem? (i := 42) rfl)) (hw _ (List.mem_of_getElem? (i := 43) rfl)) (notFace_of_selects (args := #[]) (mvT cx.2.1 (hw _ (List.mem_of_getElem? (i := 45) rfl)))) (hw _ (List.mem_of_getElem? (i := 45) rfl)) (hw _ (List.mem_of_getElem? (i := 44) rfl)) (hw _ (List.mem_of_getElem? (i := 8) rfl)) (hw _ (List.mem_of_getElem? (i := 46) rfl)) 3 rfl (rmSh l Z a0 hw er sr vr kr cp _ _ _ _ _ _ _ _ _ _ _ _ _ _ _ _ _ (fun q => absurd q (by omega)))  rfl pd_6 rfl (by decide) rfl 0 (Nat.le_of_eq rfl) (by decide) (by decide) (by decide) (by decide) at_249 rfl (fun T v L hQ o => ?_)
            obtain ⟨d1, rfl, kd1, rfl⟩ := hQ
            simp only [Option.toList_some, Option.toList_none, List.cons_append, List.nil_append]
            have ed1 : d1 = FP.dconst1 := kd1.elim (fun q => absurd q.2.1 (by omega)) (fun q => q.2)
            subst ed1
            refine g_dload cx o (pc' := 254) at_252 rfl rfl ?_
            refine g_dcmp cx o (pc' := 255) at_254 rfl ?_
            refine g_if_ne cx o (pc' := 275) (pc2 := 258) at_255 (by decide) (by decide) rfl (fun c255 => absurd (by first | exact dcmpV_self oR.one.nn _ | (rw [h_f1]; exact dcmpV_self oR.one.nn _) | (rw [h_f2]; exact dcmpV_self oR.one.nn _)) c255) (fun c255 => ?_)
            refine g_aload cx o (pc' := 260) at_258 rfl rfl rfl ?_
            refine g_iload cx o (pc' := 262) at_260 rfl rfl ?_
            refine g_virtual cx o (pc' := 265) (y := (⟨"com/example/cachesmith/cachesmith/solver/Knapsack", "share", "(I)D"⟩ : MethodName)) (z := (⟨"com/example/cachesmith/cachesmith/solver/Knapsack", "share", "(I)D"⟩ : MethodName)) (hw _ (List.mem_of_getElem? (i := 42) rfl)) (hw _ (List.mem_of_getElem? (i := 43) rfl)) (notFace_of_selects (args := #[]) (mvT cx.2.1 (hw _ (List.mem_of_getElem? (i := 45) rfl)))) (hw _ (List.mem_of_getElem? (i := 45) rfl)) (hw _ (List.mem_of_getElem? (i := 44) rfl)) (hw _ (List.mem_of_getElem? (i := 8) rfl)) (hw _ (List.mem_of_getElem? (i := 46) rfl)) 3 rfl (rmSh l Z a0 hw er sr vr kr cp _ _ _ _ _ _ _ _ _ _ _ _ _ _ _ _ _ (fun q => absurd q (by omega)))  rfl pd_6 rfl (by decide) rfl 0 (Nat.le_of_eq rfl) (by decide) (by decide) (by decide) (by decide) at_262 rfl (fun T v L hQ o => ?_)
            obtain ⟨d2, rfl, kd2, rfl⟩ := hQ
            simp only [Option.toList_some, Option.toList_none, List.cons_append, List.nil_append]
            have ed2 : d2 = FP.dconst1 := kd2.elim (fun q => absurd q.2.1 (by omega)) (fun q => q.2)
            subst ed2
            refine g_dload cx o (pc' := 267) at_265 rfl rfl ?_
            refine g_dcmp cx o (pc' := 268) at_267 rfl ?_
            refine g_if_ne cx o (pc' := 275) (pc2 := 271) at_268 (by decide) (by decide) rfl (fun c268 => absurd (by first | exact dcmpV_self oR.one.nn _ | (rw [h_f1]; exact dcmpV_self oR.one.nn _) | (rw [h_f2]; exact dcmpV_self oR.one.nn _)) c268) (fun c268 => ?_)
            refine g_iconst cx o (pc' := 272) (1 : Int32) at_271 rfl rfl ?_
            refine g_goto cx o (pc' := 276) at_272 (by decide) (by decide) ?_
            exact g_ireturnZ cx o at_276 (by decide) (by decide) (by decide) rfl
          · refine g_dload cx o (pc' := 240) at_238 rfl rfl ?_
            refine g_goto cx o (pc' := 244) at_240 (by decide) (by decide) ?_
            refine g_dstore cx o (pc' := 246) (l' := #[.val (.int p0), .val (.int p1), .val (.int p2), .val (.long p3), .second, .val (.long p4), .second, .val (.int p5), .val (.int cp), .val (.int s1), .val (.int s2), .val (.long e1), .second, .val (.long e2), .second, .val (.int (1 : Int32)), .val (.int (2 : Int32)), .val (.int (1 : Int32)), .val (.ref kr), .val (.long pq), .second, .val (.long qq), .second, .val (.int (0 : Int32)), .val (.int s1), .val (.int s2), .val (.double f1), .second, .val (.double f1), .second]) at_244 rfl rfl ?_
            refine g_aload cx o (pc' := 248) at_246 rfl rfl rfl ?_
            refine g_iconst cx o (pc' := 249) (0 : Int32) at_248 rfl rfl ?_
            refine g_virtual cx o (pc' := 252) (y := (⟨"com/example/cachesmith/cachesmith/solver/Knapsack", "share", "(I)D"⟩ : MethodName)) (z := (⟨"com/example/cachesmith/cachesmith/solver/Knapsack", "share", "(I)D"⟩ : MethodName)) (hw _ (List.mem_of_getElem? (i := 42) rfl)) (hw _ (List.mem_of_getElem? (i := 43) rfl)) (notFace_of_selects (args := #[]) (mvT cx.2.1 (hw _ (List.mem_of_getElem? (i := 45) rfl)))) (hw _ (List.mem_of_getElem? (i := 45) rfl)) (hw _ (List.mem_of_getElem? (i := 44) rfl)) (hw _ (List.mem_of_getElem? (i := 8) rfl)) (hw _ (List.mem_of_getElem? (i := 46) rfl)) 3 rfl (rmSh l Z a0 hw er sr vr kr cp _ _ _ _ _ _ _ _ _ _ _ _ _ _ _ _ _ (fun q => absurd q (by omega)))  rfl pd_6 rfl (by decide) rfl 0 (Nat.le_of_eq rfl) (by decide) (by decide) (by decide) (by decide) at_249 rfl (fun T v L hQ o => ?_)
            obtain ⟨d1, rfl, kd1, rfl⟩ := hQ
            simp only [Option.toList_some, Option.toList_none, List.cons_append, List.nil_append]
            have ed1 : d1 = FP.dconst1 := kd1.elim (fun q => absurd q.2.1 (by omega)) (fun q => q.2)
            subst ed1
            refine g_dload cx o (pc' := 254) at_252 rfl rfl ?_
            refine g_dcmp cx o (pc' := 255) at_254 rfl ?_
            refine g_if_ne cx o (pc' := 275) (pc2 := 258) at_255 (by decide) (by decide) rfl (fun c255 => absurd (by first | exact dcmpV_self oR.one.nn _ | (rw [h_f1]; exact dcmpV_self oR.one.nn _) | (rw [h_f2]; exact dcmpV_self oR.one.nn _)) c255) (fun c255 => ?_)
            refine g_aload cx o (pc' := 260) at_258 rfl rfl rfl ?_
            refine g_iload cx o (pc' := 262) at_260 rfl rfl ?_
            refine g_virtual cx o (pc' := 265) (y := (⟨"com/example/cachesmith/cachesmith/solver/Knapsack", "share", "(I)D"⟩ : MethodName)) (z := (⟨"com/example/cachesmith/cachesmith/solver/Knapsack", "share", "(I)D"⟩ : MethodName)) (hw _ (List.mem_of_getElem? (i := 42) rfl)) (hw _ (List.mem_of_getElem? (i := 43) rfl)) (notFace_of_selects (args := #[]) (mvT cx.2.1 (hw _ (List.mem_of_getElem? (i := 45) rfl)))) (hw _ (List.mem_of_getElem? (i := 45) rfl)) (hw _ (List.mem_of_getElem? (i := 44) rfl)) (hw _ (List.mem_of_getElem? (i := 8) rfl)) (hw _ (List.mem_of_getElem? (i := 46) rfl)) 3 rfl (rmSh l Z a0 hw er sr vr kr cp _ _ _ _ _ _ _ _ _ _ _ _ _ _ _ _ _ (fun q => absurd q (by omega)))  rfl pd_6 rfl (by decide) rfl 0 (Nat.le_of_eq rfl) (by decide) (by decide) (by decide) (by decide) at_262 rfl (fun T v L hQ o => ?_)
            obtain ⟨d2, rfl, kd2, rfl⟩ := hQ
            simp only [Option.toList_some, Option.toList_none, List.cons_append, List.nil_append]
            have ed2 : d2 = FP.dconst1 := kd2.elim (fun q => absurd q.2.1 (by omega)) (fun q => q.2)
            subst ed2
            refine g_dload cx o (pc' := 267) at_265 rfl rfl ?_
            refine g_dcmp cx o (pc' := 268) at_267 rfl ?_
            refine g_if_ne cx o (pc' := 275) (pc2 := 271) at_268 (by decide) (by decide) rfl (fun c268 => absurd (by first | exact dcmpV_self oR.one.nn _ | (rw [h_f1]; exact dcmpV_self oR.one.nn _) | (rw [h_f2]; exact dcmpV_self oR.one.nn _)) c268) (fun c268 => ?_)
            refine g_iconst cx o (pc' := 272) (1 : Int32) at_271 rfl rfl ?_
            refine g_goto cx o (pc' := 276) at_272 (by decide) (by decide) ?_
            exact g_ireturnZ cx o at_276 (by decide) (by decide) (by decide) rfl
        · have c200 := Int32.lt_iff_toInt_lt.mp c200
          refine g_iload cx o (pc' := 205) at_203 rfl rfl ?_
          refine g_i2l cx o (pc' := 206) at_205 rfl ?_
          refine g_iload cx o (pc' := 208) at_206 rfl rfl ?_
          refine g_i2l cx o (pc' := 209) at_208 rfl ?_
          refine g_ladd cx o (pc' := 210) at_209 rfl ?_
          refine g_iload cx o (pc' := 212) at_210 rfl rfl ?_
          refine g_i2l cx o (pc' := 213) at_212 rfl ?_
          refine g_lcmp cx o (pc' := 214) at_213 rfl ?_
          have ka : (s1.toInt64 + s2.toInt64).toInt = s1.toInt + s2.toInt := by rw [Jvm.Kit.i64_add (by rw [j1, j2]; omega) (by rw [j1, j2]; omega), j1, j2]
          refine g_if_le cx o (pc' := 230) (pc2 := 217) at_214 (by decide) (by decide) rfl (fun c214 => ?_) (fun c214 => ?_)
          · have c : ¬ _ := fun z => c214 ((o_cmpL _ _).mpr z)
            rw [ka, jc] at c
            have hc : h2.toInt ≤ cp.toInt := by
              rcases sq with q | q
              · exact q.1
              · exact absurd q (fun q => c (by omega))
            refine g_dconst1 cx o (pc' := 231) at_230 rfl ?_
            refine g_dstoreV cx o (pc' := 233) (fun w' => #[.val (.int p0), .val (.int p1), .val (.int p2), .val (.long p3), .second, .val (.long p4), .second, .val (.int p5), .val (.int cp), .val (.int s1), .val (.int s2), .val (.long e1), .second, .val (.long e2), .second, .val (.int (1 : Int32)), .val (.int (2 : Int32)), .val (.int (1 : Int32)), .val (.ref kr), .val (.long pq), .second, .val (.long qq), .second, .val (.int (0 : Int32)), .val (.int s1), .val (.int s2), .val (.double w'), .second, .unset, .unset]) at_231 rfl (fun _ => rfl) (fun f1 h_f1 => ?_)
            refine g_iload cx o (pc' := 235) at_233 rfl rfl ?_
            refine g_if_ne cx o (pc' := 243) (pc2 := 238) at_235 (by decide) (by decide) rfl (fun c235 => ?_) (fun c235 => ?_)
            · refine g_dconst1 cx o (pc' := 244) at_243 rfl ?_
              refine g_dstoreV cx o (pc' := 246) (fun w' => #[.val (.int p0), .val (.int p1), .val (.int p2), .val (.long p3), .second, .val (.long p4), .second, .val (.int p5), .val (.int cp), .val (.int s1), .val (.int s2), .val (.long e1), .second, .val (.long e2), .second, .val (.int (1 : Int32)), .val (.int (2 : Int32)), .val (.int (1 : Int32)), .val (.ref kr), .val (.long pq), .second, .val (.long qq), .second, .val (.int (0 : Int32)), .val (.int s1), .val (.int s2), .val (.double f1), .second, .val (.double w'), .second]) at_244 rfl (fun _ => rfl) (fun f2 h_f2 => ?_)
              refine g_aload cx o (pc' := 248) at_246 rfl rfl rfl ?_
              refine g_iconst cx o (pc' := 249) (0 : Int32) at_248 rfl rfl ?_
              refine g_virtual cx o (pc' := 252) (y := (⟨"com/example/cachesmith/cachesmith/solver/Knapsack", "share", "(I)D"⟩ : MethodName)) (z := (⟨"com/example/cachesmith/cachesmith/solver/Knapsack", "share", "(I)D"⟩ : MethodName)) (hw _ (List.mem_of_getElem? (i := 42) rfl)) (hw _ (List.mem_of_getElem? (i := 43) rfl)) (notFace_of_selects (args := #[]) (mvT cx.2.1 (hw _ (List.mem_of_getElem? (i := 45) rfl)))) (hw _ (List.mem_of_getElem? (i := 45) rfl)) (hw _ (List.mem_of_getElem? (i := 44) rfl)) (hw _ (List.mem_of_getElem? (i := 8) rfl)) (hw _ (List.mem_of_getElem? (i := 46) rfl)) 3 rfl (rmSh l Z a0 hw er sr vr kr cp _ _ _ _ _ _ _ _ _ _ _ _ _ _ _ _ _ (fun q => absurd q (by omega)))  rfl pd_6 rfl (by decide) rfl 0 (Nat.le_of_eq rfl) (by decide) (by decide) (by decide) (by decide) at_249 rfl (fun T v L hQ o => ?_)
              obtain ⟨d1, rfl, kd1, rfl⟩ := hQ
              simp only [Option.toList_some, Option.toList_none, List.cons_append, List.nil_append]
              have ed1 : d1 = FP.dconst1 := kd1.elim (fun q => absurd q.2.1 (by omega)) (fun q => q.2)
              subst ed1
              refine g_dload cx o (pc' := 254) at_252 rfl rfl ?_
              refine g_dcmp cx o (pc' := 255) at_254 rfl ?_
              refine g_if_ne cx o (pc' := 275) (pc2 := 258) at_255 (by decide) (by decide) rfl (fun c255 => absurd (by first | exact dcmpV_self oR.one.nn _ | (rw [h_f1]; exact dcmpV_self oR.one.nn _) | (rw [h_f2]; exact dcmpV_self oR.one.nn _)) c255) (fun c255 => ?_)
              refine g_aload cx o (pc' := 260) at_258 rfl rfl rfl ?_
              refine g_iload cx o (pc' := 262) at_260 rfl rfl ?_
              refine g_virtual cx o (pc' := 265) (y := (⟨"com/example/cachesmith/cachesmith/solver/Knapsack", "share", "(I)D"⟩ : MethodName)) (z := (⟨"com/example/cachesmith/cachesmith/solver/Knapsack", "share", "(I)D"⟩ : MethodName)) (hw _ (List.mem_of_getElem? (i := 42) rfl)) (hw _ (List.mem_of_getElem? (i := 43) rfl)) (notFace_of_selects (args := #[]) (mvT cx.2.1 (hw _ (List.mem_of_getElem? (i := 45) rfl)))) (hw _ (List.mem_of_getElem? (i := 45) rfl)) (hw _ (List.mem_of_getElem? (i := 44) rfl)) (hw _ (List.mem_of_getElem? (i := 8) rfl)) (hw _ (List.mem_of_getElem? (i := 46) rfl)) 3 rfl (rmSh l Z a0 hw er sr vr kr cp _ _ _ _ _ _ _ _ _ _ _ _ _ _ _ _ _ (fun q => absurd q (by omega)))  rfl pd_6 rfl (by decide) rfl 0 (Nat.le_of_eq rfl) (by decide) (by decide) (by decide) (by decide) at_262 rfl (fun T v L hQ o => ?_)
              obtain ⟨d2, rfl, kd2, rfl⟩ := hQ
              simp only [Option.toList_some, Option.toList_none, List.cons_append, List.nil_append]
              have ed2 : d2 = FP.dconst1 := kd2.elim (fun q => absurd q.2.1 (by omega)) (fun q => q.2)
              subst ed2
              refine g_dload cx o (pc' := 267) at_265 rfl rfl ?_
              refine g_dcmp cx o (pc' := 268) at_267 rfl ?_
              refine g_if_ne cx o (pc' := 275) (pc2 := 271) at_268 (by decide) (by decide) rfl (fun c268 => absurd (by first | exact dcmpV_self oR.one.nn _ | (rw [h_f1]; exact dcmpV_self oR.one.nn _) | (rw [h_f2]; exact dcmpV_self oR.one.nn _)) c268) (fun c268 => ?_)
              refine g_iconst cx o (pc' := 272) (1 : Int32) at_271 rfl rfl ?_
              refine g_goto cx o (pc' := 276) at_272 (by decide) (by decide) ?_
              exact g_ireturnZ cx o at_276 (by decide) (by decide) (by decide) rfl
            · refine g_dload cx o (pc' := 240) at_238 rfl rfl ?_
              refine g_goto cx o (pc' := 244) at_240 (by decide) (by decide) ?_
              refine g_dstore cx o (pc' := 246) (l' := #[.val (.int p0), .val (.int p1), .val (.int p2), .val (.long p3), .second, .val (.long p4), .second, .val (.int p5), .val (.int cp), .val (.int s1), .val (.int s2), .val (.long e1), .second, .val (.long e2), .second, .val (.int (1 : Int32)), .val (.int (2 : Int32)), .val (.int (1 : Int32)), .val (.ref kr), .val (.long pq), .second, .val (.long qq), .second, .val (.int (0 : Int32)), .val (.int s1), .val (.int s2), .val (.double f1), .second, .val (.double f1), .second]) at_244 rfl rfl ?_
              refine g_aload cx o (pc' := 248) at_246 rfl rfl rfl ?_
              refine g_iconst cx o (pc' := 249) (0 : Int32) at_248 rfl rfl ?_
              refine g_virtual cx o (pc' := 252) (y := (⟨"com/example/cachesmith/cachesmith/solver/Knapsack", "share", "(I)D"⟩ : MethodName)) (z := (⟨"com/example/cachesmith/cachesmith/solver/Knapsack", "share", "(I)D"⟩ : MethodName)) (hw _ (List.mem_of_getElem? (i := 42) rfl)) (hw _ (List.mem_of_getElem? (i := 43) rfl)) (notFace_of_selects (args := #[]) (mvT cx.2.1 (hw _ (List.mem_of_getElem? (i := 45) rfl)))) (hw _ (List.mem_of_getElem? (i := 45) rfl)) (hw _ (List.mem_of_getElem? (i := 44) rfl)) (hw _ (List.mem_of_getElem? (i := 8) rfl)) (hw _ (List.mem_of_getElem? (i := 46) rfl)) 3 rfl (rmSh l Z a0 hw er sr vr kr cp _ _ _ _ _ _ _ _ _ _ _ _ _ _ _ _ _ (fun q => absurd q (by omega)))  rfl pd_6 rfl (by decide) rfl 0 (Nat.le_of_eq rfl) (by decide) (by decide) (by decide) (by decide) at_249 rfl (fun T v L hQ o => ?_)
              obtain ⟨d1, rfl, kd1, rfl⟩ := hQ
              simp only [Option.toList_some, Option.toList_none, List.cons_append, List.nil_append]
              have ed1 : d1 = FP.dconst1 := kd1.elim (fun q => absurd q.2.1 (by omega)) (fun q => q.2)
              subst ed1
              refine g_dload cx o (pc' := 254) at_252 rfl rfl ?_
              refine g_dcmp cx o (pc' := 255) at_254 rfl ?_
              refine g_if_ne cx o (pc' := 275) (pc2 := 258) at_255 (by decide) (by decide) rfl (fun c255 => absurd (by first | exact dcmpV_self oR.one.nn _ | (rw [h_f1]; exact dcmpV_self oR.one.nn _) | (rw [h_f2]; exact dcmpV_self oR.one.nn _)) c255) (fun c255 => ?_)
              refine g_aload cx o (pc' := 260) at_258 rfl rfl rfl ?_
              refine g_iload cx o (pc' := 262) at_260 rfl rfl ?_
              refine g_virtual cx o (pc' := 265) (y := (⟨"com/example/cachesmith/cachesmith/solver/Knapsack", "share", "(I)D"⟩ : MethodName)) (z := (⟨"com/example/cachesmith/cachesmith/solver/Knapsack", "share", "(I)D"⟩ : MethodName)) (hw _ (List.mem_of_getElem? (i := 42) rfl)) (hw _ (List.mem_of_getElem? (i := 43) rfl)) (notFace_of_selects (args := #[]) (mvT cx.2.1 (hw _ (List.mem_of_getElem? (i := 45) rfl)))) (hw _ (List.mem_of_getElem? (i := 45) rfl)) (hw _ (List.mem_of_getElem? (i := 44) rfl)) (hw _ (List.mem_of_getElem? (i := 8) rfl)) (hw _ (List.mem_of_getElem? (i := 46) rfl)) 3 rfl (rmSh l Z a0 hw er sr vr kr cp _ _ _ _ _ _ _ _ _ _ _ _ _ _ _ _ _ (fun q => absurd q (by omega)))  rfl pd_6 rfl (by decide) rfl 0 (Nat.le_of_eq rfl) (by decide) (by decide) (by decide) (by decide) at_262 rfl (fun T v L hQ o => ?_)
              obtain ⟨d2, rfl, kd2, rfl⟩ := hQ
              simp only [Option.toList_some, Option.toList_none, List.cons_append, List.nil_append]
              have ed2 : d2 = FP.dconst1 := kd2.elim (fun q => absurd q.2.1 (by omega)) (fun q => q.2)
              subst ed2
              refine g_dload cx o (pc' := 267) at_265 rfl rfl ?_
              refine g_dcmp cx o (pc' := 268) at_267 rfl ?_
              refine g_if_ne cx o (pc' := 275) (pc2 := 271) at_268 (by decide) (by decide) rfl (fun c268 => absurd (by first | exact dcmpV_self oR.one.nn _ | (rw [h_f1]; exact dcmpV_self oR.one.nn _) | (rw [h_f2]; exact dcmpV_self oR.one.nn _)) c268) (fun c268 => ?_)
              refine g_iconst cx o (pc' := 272) (1 : Int32) at_271 rfl rfl ?_
              refine g_goto cx o (pc' := 276) at_272 (by decide) (by decide) ?_
              exact g_ireturnZ cx o at_276 (by decide) (by decide) (by decide) rfl
          · have c := (o_cmpL _ _).mp c214
            rw [ka, jc] at c
            have hc : h2.toInt = s1.toInt + s2.toInt ∧ y0 = s2 := by
              rcases sq with q | q
              · exact absurd q (fun q => by omega)
              · exact ⟨q.1, q.2.2.2⟩
            obtain ⟨hc, ey⟩ := hc
            have ki : (cp - s1).toInt = cp.toInt - s1.toInt := by rw [Jvm.Kit.i32_sub (by omega) (by omega)]
            have Ri := o_i2dN (x := cp - s1) (by omega)
            have Rm := o_i2dN (x := s2) (by omega)
            have kj : (h2 - y0.toInt64).toInt = s1.toInt := by rw [ey, Jvm.Kit.i64_sub (by rw [j2]; omega) (by rw [j2]; omega), j2]; omega
            have kl2 : (cp.toInt64 - (h2 - y0.toInt64)).toInt = cp.toInt - s1.toInt := by rw [Jvm.Kit.i64_sub (by rw [kj, jc]; omega) (by rw [kj, jc]; omega), kj, jc]
            have Rl := o_l2dN (x := cp.toInt64 - (h2 - y0.toInt64)) (by omega)
            have Ry : oR ((s2.toInt.toNat : Nat) : Int) 0 (FP.i2d y0) := by rw [ey]; exact Rm
            have nA : NoNaN64 (FP.ddiv (FP.i2d (cp - s1)) (FP.i2d s2)) := o_div_nn Ri Rm (by omega)
            have nB : NoNaN64 (FP.ddiv (FP.l2d (cp.toInt64 - (h2 - y0.toInt64))) (FP.i2d y0)) := o_div_nn Rl Ry (by omega)
            have eqz : oz (FP.ddiv (FP.l2d (cp.toInt64 - (h2 - y0.toInt64))) (FP.i2d y0)) = oz (FP.ddiv (FP.i2d (cp - s1)) (FP.i2d s2)) := by
              have zi := Ri.z (by decide)
              have zm := Rm.z (by decide)
              have zl := Rl.z (by decide)
              have zy := Ry.z (by decide)
              rw [kl2] at zl
              rw [ki] at zi
              have pp := o_pow_pos (1074 - 0)
              have pm : (0 : Int) < ((s2.toInt.toNat : Nat) : Int) := by omega
              refine o_div_same Rl.1 Ry.1 Ri.1 Rm.1 (by rw [zy]; exact Int.mul_pos pm pp) (by rw [zm]; exact Int.mul_pos pm pp) (by rw [zl]; exact Int.mul_nonneg (Int.natCast_nonneg _) (Int.natCast_nonneg _)) (by rw [zi]; exact Int.mul_nonneg (Int.natCast_nonneg _) (Int.natCast_nonneg _)) (by rw [zl, zy, zi, zm])
            have cq : cmpValue (FP.dcmp (FP.ddiv (FP.l2d (cp.toInt64 - (h2 - y0.toInt64))) (FP.i2d y0)) (FP.ddiv (FP.i2d (cp - s1)) (FP.i2d s2))) .l = 0 := by rw [o_cvz nB nA, if_neg (by omega), if_pos eqz]
            refine g_iload cx o (pc' := 219) at_217 rfl rfl ?_
            refine g_iload cx o (pc' := 221) at_219 rfl rfl ?_
            refine g_isub cx o (pc' := 222) at_221 rfl ?_
            refine g_i2d cx o (pc' := 223) at_222 rfl ?_
            refine g_iload cx o (pc' := 225) at_223 rfl rfl ?_
            refine g_i2d cx o (pc' := 226) at_225 rfl ?_
            refine g_ddiv cx o (pc' := 227) at_226 rfl nA ?_
            refine g_goto cx o (pc' := 231) at_227 (by decide) (by decide) ?_
            refine g_dstoreV cx o (pc' := 233) (fun w' => #[.val (.int p0), .val (.int p1), .val (.int p2), .val (.long p3), .second, .val (.long p4), .second, .val (.int p5), .val (.int cp), .val (.int s1), .val (.int s2), .val (.long e1), .second, .val (.long e2), .second, .val (.int (1 : Int32)), .val (.int (2 : Int32)), .val (.int (1 : Int32)), .val (.ref kr), .val (.long pq), .second, .val (.long qq), .second, .val (.int (0 : Int32)), .val (.int s1), .val (.int s2), .val (.double w'), .second, .unset, .unset]) at_231 rfl (fun _ => rfl) (fun ex h_ex => ?_)
            refine g_iload cx o (pc' := 235) at_233 rfl rfl ?_
            refine g_if_ne cx o (pc' := 243) (pc2 := 238) at_235 (by decide) (by decide) rfl (fun c235 => ?_) (fun c235 => ?_)
            · refine g_dconst1 cx o (pc' := 244) at_243 rfl ?_
              refine g_dstoreV cx o (pc' := 246) (fun w' => #[.val (.int p0), .val (.int p1), .val (.int p2), .val (.long p3), .second, .val (.long p4), .second, .val (.int p5), .val (.int cp), .val (.int s1), .val (.int s2), .val (.long e1), .second, .val (.long e2), .second, .val (.int (1 : Int32)), .val (.int (2 : Int32)), .val (.int (1 : Int32)), .val (.ref kr), .val (.long pq), .second, .val (.long qq), .second, .val (.int (0 : Int32)), .val (.int s1), .val (.int s2), .val (.double ex), .second, .val (.double w'), .second]) at_244 rfl (fun _ => rfl) (fun f1 h_f1 => ?_)
              refine g_aload cx o (pc' := 248) at_246 rfl rfl rfl ?_
              refine g_iconst cx o (pc' := 249) (0 : Int32) at_248 rfl rfl ?_
              refine g_virtual cx o (pc' := 252) (y := (⟨"com/example/cachesmith/cachesmith/solver/Knapsack", "share", "(I)D"⟩ : MethodName)) (z := (⟨"com/example/cachesmith/cachesmith/solver/Knapsack", "share", "(I)D"⟩ : MethodName)) (hw _ (List.mem_of_getElem? (i := 42) rfl)) (hw _ (List.mem_of_getElem? (i := 43) rfl)) (notFace_of_selects (args := #[]) (mvT cx.2.1 (hw _ (List.mem_of_getElem? (i := 45) rfl)))) (hw _ (List.mem_of_getElem? (i := 45) rfl)) (hw _ (List.mem_of_getElem? (i := 44) rfl)) (hw _ (List.mem_of_getElem? (i := 8) rfl)) (hw _ (List.mem_of_getElem? (i := 46) rfl)) 3 rfl (rmSh l Z a0 hw er sr vr kr cp _ _ _ _ _ _ _ _ _ _ _ _ _ _ _ _ _ (fun _ => nB))  rfl pd_6 rfl (by decide) rfl 0 (Nat.le_of_eq rfl) (by decide) (by decide) (by decide) (by decide) at_249 rfl (fun T v L hQ o => ?_)
              obtain ⟨d1, rfl, kd1, rfl⟩ := hQ
              simp only [Option.toList_some, Option.toList_none, List.cons_append, List.nil_append]
              have ed1 := kd1.elim (fun q => q.2.2) (fun q => q.1.elim (fun z => absurd rfl z) (fun z => absurd z (by omega)))
              rw [← ed1, ← h_ex] at cq
              refine g_dload cx o (pc' := 254) at_252 rfl rfl ?_
              refine g_dcmp cx o (pc' := 255) at_254 rfl ?_
              refine g_if_ne cx o (pc' := 275) (pc2 := 258) at_255 (by decide) (by decide) rfl (fun c255 => absurd cq c255) (fun c255 => ?_)
              refine g_aload cx o (pc' := 260) at_258 rfl rfl rfl ?_
              refine g_iload cx o (pc' := 262) at_260 rfl rfl ?_
              refine g_virtual cx o (pc' := 265) (y := (⟨"com/example/cachesmith/cachesmith/solver/Knapsack", "share", "(I)D"⟩ : MethodName)) (z := (⟨"com/example/cachesmith/cachesmith/solver/Knapsack", "share", "(I)D"⟩ : MethodName)) (hw _ (List.mem_of_getElem? (i := 42) rfl)) (hw _ (List.mem_of_getElem? (i := 43) rfl)) (notFace_of_selects (args := #[]) (mvT cx.2.1 (hw _ (List.mem_of_getElem? (i := 45) rfl)))) (hw _ (List.mem_of_getElem? (i := 45) rfl)) (hw _ (List.mem_of_getElem? (i := 44) rfl)) (hw _ (List.mem_of_getElem? (i := 8) rfl)) (hw _ (List.mem_of_getElem? (i := 46) rfl)) 3 rfl (rmSh l Z a0 hw er sr vr kr cp _ _ _ _ _ _ _ _ _ _ _ _ _ _ _ _ _ (fun _ => nB))  rfl pd_6 rfl (by decide) rfl 0 (Nat.le_of_eq rfl) (by decide) (by decide) (by decide) (by decide) at_262 rfl (fun T v L hQ o => ?_)
              obtain ⟨d2, rfl, kd2, rfl⟩ := hQ
              simp only [Option.toList_some, Option.toList_none, List.cons_append, List.nil_append]
              have ed2 : d2 = FP.dconst1 := kd2.elim (fun q => absurd q.1 c235) (fun q => q.2)
              subst ed2
              refine g_dload cx o (pc' := 267) at_265 rfl rfl ?_
              refine g_dcmp cx o (pc' := 268) at_267 rfl ?_
              refine g_if_ne cx o (pc' := 275) (pc2 := 271) at_268 (by decide) (by decide) rfl (fun c268 => absurd (by first | exact dcmpV_self oR.one.nn _ | (rw [h_f1]; exact dcmpV_self oR.one.nn _) | (rw [h_f2]; exact dcmpV_self oR.one.nn _)) c268) (fun c268 => ?_)
              refine g_iconst cx o (pc' := 272) (1 : Int32) at_271 rfl rfl ?_
              refine g_goto cx o (pc' := 276) at_272 (by decide) (by decide) ?_
              exact g_ireturnZ cx o at_276 (by decide) (by decide) (by decide) rfl
            · refine g_dload cx o (pc' := 240) at_238 rfl rfl ?_
              refine g_goto cx o (pc' := 244) at_240 (by decide) (by decide) ?_
              refine g_dstore cx o (pc' := 246) (l' := #[.val (.int p0), .val (.int p1), .val (.int p2), .val (.long p3), .second, .val (.long p4), .second, .val (.int p5), .val (.int cp), .val (.int s1), .val (.int s2), .val (.long e1), .second, .val (.long e2), .second, .val (.int (1 : Int32)), .val (.int (2 : Int32)), .val (.int (1 : Int32)), .val (.ref kr), .val (.long pq), .second, .val (.long qq), .second, .val (.int (0 : Int32)), .val (.int s1), .val (.int s2), .val (.double ex), .second, .val (.double ex), .second]) at_244 rfl rfl ?_
              refine g_aload cx o (pc' := 248) at_246 rfl rfl rfl ?_
              refine g_iconst cx o (pc' := 249) (0 : Int32) at_248 rfl rfl ?_
              refine g_virtual cx o (pc' := 252) (y := (⟨"com/example/cachesmith/cachesmith/solver/Knapsack", "share", "(I)D"⟩ : MethodName)) (z := (⟨"com/example/cachesmith/cachesmith/solver/Knapsack", "share", "(I)D"⟩ : MethodName)) (hw _ (List.mem_of_getElem? (i := 42) rfl)) (hw _ (List.mem_of_getElem? (i := 43) rfl)) (notFace_of_selects (args := #[]) (mvT cx.2.1 (hw _ (List.mem_of_getElem? (i := 45) rfl)))) (hw _ (List.mem_of_getElem? (i := 45) rfl)) (hw _ (List.mem_of_getElem? (i := 44) rfl)) (hw _ (List.mem_of_getElem? (i := 8) rfl)) (hw _ (List.mem_of_getElem? (i := 46) rfl)) 3 rfl (rmSh l Z a0 hw er sr vr kr cp _ _ _ _ _ _ _ _ _ _ _ _ _ _ _ _ _ (fun _ => nB))  rfl pd_6 rfl (by decide) rfl 0 (Nat.le_of_eq rfl) (by decide) (by decide) (by decide) (by decide) at_249 rfl (fun T v L hQ o => ?_)
              obtain ⟨d1, rfl, kd1, rfl⟩ := hQ
              simp only [Option.toList_some, Option.toList_none, List.cons_append, List.nil_append]
              have ed1 := kd1.elim (fun q => q.2.2) (fun q => q.1.elim (fun z => absurd rfl z) (fun z => absurd z (by omega)))
              rw [← ed1, ← h_ex] at cq
              refine g_dload cx o (pc' := 254) at_252 rfl rfl ?_
              refine g_dcmp cx o (pc' := 255) at_254 rfl ?_
              refine g_if_ne cx o (pc' := 275) (pc2 := 258) at_255 (by decide) (by decide) rfl (fun c255 => absurd cq c255) (fun c255 => ?_)
              refine g_aload cx o (pc' := 260) at_258 rfl rfl rfl ?_
              refine g_iload cx o (pc' := 262) at_260 rfl rfl ?_
              refine g_virtual cx o (pc' := 265) (y := (⟨"com/example/cachesmith/cachesmith/solver/Knapsack", "share", "(I)D"⟩ : MethodName)) (z := (⟨"com/example/cachesmith/cachesmith/solver/Knapsack", "share", "(I)D"⟩ : MethodName)) (hw _ (List.mem_of_getElem? (i := 42) rfl)) (hw _ (List.mem_of_getElem? (i := 43) rfl)) (notFace_of_selects (args := #[]) (mvT cx.2.1 (hw _ (List.mem_of_getElem? (i := 45) rfl)))) (hw _ (List.mem_of_getElem? (i := 45) rfl)) (hw _ (List.mem_of_getElem? (i := 44) rfl)) (hw _ (List.mem_of_getElem? (i := 8) rfl)) (hw _ (List.mem_of_getElem? (i := 46) rfl)) 3 rfl (rmSh l Z a0 hw er sr vr kr cp _ _ _ _ _ _ _ _ _ _ _ _ _ _ _ _ _ (fun _ => nB))  rfl pd_6 rfl (by decide) rfl 0 (Nat.le_of_eq rfl) (by decide) (by decide) (by decide) (by decide) at_262 rfl (fun T v L hQ o => ?_)
              obtain ⟨d2, rfl, kd2, rfl⟩ := hQ
              simp only [Option.toList_some, Option.toList_none, List.cons_append, List.nil_append]
              have ed2 : d2 = d1 := kd2.elim (fun q => q.2.2.trans ed1.symm) (fun q => q.1.elim (fun z => absurd c235 z) (fun z => absurd z (by omega)))
              subst ed2
              refine g_dload cx o (pc' := 267) at_265 rfl rfl ?_
              refine g_dcmp cx o (pc' := 268) at_267 rfl ?_
              refine g_if_ne cx o (pc' := 275) (pc2 := 271) at_268 (by decide) (by decide) rfl (fun c268 => absurd cq c268) (fun c268 => ?_)
              refine g_iconst cx o (pc' := 272) (1 : Int32) at_271 rfl rfl ?_
              refine g_goto cx o (pc' := 276) at_272 (by decide) (by decide) ?_
              exact g_ireturnZ cx o at_276 (by decide) (by decide) (by decide) rfl
      · have c2_ := (o_cmpL0 _ _).mp c151
        rw [kp.1, kq.1] at c2_
        refine g_iload cx o (pc' := 156) at_154 rfl rfl ?_
        refine g_iload cx o (pc' := 158) at_156 rfl rfl ?_
        refine g_icmp_ge cx o (pc' := 165) (pc2 := 161) at_158 (by decide) (by decide) rfl (fun c158 => absurd (by decide) c158) (fun c158 => ?_)
        refine g_iconst cx o (pc' := 162) (1 : Int32) at_161 rfl rfl ?_
        refine g_goto cx o (pc' := 166) at_162 (by decide) (by decide) ?_
        refine g_istore cx o (pc' := 168) (l' := #[.val (.int p0), .val (.int p1), .val (.int p2), .val (.long p3), .second, .val (.long p4), .second, .val (.int p5), .val (.int cp), .val (.int s1), .val (.int s2), .val (.long e1), .second, .val (.long e2), .second, .val (.int (1 : Int32)), .val (.int (2 : Int32)), .val (.int (1 : Int32)), .val (.ref kr), .val (.long pq), .second, .val (.long qq), .second, .val (.int (1 : Int32)), .unset, .unset, .unset, .unset, .unset, .unset]) at_166 rfl rfl ?_
        refine g_iload cx o (pc' := 170) at_168 rfl rfl ?_
        have fP : oP e2.toInt s2.toInt ((1 : Int32)).toInt e1.toInt s1.toInt ((2 : Int32)).toInt := Or.inr ⟨c2_, by decide⟩
        refine g_if_eq cx o (pc' := 178) (pc2 := 173) at_170 (by decide) (by decide) rfl (fun c170 => absurd c170 (by decide)) (fun c170 => ?_)
        refine g_iload cx o (pc' := 175) at_173 rfl rfl ?_
        refine g_goto cx o (pc' := 180) at_175 (by decide) (by decide) ?_
        refine g_istore cx o (pc' := 182) (l' := #[.val (.int p0), .val (.int p1), .val (.int p2), .val (.long p3), .second, .val (.long p4), .second, .val (.int p5), .val (.int cp), .val (.int s1), .val (.int s2), .val (.long e1), .second, .val (.long e2), .second, .val (.int (1 : Int32)), .val (.int (2 : Int32)), .val (.int (1 : Int32)), .val (.ref kr), .val (.long pq), .second, .val (.long qq), .second, .val (.int (1 : Int32)), .val (.int s2), .unset, .unset, .unset, .unset, .unset]) at_180 rfl rfl ?_
        refine g_iload cx o (pc' := 184) at_182 rfl rfl ?_
        refine g_if_eq cx o (pc' := 192) (pc2 := 187) at_184 (by decide) (by decide) rfl (fun c184 => absurd c184 (by decide)) (fun c184 => ?_)
        refine g_iload cx o (pc' := 189) at_187 rfl rfl ?_
        refine g_goto cx o (pc' := 194) at_189 (by decide) (by decide) ?_
        refine g_istore cx o (pc' := 196) (l' := #[.val (.int p0), .val (.int p1), .val (.int p2), .val (.long p3), .second, .val (.long p4), .second, .val (.int p5), .val (.int cp), .val (.int s1), .val (.int s2), .val (.long e1), .second, .val (.long e2), .second, .val (.int (1 : Int32)), .val (.int (2 : Int32)), .val (.int (1 : Int32)), .val (.ref kr), .val (.long pq), .second, .val (.long qq), .second, .val (.int (1 : Int32)), .val (.int s2), .val (.int s1), .unset, .unset, .unset, .unset]) at_194 rfl rfl ?_
        refine g_iload cx o (pc' := 198) at_196 rfl rfl ?_
        refine g_iload cx o (pc' := 200) at_198 rfl rfl ?_
        have sq : (h2.toInt ≤ cp.toInt ∧ (cp.toInt ≤ s2.toInt ∨ s1.toInt + s2.toInt ≤ cp.toInt)) ∨ (h2.toInt = s1.toInt + s2.toInt ∧ cp.toInt < s1.toInt + s2.toInt ∧ s2.toInt < cp.toInt ∧ y0 = s1) := sp.elim (fun q => q.2) (fun q => absurd fP q.1)
        refine g_icmp_ge cx o (pc' := 230) (pc2 := 203) at_200 (by decide) (by decide) rfl (fun c200 => ?_) (fun c200 => ?_)
        · have c : ¬ _ := fun z => c200 (Int32.lt_iff_toInt_lt.mpr z)
          have hc : h2.toInt ≤ cp.toInt := by
            rcases sq with q | q
            · exact q.1
            · exact absurd q (fun q => c q.2.2.1)
          refine g_dconst1 cx o (pc' := 231) at_230 rfl ?_
          refine g_dstoreV cx o (pc' := 233) (fun w' => #[.val (.int p0), .val (.int p1), .val (.int p2), .val (.long p3), .second, .val (.long p4), .second, .val (.int p5), .val (.int cp), .val (.int s1), .val (.int s2), .val (.long e1), .second, .val (.long e2), .second, .val (.int (1 : Int32)), .val (.int (2 : Int32)), .val (.int (1 : Int32)), .val (.ref kr), .val (.long pq), .second, .val (.long qq), .second, .val (.int (1 : Int32)), .val (.int s2), .val (.int s1), .val (.double w'), .second, .unset, .unset]) at_231 rfl (fun _ => rfl) (fun f1 h_f1 => ?_)
          refine g_iload cx o (pc' := 235) at_233 rfl rfl ?_
          refine g_if_ne cx o (pc' := 243) (pc2 := 238) at_235 (by decide) (by decide) rfl (fun c235 => ?_) (fun c235 => ?_)
          · refine g_dconst1 cx o (pc' := 244) at_243 rfl ?_
            refine g_dstoreV cx o (pc' := 246) (fun w' => #[.val (.int p0), .val (.int p1), .val (.int p2), .val (.long p3), .second, .val (.long p4), .second, .val (.int p5), .val (.int cp), .val (.int s1), .val (.int s2), .val (.long e1), .second, .val (.long e2), .second, .val (.int (1 : Int32)), .val (.int (2 : Int32)), .val (.int (1 : Int32)), .val (.ref kr), .val (.long pq), .second, .val (.long qq), .second, .val (.int (1 : Int32)), .val (.int s2), .val (.int s1), .val (.double f1), .second, .val (.double w'), .second]) at_244 rfl (fun _ => rfl) (fun f2 h_f2 => ?_)
            refine g_aload cx o (pc' := 248) at_246 rfl rfl rfl ?_
            refine g_iconst cx o (pc' := 249) (0 : Int32) at_248 rfl rfl ?_
            refine g_virtual cx o (pc' := 252) (y := (⟨"com/example/cachesmith/cachesmith/solver/Knapsack", "share", "(I)D"⟩ : MethodName)) (z := (⟨"com/example/cachesmith/cachesmith/solver/Knapsack", "share", "(I)D"⟩ : MethodName)) (hw _ (List.mem_of_getElem? (i := 42) rfl)) (hw _ (List.mem_of_getElem? (i := 43) rfl)) (notFace_of_selects (args := #[]) (mvT cx.2.1 (hw _ (List.mem_of_getElem? (i := 45) rfl)))) (hw _ (List.mem_of_getElem? (i := 45) rfl)) (hw _ (List.mem_of_getElem? (i := 44) rfl)) (hw _ (List.mem_of_getElem? (i := 8) rfl)) (hw _ (List.mem_of_getElem? (i := 46) rfl)) 3 rfl (rmSh l Z a0 hw er sr vr kr cp _ _ _ _ _ _ _ _ _ _ _ _ _ _ _ _ _ (fun q => absurd q (by omega)))  rfl pd_6 rfl (by decide) rfl 0 (Nat.le_of_eq rfl) (by decide) (by decide) (by decide) (by decide) at_249 rfl (fun T v L hQ o => ?_)
            obtain ⟨d1, rfl, kd1, rfl⟩ := hQ
            simp only [Option.toList_some, Option.toList_none, List.cons_append, List.nil_append]
            have ed1 : d1 = FP.dconst1 := kd1.elim (fun q => absurd q.2.1 (by omega)) (fun q => q.2)
            subst ed1
            refine g_dload cx o (pc' := 254) at_252 rfl rfl ?_
            refine g_dcmp cx o (pc' := 255) at_254 rfl ?_
            refine g_if_ne cx o (pc' := 275) (pc2 := 258) at_255 (by decide) (by decide) rfl (fun c255 => absurd (by first | exact dcmpV_self oR.one.nn _ | (rw [h_f1]; exact dcmpV_self oR.one.nn _) | (rw [h_f2]; exact dcmpV_self oR.one.nn _)) c255) (fun c255 => ?_)
            refine g_aload cx o (pc' := 260) at_258 rfl rfl rfl ?_
            refine g_iload cx o (pc' := 262) at_260 rfl rfl ?_
            refine g_virtual cx o (pc' := 265) (y := (⟨"com/example/cachesmith/cachesmith/solver/Knapsack", "share", "(I)D"⟩ : MethodName)) (z := (⟨"com/example/cachesmith/cachesmith/solver/Knapsack", "share", "(I)D"⟩ : MethodName)) (hw _ (List.mem_of_getElem? (i := 42) rfl)) (hw _ (List.mem_of_getElem? (i := 43) rfl)) (notFace_of_selects (args := #[]) (mvT cx.2.1 (hw _ (List.mem_of_getElem? (i := 45) rfl)))) (hw _ (List.mem_of_getElem? (i := 45) rfl)) (hw _ (List.mem_of_getElem? (i := 44) rfl)) (hw _ (List.mem_of_getElem? (i := 8) rfl)) (hw _ (List.mem_of_getElem? (i := 46) rfl)) 3 rfl (rmSh l Z a0 hw er sr vr kr cp _ _ _ _ _ _ _ _ _ _ _ _ _ _ _ _ _ (fun q => absurd q (by omega)))  rfl pd_6 rfl (by decide) rfl 0 (Nat.le_of_eq rfl) (by decide) (by decide) (by decide) (by decide) at_262 rfl (fun T v L hQ o => ?_)
            obtain ⟨d2, rfl, kd2, rfl⟩ := hQ
            simp only [Option.toList_some, Option.toList_none, List.cons_append, List.nil_append]
            have ed2 : d2 = FP.dconst1 := kd2.elim (fun q => absurd q.2.1 (by omega)) (fun q => q.2)
            subst ed2
            refine g_dload cx o (pc' := 267) at_265 rfl rfl ?_
            refine g_dcmp cx o (pc' := 268) at_267 rfl ?_
            refine g_if_ne cx o (pc' := 275) (pc2 := 271) at_268 (by decide) (by decide) rfl (fun c268 => absurd (by first | exact dcmpV_self oR.one.nn _ | (rw [h_f1]; exact dcmpV_self oR.one.nn _) | (rw [h_f2]; exact dcmpV_self oR.one.nn _)) c268) (fun c268 => ?_)
            refine g_iconst cx o (pc' := 272) (1 : Int32) at_271 rfl rfl ?_
            refine g_goto cx o (pc' := 276) at_272 (by decide) (by decide) ?_
            exact g_ireturnZ cx o at_276 (by decide) (by decide) (by decide) rfl
          · refine g_dload cx o (pc' := 240) at_238 rfl rfl ?_
            refine g_goto cx o (pc' := 244) at_240 (by decide) (by decide) ?_
            refine g_dstore cx o (pc' := 246) (l' := #[.val (.int p0), .val (.int p1), .val (.int p2), .val (.long p3), .second, .val (.long p4), .second, .val (.int p5), .val (.int cp), .val (.int s1), .val (.int s2), .val (.long e1), .second, .val (.long e2), .second, .val (.int (1 : Int32)), .val (.int (2 : Int32)), .val (.int (1 : Int32)), .val (.ref kr), .val (.long pq), .second, .val (.long qq), .second, .val (.int (1 : Int32)), .val (.int s2), .val (.int s1), .val (.double f1), .second, .val (.double f1), .second]) at_244 rfl rfl ?_
            refine g_aload cx o (pc' := 248) at_246 rfl rfl rfl ?_
            refine g_iconst cx o (pc' := 249) (0 : Int32) at_248 rfl rfl ?_
            refine g_virtual cx o (pc' := 252) (y := (⟨"com/example/cachesmith/cachesmith/solver/Knapsack", "share", "(I)D"⟩ : MethodName)) (z := (⟨"com/example/cachesmith/cachesmith/solver/Knapsack", "share", "(I)D"⟩ : MethodName)) (hw _ (List.mem_of_getElem? (i := 42) rfl)) (hw _ (List.mem_of_getElem? (i := 43) rfl)) (notFace_of_selects (args := #[]) (mvT cx.2.1 (hw _ (List.mem_of_getElem? (i := 45) rfl)))) (hw _ (List.mem_of_getElem? (i := 45) rfl)) (hw _ (List.mem_of_getElem? (i := 44) rfl)) (hw _ (List.mem_of_getElem? (i := 8) rfl)) (hw _ (List.mem_of_getElem? (i := 46) rfl)) 3 rfl (rmSh l Z a0 hw er sr vr kr cp _ _ _ _ _ _ _ _ _ _ _ _ _ _ _ _ _ (fun q => absurd q (by omega)))  rfl pd_6 rfl (by decide) rfl 0 (Nat.le_of_eq rfl) (by decide) (by decide) (by decide) (by decide) at_249 rfl (fun T v L hQ o => ?_)
            obtain ⟨d1, rfl, kd1, rfl⟩ := hQ
            simp only [Option.toList_some, Option.toList_none, List.cons_append, List.nil_append]
            have ed1 : d1 = FP.dconst1 := kd1.elim (fun q => absurd q.2.1 (by omega)) (fun q => q.2)
            subst ed1
            refine g_dload cx o (pc' := 254) at_252 rfl rfl ?_
            refine g_dcmp cx o (pc' := 255) at_254 rfl ?_
            refine g_if_ne cx o (pc' := 275) (pc2 := 258) at_255 (by decide) (by decide) rfl (fun c255 => absurd (by first | exact dcmpV_self oR.one.nn _ | (rw [h_f1]; exact dcmpV_self oR.one.nn _) | (rw [h_f2]; exact dcmpV_self oR.one.nn _)) c255) (fun c255 => ?_)
            refine g_aload cx o (pc' := 260) at_258 rfl rfl rfl ?_
            refine g_iload cx o (pc' := 262) at_260 rfl rfl ?_
            refine g_virtual cx o (pc' := 265) (y := (⟨"com/example/cachesmith/cachesmith/solver/Knapsack", "share", "(I)D"⟩ : MethodName)) (z := (⟨"com/example/cachesmith/cachesmith/solver/Knapsack", "share", "(I)D"⟩ : MethodName)) (hw _ (List.mem_of_getElem? (i := 42) rfl)) (hw _ (List.mem_of_getElem? (i := 43) rfl)) (notFace_of_selects (args := #[]) (mvT cx.2.1 (hw _ (List.mem_of_getElem? (i := 45) rfl)))) (hw _ (List.mem_of_getElem? (i := 45) rfl)) (hw _ (List.mem_of_getElem? (i := 44) rfl)) (hw _ (List.mem_of_getElem? (i := 8) rfl)) (hw _ (List.mem_of_getElem? (i := 46) rfl)) 3 rfl (rmSh l Z a0 hw er sr vr kr cp _ _ _ _ _ _ _ _ _ _ _ _ _ _ _ _ _ (fun q => absurd q (by omega)))  rfl pd_6 rfl (by decide) rfl 0 (Nat.le_of_eq rfl) (by decide) (by decide) (by decide) (by decide) at_262 rfl (fun T v L hQ o => ?_)
            obtain ⟨d2, rfl, kd2, rfl⟩ := hQ
            simp only [Option.toList_some, Option.toList_none, List.cons_append, List.nil_append]
            have ed2 : d2 = FP.dconst1 := kd2.elim (fun q => absurd q.2.1 (by omega)) (fun q => q.2)
            subst ed2
            refine g_dload cx o (pc' := 267) at_265 rfl rfl ?_
            refine g_dcmp cx o (pc' := 268) at_267 rfl ?_
            refine g_if_ne cx o (pc' := 275) (pc2 := 271) at_268 (by decide) (by decide) rfl (fun c268 => absurd (by first | exact dcmpV_self oR.one.nn _ | (rw [h_f1]; exact dcmpV_self oR.one.nn _) | (rw [h_f2]; exact dcmpV_self oR.one.nn _)) c268) (fun c268 => ?_)
            refine g_iconst cx o (pc' := 272) (1 : Int32) at_271 rfl rfl ?_
            refine g_goto cx o (pc' := 276) at_272 (by decide) (by decide) ?_
            exact g_ireturnZ cx o at_276 (by decide) (by decide) (by decide) rfl
        · have c200 := Int32.lt_iff_toInt_lt.mp c200
          refine g_iload cx o (pc' := 205) at_203 rfl rfl ?_
          refine g_i2l cx o (pc' := 206) at_205 rfl ?_
          refine g_iload cx o (pc' := 208) at_206 rfl rfl ?_
          refine g_i2l cx o (pc' := 209) at_208 rfl ?_
          refine g_ladd cx o (pc' := 210) at_209 rfl ?_
          refine g_iload cx o (pc' := 212) at_210 rfl rfl ?_
          refine g_i2l cx o (pc' := 213) at_212 rfl ?_
          refine g_lcmp cx o (pc' := 214) at_213 rfl ?_
          have ka : (s1.toInt64 + s2.toInt64).toInt = s1.toInt + s2.toInt := by rw [Jvm.Kit.i64_add (by rw [j1, j2]; omega) (by rw [j1, j2]; omega), j1, j2]
          refine g_if_le cx o (pc' := 230) (pc2 := 217) at_214 (by decide) (by decide) rfl (fun c214 => ?_) (fun c214 => ?_)
          · have c : ¬ _ := fun z => c214 ((o_cmpL _ _).mpr z)
            rw [ka, jc] at c
            have hc : h2.toInt ≤ cp.toInt := by
              rcases sq with q | q
              · exact q.1
              · exact absurd q (fun q => c (by omega))
            refine g_dconst1 cx o (pc' := 231) at_230 rfl ?_
            refine g_dstoreV cx o (pc' := 233) (fun w' => #[.val (.int p0), .val (.int p1), .val (.int p2), .val (.long p3), .second, .val (.long p4), .second, .val (.int p5), .val (.int cp), .val (.int s1), .val (.int s2), .val (.long e1), .second, .val (.long e2), .second, .val (.int (1 : Int32)), .val (.int (2 : Int32)), .val (.int (1 : Int32)), .val (.ref kr), .val (.long pq), .second, .val (.long qq), .second, .val (.int (1 : Int32)), .val (.int s2), .val (.int s1), .val (.double w'), .second, .unset, .unset]) at_231 rfl (fun _ => rfl) (fun f1 h_f1 => ?_)
            refine g_iload cx o (pc' := 235) at_233 rfl rfl ?_
            refine g_if_ne cx o (pc' := 243) (pc2 := 238) at_235 (by decide) (by decide) rfl (fun c235 => ?_) (fun c235 => ?_)
            · refine g_dconst1 cx o (pc' := 244) at_243 rfl ?_
              refine g_dstoreV cx o (pc' := 246) (fun w' => #[.val (.int p0), .val (.int p1), .val (.int p2), .val (.long p3), .second, .val (.long p4), .second, .val (.int p5), .val (.int cp), .val (.int s1), .val (.int s2), .val (.long e1), .second, .val (.long e2), .second, .val (.int (1 : Int32)), .val (.int (2 : Int32)), .val (.int (1 : Int32)), .val (.ref kr), .val (.long pq), .second, .val (.long qq), .second, .val (.int (1 : Int32)), .val (.int s2), .val (.int s1), .val (.double f1), .second, .val (.double w'), .second]) at_244 rfl (fun _ => rfl) (fun f2 h_f2 => ?_)
              refine g_aload cx o (pc' := 248) at_246 rfl rfl rfl ?_
              refine g_iconst cx o (pc' := 249) (0 : Int32) at_248 rfl rfl ?_
              refine g_virtual cx o (pc' := 252) (y := (⟨"com/example/cachesmith/cachesmith/solver/Knapsack", "share", "(I)D"⟩ : MethodName)) (z := (⟨"com/example/cachesmith/cachesmith/solver/Knapsack", "share", "(I)D"⟩ : MethodName)) (hw _ (List.mem_of_getElem? (i := 42) rfl)) (hw _ (List.mem_of_getElem? (i := 43) rfl)) (notFace_of_selects (args := #[]) (mvT cx.2.1 (hw _ (List.mem_of_getElem? (i := 45) rfl)))) (hw _ (List.mem_of_getElem? (i := 45) rfl)) (hw _ (List.mem_of_getElem? (i := 44) rfl)) (hw _ (List.mem_of_getElem? (i := 8) rfl)) (hw _ (List.mem_of_getElem? (i := 46) rfl)) 3 rfl (rmSh l Z a0 hw er sr vr kr cp _ _ _ _ _ _ _ _ _ _ _ _ _ _ _ _ _ (fun q => absurd q (by omega)))  rfl pd_6 rfl (by decide) rfl 0 (Nat.le_of_eq rfl) (by decide) (by decide) (by decide) (by decide) at_249 rfl (fun T v L hQ o => ?_)
              obtain ⟨d1, rfl, kd1, rfl⟩ := hQ
              simp only [Option.toList_some, Option.toList_none, List.cons_append, List.nil_append]
              have ed1 : d1 = FP.dconst1 := kd1.elim (fun q => absurd q.2.1 (by omega)) (fun q => q.2)
              subst ed1
              refine g_dload cx o (pc' := 254) at_252 rfl rfl ?_
              refine g_dcmp cx o (pc' := 255) at_254 rfl ?_
              refine g_if_ne cx o (pc' := 275) (pc2 := 258) at_255 (by decide) (by decide) rfl (fun c255 => absurd (by first | exact dcmpV_self oR.one.nn _ | (rw [h_f1]; exact dcmpV_self oR.one.nn _) | (rw [h_f2]; exact dcmpV_self oR.one.nn _)) c255) (fun c255 => ?_)
              refine g_aload cx o (pc' := 260) at_258 rfl rfl rfl ?_
              refine g_iload cx o (pc' := 262) at_260 rfl rfl ?_
              refine g_virtual cx o (pc' := 265) (y := (⟨"com/example/cachesmith/cachesmith/solver/Knapsack", "share", "(I)D"⟩ : MethodName)) (z := (⟨"com/example/cachesmith/cachesmith/solver/Knapsack", "share", "(I)D"⟩ : MethodName)) (hw _ (List.mem_of_getElem? (i := 42) rfl)) (hw _ (List.mem_of_getElem? (i := 43) rfl)) (notFace_of_selects (args := #[]) (mvT cx.2.1 (hw _ (List.mem_of_getElem? (i := 45) rfl)))) (hw _ (List.mem_of_getElem? (i := 45) rfl)) (hw _ (List.mem_of_getElem? (i := 44) rfl)) (hw _ (List.mem_of_getElem? (i := 8) rfl)) (hw _ (List.mem_of_getElem? (i := 46) rfl)) 3 rfl (rmSh l Z a0 hw er sr vr kr cp _ _ _ _ _ _ _ _ _ _ _ _ _ _ _ _ _ (fun q => absurd q (by omega)))  rfl pd_6 rfl (by decide) rfl 0 (Nat.le_of_eq rfl) (by decide) (by decide) (by decide) (by decide) at_262 rfl (fun T v L hQ o => ?_)
              obtain ⟨d2, rfl, kd2, rfl⟩ := hQ
              simp only [Option.toList_some, Option.toList_none, List.cons_append, List.nil_append]
              have ed2 : d2 = FP.dconst1 := kd2.elim (fun q => absurd q.2.1 (by omega)) (fun q => q.2)
              subst ed2
              refine g_dload cx o (pc' := 267) at_265 rfl rfl ?_
              refine g_dcmp cx o (pc' := 268) at_267 rfl ?_
              refine g_if_ne cx o (pc' := 275) (pc2 := 271) at_268 (by decide) (by decide) rfl (fun c268 => absurd (by first | exact dcmpV_self oR.one.nn _ | (rw [h_f1]; exact dcmpV_self oR.one.nn _) | (rw [h_f2]; exact dcmpV_self oR.one.nn _)) c268) (fun c268 => ?_)
              refine g_iconst cx o (pc' := 272) (1 : Int32) at_271 rfl rfl ?_
              refine g_goto cx o (pc' := 276) at_272 (by decide) (by decide) ?_
              exact g_ireturnZ cx o at_276 (by decide) (by decide) (by decide) rfl
            · refine g_dload cx o (pc' := 240) at_238 rfl rfl ?_
              refine g_goto cx o (pc' := 244) at_240 (by decide) (by decide) ?_
              refine g_dstore cx o (pc' := 246) (l' := #[.val (.int p0), .val (.int p1), .val (.int p2), .val (.long p3), .second, .val (.long p4), .second, .val (.int p5), .val (.int cp), .val (.int s1), .val (.int s2), .val (.long e1), .second, .val (.long e2), .second, .val (.int (1 : Int32)), .val (.int (2 : Int32)), .val (.int (1 : Int32)), .val (.ref kr), .val (.long pq), .second, .val (.long qq), .second, .val (.int (1 : Int32)), .val (.int s2), .val (.int s1), .val (.double f1), .second, .val (.double f1), .second]) at_244 rfl rfl ?_
              refine g_aload cx o (pc' := 248) at_246 rfl rfl rfl ?_
              refine g_iconst cx o (pc' := 249) (0 : Int32) at_248 rfl rfl ?_
              refine g_virtual cx o (pc' := 252) (y := (⟨"com/example/cachesmith/cachesmith/solver/Knapsack", "share", "(I)D"⟩ : MethodName)) (z := (⟨"com/example/cachesmith/cachesmith/solver/Knapsack", "share", "(I)D"⟩ : MethodName)) (hw _ (List.mem_of_getElem? (i := 42) rfl)) (hw _ (List.mem_of_getElem? (i := 43) rfl)) (notFace_of_selects (args := #[]) (mvT cx.2.1 (hw _ (List.mem_of_getElem? (i := 45) rfl)))) (hw _ (List.mem_of_getElem? (i := 45) rfl)) (hw _ (List.mem_of_getElem? (i := 44) rfl)) (hw _ (List.mem_of_getElem? (i := 8) rfl)) (hw _ (List.mem_of_getElem? (i := 46) rfl)) 3 rfl (rmSh l Z a0 hw er sr vr kr cp _ _ _ _ _ _ _ _ _ _ _ _ _ _ _ _ _ (fun q => absurd q (by omega)))  rfl pd_6 rfl (by decide) rfl 0 (Nat.le_of_eq rfl) (by decide) (by decide) (by decide) (by decide) at_249 rfl (fun T v L hQ o => ?_)
              obtain ⟨d1, rfl, kd1, rfl⟩ := hQ
              simp only [Option.toList_some, Option.toList_none, List.cons_append, List.nil_append]
              have ed1 : d1 = FP.dconst1 := kd1.elim (fun q => absurd q.2.1 (by omega)) (fun q => q.2)
              subst ed1
              refine g_dload cx o (pc' := 254) at_252 rfl rfl ?_
              refine g_dcmp cx o (pc' := 255) at_254 rfl ?_
              refine g_if_ne cx o (pc' := 275) (pc2 := 258) at_255 (by decide) (by decide) rfl (fun c255 => absurd (by first | exact dcmpV_self oR.one.nn _ | (rw [h_f1]; exact dcmpV_self oR.one.nn _) | (rw [h_f2]; exact dcmpV_self oR.one.nn _)) c255) (fun c255 => ?_)
              refine g_aload cx o (pc' := 260) at_258 rfl rfl rfl ?_
              refine g_iload cx o (pc' := 262) at_260 rfl rfl ?_
              refine g_virtual cx o (pc' := 265) (y := (⟨"com/example/cachesmith/cachesmith/solver/Knapsack", "share", "(I)D"⟩ : MethodName)) (z := (⟨"com/example/cachesmith/cachesmith/solver/Knapsack", "share", "(I)D"⟩ : MethodName)) (hw _ (List.mem_of_getElem? (i := 42) rfl)) (hw _ (List.mem_of_getElem? (i := 43) rfl)) (notFace_of_selects (args := #[]) (mvT cx.2.1 (hw _ (List.mem_of_getElem? (i := 45) rfl)))) (hw _ (List.mem_of_getElem? (i := 45) rfl)) (hw _ (List.mem_of_getElem? (i := 44) rfl)) (hw _ (List.mem_of_getElem? (i := 8) rfl)) (hw _ (List.mem_of_getElem? (i := 46) rfl)) 3 rfl (rmSh l Z a0 hw er sr vr kr cp _ _ _ _ _ _ _ _ _ _ _ _ _ _ _ _ _ (fun q => absurd q (by omega)))  rfl pd_6 rfl (by decide) rfl 0 (Nat.le_of_eq rfl) (by decide) (by decide) (by decide) (by decide) at_262 rfl (fun T v L hQ o => ?_)
              obtain ⟨d2, rfl, kd2, rfl⟩ := hQ
              simp only [Option.toList_some, Option.toList_none, List.cons_append, List.nil_append]
              have ed2 : d2 = FP.dconst1 := kd2.elim (fun q => absurd q.2.1 (by omega)) (fun q => q.2)
              subst ed2
              refine g_dload cx o (pc' := 267) at_265 rfl rfl ?_
              refine g_dcmp cx o (pc' := 268) at_267 rfl ?_
              refine g_if_ne cx o (pc' := 275) (pc2 := 271) at_268 (by decide) (by decide) rfl (fun c268 => absurd (by first | exact dcmpV_self oR.one.nn _ | (rw [h_f1]; exact dcmpV_self oR.one.nn _) | (rw [h_f2]; exact dcmpV_self oR.one.nn _)) c268) (fun c268 => ?_)
              refine g_iconst cx o (pc' := 272) (1 : Int32) at_271 rfl rfl ?_
              refine g_goto cx o (pc' := 276) at_272 (by decide) (by decide) ?_
              exact g_ireturnZ cx o at_276 (by decide) (by decide) (by decide) rfl
          · have c := (o_cmpL _ _).mp c214
            rw [ka, jc] at c
            have hc : h2.toInt = s1.toInt + s2.toInt ∧ y0 = s1 := by
              rcases sq with q | q
              · exact absurd q (fun q => by omega)
              · exact ⟨q.1, q.2.2.2⟩
            obtain ⟨hc, ey⟩ := hc
            have ki : (cp - s2).toInt = cp.toInt - s2.toInt := by rw [Jvm.Kit.i32_sub (by omega) (by omega)]
            have Ri := o_i2dN (x := cp - s2) (by omega)
            have Rm := o_i2dN (x := s1) (by omega)
            have kj : (h2 - y0.toInt64).toInt = s2.toInt := by rw [ey, Jvm.Kit.i64_sub (by rw [j1]; omega) (by rw [j1]; omega), j1]; omega
            have kl2 : (cp.toInt64 - (h2 - y0.toInt64)).toInt = cp.toInt - s2.toInt := by rw [Jvm.Kit.i64_sub (by rw [kj, jc]; omega) (by rw [kj, jc]; omega), kj, jc]
            have Rl := o_l2dN (x := cp.toInt64 - (h2 - y0.toInt64)) (by omega)
            have Ry : oR ((s1.toInt.toNat : Nat) : Int) 0 (FP.i2d y0) := by rw [ey]; exact Rm
            have nA : NoNaN64 (FP.ddiv (FP.i2d (cp - s2)) (FP.i2d s1)) := o_div_nn Ri Rm (by omega)
            have nB : NoNaN64 (FP.ddiv (FP.l2d (cp.toInt64 - (h2 - y0.toInt64))) (FP.i2d y0)) := o_div_nn Rl Ry (by omega)
            have eqz : oz (FP.ddiv (FP.l2d (cp.toInt64 - (h2 - y0.toInt64))) (FP.i2d y0)) = oz (FP.ddiv (FP.i2d (cp - s2)) (FP.i2d s1)) := by
              have zi := Ri.z (by decide)
              have zm := Rm.z (by decide)
              have zl := Rl.z (by decide)
              have zy := Ry.z (by decide)
              rw [kl2] at zl
              rw [ki] at zi
              have pp := o_pow_pos (1074 - 0)
              have pm : (0 : Int) < ((s1.toInt.toNat : Nat) : Int) := by omega
              refine o_div_same Rl.1 Ry.1 Ri.1 Rm.1 (by rw [zy]; exact Int.mul_pos pm pp) (by rw [zm]; exact Int.mul_pos pm pp) (by rw [zl]; exact Int.mul_nonneg (Int.natCast_nonneg _) (Int.natCast_nonneg _)) (by rw [zi]; exact Int.mul_nonneg (Int.natCast_nonneg _) (Int.natCast_nonneg _)) (by rw [zl, zy, zi, zm])
            have cq : cmpValue (FP.dcmp (FP.ddiv (FP.l2d (cp.toInt64 - (h2 - y0.toInt64))) (FP.i2d y0)) (FP.ddiv (FP.i2d (cp - s2)) (FP.i2d s1))) .l = 0 := by rw [o_cvz nB nA, if_neg (by omega), if_pos eqz]
            refine g_iload cx o (pc' := 219) at_217 rfl rfl ?_
            refine g_iload cx o (pc' := 221) at_219 rfl rfl ?_
            refine g_isub cx o (pc' := 222) at_221 rfl ?_
            refine g_i2d cx o (pc' := 223) at_222 rfl ?_
            refine g_iload cx o (pc' := 225) at_223 rfl rfl ?_
            refine g_i2d cx o (pc' := 226) at_225 rfl ?_
            refine g_ddiv cx o (pc' := 227) at_226 rfl nA ?_
            refine g_goto cx o (pc' := 231) at_227 (by decide) (by decide) ?_
            refine g_dstoreV cx o (pc' := 233) (fun w' => #[.val (.int p0), .val (.int p1), .val (.int p2), .val (.long p3), .second, .val (.long p4), .second, .val (.int p5), .val (.int cp), .val (.int s1), .val (.int s2), .val (.long e1), .second, .val (.long e2), .second, .val (.int (1 : Int32)), .val (.int (2 : Int32)), .val (.int (1 : Int32)), .val (.ref kr), .val (.long pq), .second, .val (.long qq), .second, .val (.int (1 : Int32)), .val (.int s2), .val (.int s1), .val (.double w'), .second, .unset, .unset]) at_231 rfl (fun _ => rfl) (fun ex h_ex => ?_)
            refine g_iload cx o (pc' := 235) at_233 rfl rfl ?_
            refine g_if_ne cx o (pc' := 243) (pc2 := 238) at_235 (by decide) (by decide) rfl (fun c235 => ?_) (fun c235 => ?_)
            · refine g_dconst1 cx o (pc' := 244) at_243 rfl ?_
              refine g_dstoreV cx o (pc' := 246) (fun w' => #[.val (.int p0), .val (.int p1), .val (.int p2), .val (.long p3), .second, .val (.long p4), .second, .val (.int p5), .val (.int cp), .val (.int s1), .val (.int s2), .val (.long e1), .second, .val (.long e2), .second, .val (.int (1 : Int32)), .val (.int (2 : Int32)), .val (.int (1 : Int32)), .val (.ref kr), .val (.long pq), .second, .val (.long qq), .second, .val (.int (1 : Int32)), .val (.int s2), .val (.int s1), .val (.double ex), .second, .val (.double w'), .second]) at_244 rfl (fun _ => rfl) (fun f1 h_f1 => ?_)
              refine g_aload cx o (pc' := 248) at_246 rfl rfl rfl ?_
              refine g_iconst cx o (pc' := 249) (0 : Int32) at_248 rfl rfl ?_
              refine g_virtual cx o (pc' := 252) (y := (⟨"com/example/cachesmith/cachesmith/solver/Knapsack", "share", "(I)D"⟩ : MethodName)) (z := (⟨"com/example/cachesmith/cachesmith/solver/Knapsack", "share", "(I)D"⟩ : MethodName)) (hw _ (List.mem_of_getElem? (i := 42) rfl)) (hw _ (List.mem_of_getElem? (i := 43) rfl)) (notFace_of_selects (args := #[]) (mvT cx.2.1 (hw _ (List.mem_of_getElem? (i := 45) rfl)))) (hw _ (List.mem_of_getElem? (i := 45) rfl)) (hw _ (List.mem_of_getElem? (i := 44) rfl)) (hw _ (List.mem_of_getElem? (i := 8) rfl)) (hw _ (List.mem_of_getElem? (i := 46) rfl)) 3 rfl (rmSh l Z a0 hw er sr vr kr cp _ _ _ _ _ _ _ _ _ _ _ _ _ _ _ _ _ (fun _ => nB))  rfl pd_6 rfl (by decide) rfl 0 (Nat.le_of_eq rfl) (by decide) (by decide) (by decide) (by decide) at_249 rfl (fun T v L hQ o => ?_)
              obtain ⟨d1, rfl, kd1, rfl⟩ := hQ
              simp only [Option.toList_some, Option.toList_none, List.cons_append, List.nil_append]
              have ed1 := kd1.elim (fun q => q.2.2) (fun q => q.1.elim (fun z => absurd rfl z) (fun z => absurd z (by omega)))
              rw [← ed1, ← h_ex] at cq
              refine g_dload cx o (pc' := 254) at_252 rfl rfl ?_
              refine g_dcmp cx o (pc' := 255) at_254 rfl ?_
              refine g_if_ne cx o (pc' := 275) (pc2 := 258) at_255 (by decide) (by decide) rfl (fun c255 => absurd cq c255) (fun c255 => ?_)
              refine g_aload cx o (pc' := 260) at_258 rfl rfl rfl ?_
              refine g_iload cx o (pc' := 262) at_260 rfl rfl ?_
              refine g_virtual cx o (pc' := 265) (y := (⟨"com/example/cachesmith/cachesmith/solver/Knapsack", "share", "(I)D"⟩ : MethodName)) (z := (⟨"com/example/cachesmith/cachesmith/solver/Knapsack", "share", "(I)D"⟩ : MethodName)) (hw _ (List.mem_of_getElem? (i := 42) rfl)) (hw _ (List.mem_of_getElem? (i := 43) rfl)) (notFace_of_selects (args := #[]) (mvT cx.2.1 (hw _ (List.mem_of_getElem? (i := 45) rfl)))) (hw _ (List.mem_of_getElem? (i := 45) rfl)) (hw _ (List.mem_of_getElem? (i := 44) rfl)) (hw _ (List.mem_of_getElem? (i := 8) rfl)) (hw _ (List.mem_of_getElem? (i := 46) rfl)) 3 rfl (rmSh l Z a0 hw er sr vr kr cp _ _ _ _ _ _ _ _ _ _ _ _ _ _ _ _ _ (fun _ => nB))  rfl pd_6 rfl (by decide) rfl 0 (Nat.le_of_eq rfl) (by decide) (by decide) (by decide) (by decide) at_262 rfl (fun T v L hQ o => ?_)
              obtain ⟨d2, rfl, kd2, rfl⟩ := hQ
              simp only [Option.toList_some, Option.toList_none, List.cons_append, List.nil_append]
              have ed2 : d2 = FP.dconst1 := kd2.elim (fun q => absurd q.1 c235) (fun q => q.2)
              subst ed2
              refine g_dload cx o (pc' := 267) at_265 rfl rfl ?_
              refine g_dcmp cx o (pc' := 268) at_267 rfl ?_
              refine g_if_ne cx o (pc' := 275) (pc2 := 271) at_268 (by decide) (by decide) rfl (fun c268 => absurd (by first | exact dcmpV_self oR.one.nn _ | (rw [h_f1]; exact dcmpV_self oR.one.nn _) | (rw [h_f2]; exact dcmpV_self oR.one.nn _)) c268) (fun c268 => ?_)
              refine g_iconst cx o (pc' := 272) (1 : Int32) at_271 rfl rfl ?_
              refine g_goto cx o (pc' := 276) at_272 (by decide) (by decide) ?_
              exact g_ireturnZ cx o at_276 (by decide) (by decide) (by decide) rfl
            · refine g_dload cx o (pc' := 240) at_238 rfl rfl ?_
              refine g_goto cx o (pc' := 244) at_240 (by decide) (by decide) ?_
              refine g_dstore cx o (pc' := 246) (l' := #[.val (.int p0), .val (.int p1), .val (.int p2), .val (.long p3), .second, .val (.long p4), .second, .val (.int p5), .val (.int cp), .val (.int s1), .val (.int s2), .val (.long e1), .second, .val (.long e2), .second, .val (.int (1 : Int32)), .val (.int (2 : Int32)), .val (.int (1 : Int32)), .val (.ref kr), .val (.long pq), .second, .val (.long qq), .second, .val (.int (1 : Int32)), .val (.int s2), .val (.int s1), .val (.double ex), .second, .val (.double ex), .second]) at_244 rfl rfl ?_
              refine g_aload cx o (pc' := 248) at_246 rfl rfl rfl ?_
              refine g_iconst cx o (pc' := 249) (0 : Int32) at_248 rfl rfl ?_
              refine g_virtual cx o (pc' := 252) (y := (⟨"com/example/cachesmith/cachesmith/solver/Knapsack", "share", "(I)D"⟩ : MethodName)) (z := (⟨"com/example/cachesmith/cachesmith/solver/Knapsack", "share", "(I)D"⟩ : MethodName)) (hw _ (List.mem_of_getElem? (i := 42) rfl)) (hw _ (List.mem_of_getElem? (i := 43) rfl)) (notFace_of_selects (args := #[]) (mvT cx.2.1 (hw _ (List.mem_of_getElem? (i := 45) rfl)))) (hw _ (List.mem_of_getElem? (i := 45) rfl)) (hw _ (List.mem_of_getElem? (i := 44) rfl)) (hw _ (List.mem_of_getElem? (i := 8) rfl)) (hw _ (List.mem_of_getElem? (i := 46) rfl)) 3 rfl (rmSh l Z a0 hw er sr vr kr cp _ _ _ _ _ _ _ _ _ _ _ _ _ _ _ _ _ (fun _ => nB))  rfl pd_6 rfl (by decide) rfl 0 (Nat.le_of_eq rfl) (by decide) (by decide) (by decide) (by decide) at_249 rfl (fun T v L hQ o => ?_)
              obtain ⟨d1, rfl, kd1, rfl⟩ := hQ
              simp only [Option.toList_some, Option.toList_none, List.cons_append, List.nil_append]
              have ed1 := kd1.elim (fun q => q.2.2) (fun q => q.1.elim (fun z => absurd rfl z) (fun z => absurd z (by omega)))
              rw [← ed1, ← h_ex] at cq
              refine g_dload cx o (pc' := 254) at_252 rfl rfl ?_
              refine g_dcmp cx o (pc' := 255) at_254 rfl ?_
              refine g_if_ne cx o (pc' := 275) (pc2 := 258) at_255 (by decide) (by decide) rfl (fun c255 => absurd cq c255) (fun c255 => ?_)
              refine g_aload cx o (pc' := 260) at_258 rfl rfl rfl ?_
              refine g_iload cx o (pc' := 262) at_260 rfl rfl ?_
              refine g_virtual cx o (pc' := 265) (y := (⟨"com/example/cachesmith/cachesmith/solver/Knapsack", "share", "(I)D"⟩ : MethodName)) (z := (⟨"com/example/cachesmith/cachesmith/solver/Knapsack", "share", "(I)D"⟩ : MethodName)) (hw _ (List.mem_of_getElem? (i := 42) rfl)) (hw _ (List.mem_of_getElem? (i := 43) rfl)) (notFace_of_selects (args := #[]) (mvT cx.2.1 (hw _ (List.mem_of_getElem? (i := 45) rfl)))) (hw _ (List.mem_of_getElem? (i := 45) rfl)) (hw _ (List.mem_of_getElem? (i := 44) rfl)) (hw _ (List.mem_of_getElem? (i := 8) rfl)) (hw _ (List.mem_of_getElem? (i := 46) rfl)) 3 rfl (rmSh l Z a0 hw er sr vr kr cp _ _ _ _ _ _ _ _ _ _ _ _ _ _ _ _ _ (fun _ => nB))  rfl pd_6 rfl (by decide) rfl 0 (Nat.le_of_eq rfl) (by decide) (by decide) (by decide) (by decide) at_262 rfl (fun T v L hQ o => ?_)
              obtain ⟨d2, rfl, kd2, rfl⟩ := hQ
              simp only [Option.toList_some, Option.toList_none, List.cons_append, List.nil_append]
              have ed2 : d2 = d1 := kd2.elim (fun q => q.2.2.trans ed1.symm) (fun q => q.1.elim (fun z => absurd c235 z) (fun z => absurd z (by omega)))
              subst ed2
              refine g_dload cx o (pc' := 267) at_265 rfl rfl ?_
              refine g_dcmp cx o (pc' := 268) at_267 rfl ?_
              refine g_if_ne cx o (pc' := 275) (pc2 := 271) at_268 (by decide) (by decide) rfl (fun c268 => absurd cq c268) (fun c268 => ?_)
              refine g_iconst cx o (pc' := 272) (1 : Int32) at_271 rfl rfl ?_
              refine g_goto cx o (pc' := 276) at_272 (by decide) (by decide) ?_
              exact g_ireturnZ cx o at_276 (by decide) (by decide) (by decide) rfl
set_option maxHeartbeats 40000000 in
theorem comes_1 {Post : Tables → Env → Array Value → State → Outcome → State → Prop} (hpost : ∀ tb e args s v u, (limb_1_1.after args s (.returned v) u = true ∧ limb_1_2.after args s (.returned v) u = true ∧ True) → FrameEnd s (.returned v) u (Jvm.fieldLocs frame_1_writes args s ++ Jvm.arrayLocs frame_1_arrays args s ++ Jvm.staticLocs frame_1_statics s) 16 128 → Post tb e args s (.returned v) u) :
    ArmFor flags0 classFile x code maxLocals ret World_1 tables_1 room_1 Calls_1 rest_1 Pre_1 Post := by
  intro l hfl _ _ p e ha hc hk s m args below hf hA hF happ hP
  obtain ⟨hcalls, hrest, hpre⟩ := hP
  obtain ⟨-, -, -, hnamed, -, -, -, hat⟩ := (Spec.applies_iff hf).mp happ
  obtain ⟨hg, hn⟩ := and_e (Cond.before_iff.mp (show (Jvm.Cond.and given_1 narrow_1).before args s = true from hpre))
  obtain ⟨hg0, hg⟩ := and_e hg
  obtain ⟨w0, w1, w2, w3, w4, w5, rfl⟩ : ∃ w0 w1 w2 w3 w4 w5 : Value, args = #[w0, w1, w2, w3, w4, w5] := by
    have hs : args.size = 6 := by simpa [Cond.value, given_1] using hg0
    obtain ⟨L⟩ := args
    match L, hs with
    | [w0, w1, w2, w3, w4, w5], _ => exact ⟨w0, w1, w2, w3, w4, w5, rfl⟩
  have hw := fun d (hd : d ∈ tables_1) => atoms_spec (ws := Jvm.Cond.code x code maxLocals ret :: tables_1) hat d (List.mem_cons_of_mem _ hd)
  have hfit : Fit s := fun {y c} hc i hi => by
    obtain ⟨ha, rfl⟩ := Array.getElem?_eq_some_iff.mp hc
    have q := List.all_eq_true.mp ((Array.all_eq_true_iff_forall_mem.mp hF) _ (Array.getElem_mem ha)) i (List.mem_range.mpr hi)
    simpa [Array.getElem?_eq_getElem hi] using q
  obtain ⟨g0, hg⟩ := and_e hg
  obtain ⟨p0, e0⟩ := is_v g0
  obtain rfl : w0 = (.int p0) := Option.some.inj e0
  obtain ⟨g1, hg⟩ := and_e hg
  obtain ⟨p1, e1⟩ := is_v g1
  obtain rfl : w1 = (.int p1) := Option.some.inj e1
  obtain ⟨g2, hg⟩ := and_e hg
  obtain ⟨p2, e2⟩ := is_v g2
  obtain rfl : w2 = (.int p2) := Option.some.inj e2
  obtain ⟨g3, hg⟩ := and_e hg
  obtain ⟨p3, e3⟩ := isL_v g3
  obtain rfl : w3 = (.long p3) := Option.some.inj e3
  obtain ⟨g4, hg⟩ := and_e hg
  obtain ⟨p4, e4⟩ := isL_v g4
  obtain rfl : w4 = (.long p4) := Option.some.inj e4
  have g5 := hg
  obtain ⟨p5, e5⟩ := is_v g5
  obtain rfl : w5 = (.int p5) := Option.some.inj e5
  obtain ⟨n, o, h1, h2, h3, _, L, rfl, ⟨N, L', -, rfl⟩, hq⟩ := rm0 l s _ hw p0 p1 p2 p3 p4 p5 tables_1 s.heap ⟨⟨Nat.le_refl _, fun _ _ q => q⟩, List.nodup_nil, fun _ q => nomatch q⟩ p e ha hc hk s m _ below hf ((Spec.applies_iff_loose hf).mp happ).1 ⟨rfl, State.Warmed39.refl s, rfl⟩ trivial
  refine ⟨n, _, h1, h2, h3, hpost _ _ _ _ _ _ ⟨Cond.after_iff.mpr rfl, Cond.after_iff.mpr (eq_i res_at (Term.int_eval (1)) rfl), trivial⟩ ⟨hq.1, hq.2.1, (hq.2.2.sift fun y hy => Or.inr (N y hy)).mono (by decide) (by decide)⟩⟩
theorem main_1_1 : Claimed_1_1 := comes_1 fun _ _ _ _ _ _ h hF => ⟨h.1, hF⟩
theorem main_1_2 : Claimed_1_2 := comes_1 fun _ _ _ _ _ _ h hF => ⟨h.2.1, hF⟩
end Jvm.Pilot.@@N@@
namespace Jvm.Pilot.@@N@@
open Jvm Jvm.ClassFile Sem Op Lib Jvm.Free Jvm.Stand Jvm.Pilot.@@N@@.Jvm.D
/-! MADE BY PROGRAM (witnessworld.py) out of the Statement's table words and the real class files: 17 classes; the members and pool entries that the words name. The judged class is class 1, her method 1. -/
namespace start1
open Jvm.ClassFile
def u (s : String) : CpInfo := .utf8 (stringToUtf16 s)
/-- a pool by its gaps: so many unusable entries, then the entry; so many at the end -/
def gap : Nat → List CpInfo → List CpInfo
  | 0, r => r
  | n + 1, r => .unusable :: gap n r
def poolList (es : List (Nat × CpInfo)) (last : Nat) : List CpInfo := es.foldr (fun e r => gap e.1 (e.2 :: r)) (gap last [])
def pool (es : List (Nat × CpInfo)) (last : Nat) : Array CpInfo := ⟨poolList es last⟩
def fileOf (pool : Array CpInfo) (this : Nat) (attrs : Array Attribute := #[]) (ms : Array MethodInfo := #[]) (fl : Nat := 33) (sup : Nat := 0) (ifs : Array Nat := #[]) (fds : Array FieldInfo := #[]) : ClassFile where
  minorVersion := 0
  majorVersion := 65
  constantPool := pool
  accessFlags := fl
  thisClass := this
  superClass := sup
  interfaces := ifs
  fields := fds
  methods := ms
  attributes := attrs
def plain (name : String) (sup : Option ClassId) : Class where
  name := name
  kind := .ordinary
  loader := none
  accessFlags := 33
  super := sup
  interfaces := #[]
  cf := none
  fields := #[]
  methods := #[]
  instanceTypes := #[]
  staticTypes := #[]
  resolved := #[]
  callSites := []
  init := .initialized
  statics := none
  mirror := none

def pool0 : Array CpInfo := pool [(5, u "<init>"), (0, u "()V"), (1, .class_ 10), (1, u "java/lang/Object")] 113

def k0c0 : Code := { maxStack := 0, maxLocals := 1, code := object_method_1_code, exceptionTable := #[], attributes := #[] }
def k0m0 : Method := { name := "<init>", desc := "()V", sig := { parameters := [], returnType := none }, accessFlags := 1, code := some k0c0 }
/-- java/lang/Object -/
def k0 : Class := { plain "java/lang/Object" none with
  accessFlags := 33
  interfaces := #[]
  cf := some (fileOf pool0 8 #[] #[{ accessFlags := 1, nameIndex := 5, descriptorIndex := 6, attributes := #[] }] 33 0 #[] #[])
  fields := #[]
  methods := #[k0m0]
  instanceTypes := #[]
  staticTypes := #[]
  resolved := Array.replicate 124 none
  statics := none }

def pool1 : Array CpInfo := pool [(2, .class_ 4), (1, u "java/lang/Object"), (0, u "<init>"), (0, u "()V"), (0, .integer 2147483647), (0, .methodref 9 10), (0, .class_ 11), (0, .nameAndType 12 13), (0, u "java/lang/Math"), (0, u "max"), (0, u "(II)I"), (0, .long 2147483647), (1, .class_ 17), (0, u "com/example/cachesmith/cachesmith/solver/Knapsack"), (0, .methodref 16 19), (0, .nameAndType 5 20), (0, u "(I)V"), (0, .methodref 16 22), (0, .nameAndType 23 24), (0, u "offer"), (0, u "(IIJ)V"), (0, .methodref 16 26), (0, .nameAndType 27 28), (0, u "share"), (0, u "(I)D"), (0, .class_ 30), (0, u "com/example/cachesmith/cachesmith/solver/KnapsackSharePinLaw"), (2, u "law"), (0, u "(IIIJJI)Z")] 3

def k1m0 : Method := { name := "<init>", desc := "()V", sig := { parameters := [], returnType := none }, accessFlags := 1, code := none }
def k1c1 : Code := { maxStack := 5, maxLocals := 30, code := code, exceptionTable := #[], attributes := #[] }
def k1m1 : Method := { name := "law", desc := "(IIIJJI)Z", sig := { parameters := [.int, .int, .int, .long, .long, .int], returnType := some .boolean }, accessFlags := 9, code := some k1c1 }
/-- com/example/cachesmith/cachesmith/solver/KnapsackSharePinLaw -/
def k1 : Class := { plain "com/example/cachesmith/cachesmith/solver/KnapsackSharePinLaw" (some 0) with
  accessFlags := 49
  interfaces := #[]
  cf := some (fileOf pool1 29 #[] #[{ accessFlags := 1, nameIndex := 5, descriptorIndex := 6, attributes := #[] }, { accessFlags := 9, nameIndex := 33, descriptorIndex := 34, attributes := #[] }] 49 2 #[] #[])
  fields := #[]
  methods := #[k1m0, k1m1]
  instanceTypes := #[]
  staticTypes := #[]
  resolved := Array.replicate 38 none
  statics := none }

def pool2 : Array CpInfo := pool [(1, .class_ 2), (0, u "java/lang/Math"), (1, .class_ 6), (1, u "java/lang/Object"), (0, u "<init>"), (0, u "()V"), (89, .class_ 100), (1, u "java/lang/Math$RandomNumberGeneratorHolder"), (20, u "(JJ)J"), (16, .long 4294967295), (3, u "multiplyHigh"), (29, u "negativeZeroFloatBits"), (0, u "J"), (2, u "negativeZeroDoubleBits"), (21, u "max"), (46, u "$assertionsDisabled"), (0, u "Z"), (88, u "(II)I"), (2, u "twoToTheDoubleScaleDown"), (0, u "D"), (4, u "twoToTheDoubleScaleUp"), (9, u "E"), (3, u "PI"), (2, u "TAU"), (2, u "DEGREES_TO_RADIANS"), (0, u "RADIANS_TO_DEGREES")] 94

def k2m0 : Method := { name := "<init>", desc := "()V", sig := { parameters := [], returnType := none }, accessFlags := 2, code := none }
def k2c1 : Code := { maxStack := 6, maxLocals := 20, code := jdk_29_method_45_code, exceptionTable := #[], attributes := #[] }
def k2m1 : Method := { name := "multiplyHigh", desc := "(JJ)J", sig := { parameters := [.long, .long], returnType := some .long }, accessFlags := 9, code := some k2c1 }
def k2c2 : Code := { maxStack := 2, maxLocals := 2, code := jdk_29_method_65_code, exceptionTable := #[], attributes := #[] }
def k2m2 : Method := { name := "max", desc := "(II)I", sig := { parameters := [.int, .int], returnType := some .int }, accessFlags := 9, code := some k2c2 }
/-- java/lang/Math -/
def k2 : Class := { plain "java/lang/Math" (some 0) with
  accessFlags := 49
  interfaces := #[]
  cf := some (fileOf pool2 1 #[.nestMembers #[98]] #[{ accessFlags := 2, nameIndex := 7, descriptorIndex := 8, attributes := #[] }, { accessFlags := 9, nameIndex := 142, descriptorIndex := 121, attributes := #[] }, { accessFlags := 9, nameIndex := 198, descriptorIndex := 335, attributes := #[] }] 49 4 #[] #[{ accessFlags := 25, nameIndex := 354, descriptorIndex := 339, attributes := #[] }, { accessFlags := 25, nameIndex := 358, descriptorIndex := 339, attributes := #[] }, { accessFlags := 25, nameIndex := 361, descriptorIndex := 339, attributes := #[] }, { accessFlags := 26, nameIndex := 364, descriptorIndex := 339, attributes := #[] }, { accessFlags := 26, nameIndex := 365, descriptorIndex := 339, attributes := #[] }, { accessFlags := 26, nameIndex := 172, descriptorIndex := 173, attributes := #[] }, { accessFlags := 26, nameIndex := 176, descriptorIndex := 173, attributes := #[] }, { accessFlags := 8, nameIndex := 344, descriptorIndex := 339, attributes := #[] }, { accessFlags := 8, nameIndex := 338, descriptorIndex := 339, attributes := #[] }, { accessFlags := 4120, nameIndex := 245, descriptorIndex := 246, attributes := #[] }])
  fields := #[{ name := "E", type := .double, accessFlags := 25, slot := 0, constantValue := 0 }, { name := "PI", type := .double, accessFlags := 25, slot := 1, constantValue := 0 }, { name := "TAU", type := .double, accessFlags := 25, slot := 2, constantValue := 0 }, { name := "DEGREES_TO_RADIANS", type := .double, accessFlags := 26, slot := 3, constantValue := 0 }, { name := "RADIANS_TO_DEGREES", type := .double, accessFlags := 26, slot := 4, constantValue := 0 }, { name := "negativeZeroFloatBits", type := .long, accessFlags := 26, slot := 5, constantValue := 0 }, { name := "negativeZeroDoubleBits", type := .long, accessFlags := 26, slot := 6, constantValue := 0 }, { name := "twoToTheDoubleScaleUp", type := .double, accessFlags := 8, slot := 7, constantValue := 0 }, { name := "twoToTheDoubleScaleDown", type := .double, accessFlags := 8, slot := 8, constantValue := 0 }, { name := "$assertionsDisabled", type := .boolean, accessFlags := 4120, slot := 9, constantValue := 0 }]
  methods := #[k2m0, k2m1, k2m2]
  instanceTypes := #[]
  staticTypes := #[.double, .double, .double, .double, .double, .long, .long, .double, .double, .boolean]
  resolved := Array.replicate 460 none
  statics := none }

def pool3 : Array CpInfo := pool [(1, .methodref 2 3), (0, .class_ 4), (0, .nameAndType 5 6), (0, u "java/lang/Object"), (0, u "<init>"), (0, u "()V"), (0, .fieldref 8 9), (0, .class_ 10), (0, .nameAndType 11 12), (0, u "com/example/cachesmith/cachesmith/solver/Knapsack"), (0, u "videos"), (0, u "[I"), (0, .fieldref 8 14), (0, .nameAndType 15 12), (0, u "sizes"), (0, .fieldref 8 17), (0, .nameAndType 18 19), (0, u "excesses"), (0, u "[J"), (0, .double 13830554455654793216), (1, .fieldref 8 23), (0, .nameAndType 24 25), (0, u "least"), (0, u "D"), (0, .fieldref 8 27), (0, .nameAndType 28 29), (0, u "capacity"), (0, u "I"), (0, .fieldref 8 31), (0, .nameAndType 32 29), (0, u "count"), (0, .fieldref 8 34), (0, .nameAndType 35 36), (0, u "held"), (0, u "J"), (0, .double 4607182418791010209), (1, .methodref 8 40), (0, .nameAndType 41 42), (0, u "precedes"), (0, u "(JIII)Z"), (9, .methodref 8 53), (0, .nameAndType 54 55), (0, u "move"), (0, u "(II)V"), (0, .methodref 8 57), (0, .nameAndType 58 59), (0, u "put"), (0, u "(IIIJ)V"), (0, .methodref 8 61), (0, .nameAndType 62 6), (0, u "removeLast"), (2, u "offer"), (0, u "(IIJ)V"), (4, .methodref 8 72), (0, .nameAndType 41 73), (0, u "(JIIJII)Z"), (0, .methodref 75 76), (0, .class_ 77), (0, .nameAndType 78 79), (0, u "java/lang/Math"), (0, u "multiplyHigh"), (0, u "(JJ)J"), (0, .methodref 81 82), (0, .class_ 83), (0, .nameAndType 84 85), (0, u "java/lang/Long"), (0, u "compareUnsigned"), (0, u "(JJ)I"), (0, u "EXCESS_BITS"), (2, u "MARGIN"), (2, u "(I)V"), (9, u "share"), (0, u "(I)D")] 2

def k3c0 : Code := { maxStack := 3, maxLocals := 2, code := prog_38_method_1_code, exceptionTable := #[], attributes := #[] }
def k3m0 : Method := { name := "<init>", desc := "(I)V", sig := { parameters := [.int], returnType := none }, accessFlags := 0, code := some k3c0 }
def k3c1 : Code := { maxStack := 7, maxLocals := 6, code := prog_38_method_3_code, exceptionTable := #[], attributes := #[] }
def k3m1 : Method := { name := "offer", desc := "(IIJ)V", sig := { parameters := [.int, .int, .long], returnType := none }, accessFlags := 0, code := some k3c1 }
def k3c2 : Code := { maxStack := 6, maxLocals := 2, code := prog_38_method_8_code, exceptionTable := #[], attributes := #[] }
def k3m2 : Method := { name := "share", desc := "(I)D", sig := { parameters := [.int], returnType := some .double }, accessFlags := 0, code := some k3c2 }
def k3c3 : Code := { maxStack := 7, maxLocals := 7, code := prog_38_method_10_code, exceptionTable := #[], attributes := #[] }
def k3m3 : Method := { name := "removeLast", desc := "()V", sig := { parameters := [], returnType := none }, accessFlags := 2, code := some k3c3 }
def k3c4 : Code := { maxStack := 6, maxLocals := 3, code := prog_38_method_11_code, exceptionTable := #[], attributes := #[] }
def k3m4 : Method := { name := "move", desc := "(II)V", sig := { parameters := [.int, .int], returnType := none }, accessFlags := 2, code := some k3c4 }
def k3c5 : Code := { maxStack := 4, maxLocals := 6, code := prog_38_method_12_code, exceptionTable := #[], attributes := #[] }
def k3m5 : Method := { name := "put", desc := "(IIIJ)V", sig := { parameters := [.int, .int, .int, .long], returnType := none }, accessFlags := 2, code := some k3c5 }
def k3c6 : Code := { maxStack := 9, maxLocals := 6, code := prog_38_method_13_code, exceptionTable := #[], attributes := #[] }
def k3m6 : Method := { name := "precedes", desc := "(JIII)Z", sig := { parameters := [.long, .int, .int, .int], returnType := some .boolean }, accessFlags := 2, code := some k3c6 }
def k3c7 : Code := { maxStack := 4, maxLocals := 16, code := prog_38_method_14_code, exceptionTable := #[], attributes := #[] }
def k3m7 : Method := { name := "precedes", desc := "(JIIJII)Z", sig := { parameters := [.long, .int, .int, .long, .int, .int], returnType := some .boolean }, accessFlags := 8, code := some k3c7 }
/-- com/example/cachesmith/cachesmith/solver/Knapsack -/
def k3 : Class := { plain "com/example/cachesmith/cachesmith/solver/Knapsack" (some 0) with
  accessFlags := 48
  interfaces := #[]
  cf := some (fileOf pool3 8 #[] #[{ accessFlags := 0, nameIndex := 5, descriptorIndex := 92, attributes := #[] }, { accessFlags := 0, nameIndex := 65, descriptorIndex := 66, attributes := #[] }, { accessFlags := 0, nameIndex := 102, descriptorIndex := 103, attributes := #[] }, { accessFlags := 2, nameIndex := 62, descriptorIndex := 6, attributes := #[] }, { accessFlags := 2, nameIndex := 54, descriptorIndex := 55, attributes := #[] }, { accessFlags := 2, nameIndex := 58, descriptorIndex := 59, attributes := #[] }, { accessFlags := 2, nameIndex := 41, descriptorIndex := 42, attributes := #[] }, { accessFlags := 8, nameIndex := 41, descriptorIndex := 73, attributes := #[] }] 48 2 #[] #[{ accessFlags := 24, nameIndex := 86, descriptorIndex := 29, attributes := #[] }, { accessFlags := 26, nameIndex := 89, descriptorIndex := 25, attributes := #[] }, { accessFlags := 18, nameIndex := 28, descriptorIndex := 29, attributes := #[] }, { accessFlags := 2, nameIndex := 11, descriptorIndex := 12, attributes := #[] }, { accessFlags := 2, nameIndex := 15, descriptorIndex := 12, attributes := #[] }, { accessFlags := 2, nameIndex := 18, descriptorIndex := 19, attributes := #[] }, { accessFlags := 2, nameIndex := 32, descriptorIndex := 29, attributes := #[] }, { accessFlags := 2, nameIndex := 35, descriptorIndex := 36, attributes := #[] }, { accessFlags := 2, nameIndex := 24, descriptorIndex := 25, attributes := #[] }])
  fields := #[{ name := "EXCESS_BITS", type := .int, accessFlags := 24, slot := 0, constantValue := 0 }, { name := "MARGIN", type := .double, accessFlags := 26, slot := 1, constantValue := 0 }, { name := "capacity", type := .int, accessFlags := 18, slot := 0, constantValue := 0 }, { name := "videos", type := (.array .int), accessFlags := 2, slot := 1, constantValue := 0 }, { name := "sizes", type := (.array .int), accessFlags := 2, slot := 2, constantValue := 0 }, { name := "excesses", type := (.array .long), accessFlags := 2, slot := 3, constantValue := 0 }, { name := "count", type := .int, accessFlags := 2, slot := 4, constantValue := 0 }, { name := "held", type := .long, accessFlags := 2, slot := 5, constantValue := 0 }, { name := "least", type := .double, accessFlags := 2, slot := 6, constantValue := 0 }]
  methods := #[k3m0, k3m1, k3m2, k3m3, k3m4, k3m5, k3m6, k3m7]
  instanceTypes := #[.int, (.array .int), (.array .int), (.array .long), .int, .long, .double]
  staticTypes := #[.int, .double]
  resolved := Array.replicate 106 none
  statics := none }

def pool4 : Array CpInfo := pool [(1, .class_ 2), (0, u "java/io/Serializable"), (0, .class_ 4), (0, u "java/lang/Object")] 2

/-- java/io/Serializable -/
def k4 : Class := { plain "java/io/Serializable" (some 0) with
  accessFlags := 1537
  interfaces := #[]
  cf := some (fileOf pool4 1 #[] #[] 1537 3 #[] #[])
  fields := #[]
  methods := #[]
  instanceTypes := #[]
  staticTypes := #[]
  resolved := Array.replicate 7 none
  statics := none }

def pool5 : Array CpInfo := pool [(2, .class_ 4), (1, u "java/lang/Object"), (0, u "<init>"), (0, u "()V"), (1, .class_ 10), (1, u "java/lang/Number"), (2, .class_ 14), (0, u "java/io/Serializable"), (0, u "serialVersionUID"), (0, u "J")] 20

def k5m0 : Method := { name := "<init>", desc := "()V", sig := { parameters := [], returnType := none }, accessFlags := 1, code := none }
/-- java/lang/Number -/
def k5 : Class := { plain "java/lang/Number" (some 0) with
  accessFlags := 1057
  interfaces := #[4]
  cf := some (fileOf pool5 8 #[] #[{ accessFlags := 1, nameIndex := 5, descriptorIndex := 6, attributes := #[] }] 1057 2 #[13] #[{ accessFlags := 26, nameIndex := 15, descriptorIndex := 16, attributes := #[] }])
  fields := #[{ name := "serialVersionUID", type := .long, accessFlags := 26, slot := 0, constantValue := 0 }]
  methods := #[k5m0]
  instanceTypes := #[]
  staticTypes := #[.long]
  resolved := Array.replicate 37 none
  statics := none }

def pool6 : Array CpInfo := pool [(1, .class_ 2), (0, u "java/lang/Comparable"), (0, .class_ 4), (0, u "java/lang/Object")] 7

/-- java/lang/Comparable -/
def k6 : Class := { plain "java/lang/Comparable" (some 0) with
  accessFlags := 1537
  interfaces := #[]
  cf := some (fileOf pool6 1 #[] #[] 1537 3 #[] #[])
  fields := #[]
  methods := #[]
  instanceTypes := #[]
  staticTypes := #[]
  resolved := Array.replicate 12 none
  statics := none }

def pool7 : Array CpInfo := pool [(1, .class_ 2), (0, u "java/lang/constant/Constable"), (0, .class_ 4), (0, u "java/lang/Object")] 6

/-- java/lang/constant/Constable -/
def k7 : Class := { plain "java/lang/constant/Constable" (some 0) with
  accessFlags := 1537
  interfaces := #[]
  cf := some (fileOf pool7 1 #[] #[] 1537 3 #[] #[])
  fields := #[]
  methods := #[]
  instanceTypes := #[]
  staticTypes := #[]
  resolved := Array.replicate 11 none
  statics := none }

def pool8 : Array CpInfo := pool [(1, .class_ 2), (0, u "java/lang/constant/ConstantDesc"), (0, .class_ 4), (0, u "java/lang/Object")] 32

/-- java/lang/constant/ConstantDesc -/
def k8 : Class := { plain "java/lang/constant/ConstantDesc" (some 0) with
  accessFlags := 1537
  interfaces := #[]
  cf := some (fileOf pool8 1 #[] #[] 1537 3 #[] #[])
  fields := #[]
  methods := #[]
  instanceTypes := #[]
  staticTypes := #[]
  resolved := Array.replicate 37 none
  statics := none }

def pool9 : Array CpInfo := pool [(1, .class_ 2), (0, u "java/lang/Long"), (165, .long 9223372036854775808), (66, .class_ 237), (1, u "java/lang/Long$LongCache"), (33, .class_ 272), (0, u "java/lang/Number"), (2, u "value"), (0, u "J"), (25, .methodref 1 303), (0, .nameAndType 304 305), (0, u "compare"), (0, u "(JJ)I"), (55, u "TYPE"), (0, u "Ljava/lang/Class;"), (0, .class_ 364), (0, u "java/lang/Comparable"), (0, .class_ 366), (0, u "java/lang/constant/Constable"), (0, .class_ 368), (0, u "java/lang/constant/ConstantDesc"), (0, u "MIN_VALUE"), (1, u "MAX_VALUE"), (4, u "SIZE"), (0, u "I"), (1, u "BYTES"), (1, u "serialVersionUID"), (87, u "compareUnsigned")] 54

def k9c0 : Code := { maxStack := 4, maxLocals := 4, code := jdk_35_method_42_code, exceptionTable := #[], attributes := #[] }
def k9m0 : Method := { name := "compare", desc := "(JJ)I", sig := { parameters := [.long, .long], returnType := some .int }, accessFlags := 9, code := some k9c0 }
def k9c1 : Code := { maxStack := 6, maxLocals := 4, code := jdk_35_method_43_code, exceptionTable := #[], attributes := #[] }
def k9m1 : Method := { name := "compareUnsigned", desc := "(JJ)I", sig := { parameters := [.long, .long], returnType := some .int }, accessFlags := 9, code := some k9c1 }
/-- java/lang/Long -/
def k9 : Class := { plain "java/lang/Long" (some 5) with
  accessFlags := 49
  interfaces := #[6, 7, 8]
  cf := some (fileOf pool9 1 #[.nestMembers #[235]] #[{ accessFlags := 9, nameIndex := 304, descriptorIndex := 305, attributes := #[] }, { accessFlags := 9, nameIndex := 469, descriptorIndex := 305, attributes := #[] }] 49 271 #[363, 365, 367] #[{ accessFlags := 25, nameIndex := 369, descriptorIndex := 276, attributes := #[] }, { accessFlags := 25, nameIndex := 371, descriptorIndex := 276, attributes := #[] }, { accessFlags := 25, nameIndex := 361, descriptorIndex := 362, attributes := #[] }, { accessFlags := 18, nameIndex := 275, descriptorIndex := 276, attributes := #[] }, { accessFlags := 25, nameIndex := 376, descriptorIndex := 377, attributes := #[] }, { accessFlags := 25, nameIndex := 379, descriptorIndex := 377, attributes := #[] }, { accessFlags := 26, nameIndex := 381, descriptorIndex := 276, attributes := #[] }])
  fields := #[{ name := "MIN_VALUE", type := .long, accessFlags := 25, slot := 0, constantValue := 0 }, { name := "MAX_VALUE", type := .long, accessFlags := 25, slot := 1, constantValue := 0 }, { name := "TYPE", type := (.object "java/lang/Class"), accessFlags := 25, slot := 2, constantValue := 0 }, { name := "value", type := .long, accessFlags := 18, slot := 0, constantValue := 0 }, { name := "SIZE", type := .int, accessFlags := 25, slot := 3, constantValue := 0 }, { name := "BYTES", type := .int, accessFlags := 25, slot := 4, constantValue := 0 }, { name := "serialVersionUID", type := .long, accessFlags := 26, slot := 5, constantValue := 0 }]
  methods := #[k9m0, k9m1]
  instanceTypes := #[.long]
  staticTypes := #[.long, .long, (.object "java/lang/Class"), .int, .int, .long]
  resolved := Array.replicate 524 none
  statics := none }

def pool10 : Array CpInfo := pool [(1, u "java/lang/Cloneable"), (0, .class_ 1), (0, u "java/lang/Object"), (0, .class_ 3)] 3

/-- java/lang/Cloneable -/
def k10 : Class := { plain "java/lang/Cloneable" (some 0) with
  accessFlags := 1537
  interfaces := #[]
  cf := some (fileOf pool10 2 #[] #[] 1537 4 #[] #[])
  fields := #[]
  methods := #[]
  instanceTypes := #[]
  staticTypes := #[]
  resolved := Array.replicate 8 none
  statics := none }

/-- the primitive byte -/
def k11 : Class := { plain "byte" none with kind := .primitive 'B', accessFlags := 0x411 }
/-- [B -/
def k12 : Class := { plain "[B" (some 0) with kind := .array 11 .byte, interfaces := #[10, 4], accessFlags := 1041 }

/-- the primitive int -/
def k13 : Class := { plain "int" none with kind := .primitive 'I', accessFlags := 0x411 }
/-- [I -/
def k14 : Class := { plain "[I" (some 0) with kind := .array 13 .int, interfaces := #[10, 4], accessFlags := 1041 }

/-- the primitive long -/
def k15 : Class := { plain "long" none with kind := .primitive 'J', accessFlags := 0x411 }
/-- [J -/
def k16 : Class := { plain "[J" (some 0) with kind := .array 15 .long, interfaces := #[10, 4], accessFlags := 1041 }

def heap : Heap := #[]
def classes : Array Class := #[k0, k1, k2, k3, k4, k5, k6, k7, k8, k9, k10, k11, k12, k13, k14, k15, k16]
def interned : List (Array UInt16 × Addr) := []
def slotsUsed : Nat := 0
def theMethod : MethodId := ⟨1, 1⟩
def args0 : Array Value := #[.int 5, .int 2, .int 7, .long 3, .long 9, .int 0]
def aboutOver (below : List Frame) : State where
  vm := { classes := classes, interned := interned.toArray }
  heap := heap
  slotsUsed := slotsUsed
  threads := #[{ frames := .invoking theMethod args0 :: below }]
def below0 : List Frame := [.native { method := ⟨0, 0⟩, args := #[] }]
def about1 : State := aboutOver below0
def p0 : Program := .bare "" "" ""
def e0 : Env := launch0.env 0 0 0
theorem w_frames : about1.frames = Frame.invoking theMethod args0 :: below0 := rfl
set_option maxRecDepth 65536 in
theorem w_args : argsFit about1.vm theMethod args0 = true := by decide +kernel
set_option maxRecDepth 65536 in
theorem w_heap : heapFits about1 = true := by decide +kernel
set_option maxRecDepth 65536 in
theorem w_runnable : about1.curStatus? = some .runnable := by decide +kernel
set_option maxRecDepth 65536 in
theorem w_alone : about1.alone = true := by decide +kernel
set_option maxRecDepth 65536 in
theorem w_named : about1.methodNamed? x = some theMethod := by decide +kernel
set_option maxRecDepth 65536 in
theorem w_hears : about1.hears theMethod below0 = true := by decide +kernel
set_option maxRecDepth 65536 in
theorem w_ripe : about1.ripe theMethod args0 below0 = true := by decide +kernel
theorem w_running : about1.status = .running := rfl
set_option maxRecDepth 65536 in
theorem w_room : about1.hasRoom e0.platform room_1 = true :=
  launch0.hasRoom_least _ room_1 (by decide +kernel) (by decide +kernel) (by decide +kernel) (by decide +kernel) (by decide +kernel) (by decide +kernel)
theorem allAtoms_all (ts : List Jvm.Cond) (a : Array Jvm.Value) (st : Jvm.State) : (allAtoms ts).before a st = ts.all (fun c => c.before a st) := by
  induction ts with
  | nil => rfl
  | cons c t ih =>
    show (Jvm.Cond.and c (allAtoms t)).before a st = _
    rw [Jvm.Cond.before_and, ih, List.all_cons]
def words1 : List Jvm.Cond := Jvm.Cond.code x code maxLocals ret :: tables_1
/-- a 'code' word, met by the world's own term for the bytes: nothing is compared byte by byte -/
theorem code_word {y : MethodName} {bytes : ByteArray} {mx : Nat} {rt : Option FieldType} {a : Array Value} {s : State} {m : MethodId} {meth : Method} {c : Code} (h1 : s.methodNamed? y = some m) (h2 : s.vm.method? m = some meth) (h3 : meth.code = some c) (h4 : c.code = bytes)
    (h5 : (c.maxLocals == mx && c.exceptionTable.isEmpty && decide (c.maxStack ≤ mostOperands) && decide (meth.sig.returnType = rt) && !meth.locks && decide (parseMethodDescriptor y.desc = some meth.sig)) = true) : (Jvm.Cond.code y bytes mx rt).before a s = true := by
  simp only [Bool.and_eq_true, beq_iff_eq, Bool.not_eq_true', decide_eq_true_eq] at h5
  obtain ⟨⟨⟨⟨⟨g1, g2⟩, g3⟩, g4⟩, g5⟩, g6⟩ := h5
  simp [Cond.before, Cond.holds, Cond.value, h1, h2, h3, h4, g1, g2, g3, g4, g5, g6]
def isCode : Jvm.Cond → Bool
  | .code _ _ _ _ => true
  | _ => false
theorem all_split {L : List Jvm.Cond} {P : Jvm.Cond → Bool} (h1 : L.all (fun c => isCode c || P c) = true) (h2 : ∀ c ∈ L.filter isCode, P c = true) : L.all P = true := by
  refine List.all_eq_true.mpr fun c hc => ?_
  have h := List.all_eq_true.mp h1 c hc
  rcases Bool.eq_false_or_eq_true (isCode c) with hi | hi
  · exact h2 c (List.mem_filter.mpr ⟨hc, hi⟩)
  · simpa [hi] using h
set_option maxRecDepth 65536 in
theorem w_c0 : (Jvm.Cond.code x code maxLocals ret).before args0 about1 = true := code_word (m := ⟨1, 1⟩) (meth := k1m1) (c := k1c1) (by decide +kernel) rfl rfl rfl (by decide +kernel)
set_option maxRecDepth 65536 in
theorem w_c1 : (Jvm.Cond.code ({ cls := "java/lang/Math", name := "max", desc := "(II)I" } : Jvm.MethodName) jdk_29_method_65_code (2 : Nat) (Option.some Jvm.ClassFile.FieldType.int)).before args0 about1 = true := code_word (m := ⟨2, 2⟩) (meth := k2m2) (c := k2c2) (by decide +kernel) rfl rfl rfl (by decide +kernel)
set_option maxRecDepth 65536 in
theorem w_c2 : (Jvm.Cond.code ({ cls := "com/example/cachesmith/cachesmith/solver/Knapsack", name := "<init>", desc := "(I)V" } : Jvm.MethodName) prog_38_method_1_code (2 : Nat) (Option.none : Option Jvm.ClassFile.FieldType)).before args0 about1 = true := code_word (m := ⟨3, 0⟩) (meth := k3m0) (c := k3c0) (by decide +kernel) rfl rfl rfl (by decide +kernel)
set_option maxRecDepth 65536 in
theorem w_c3 : (Jvm.Cond.code ({ cls := "java/lang/Object", name := "<init>", desc := "()V" } : Jvm.MethodName) object_method_1_code (1 : Nat) (Option.none : Option Jvm.ClassFile.FieldType)).before args0 about1 = true := code_word (m := ⟨0, 0⟩) (meth := k0m0) (c := k0c0) (by decide +kernel) rfl rfl rfl (by decide +kernel)
set_option maxRecDepth 65536 in
theorem w_c4 : (Jvm.Cond.code ({ cls := "com/example/cachesmith/cachesmith/solver/Knapsack", name := "offer", desc := "(IIJ)V" } : Jvm.MethodName) prog_38_method_3_code (6 : Nat) (Option.none : Option Jvm.ClassFile.FieldType)).before args0 about1 = true := code_word (m := ⟨3, 1⟩) (meth := k3m1) (c := k3c1) (by decide +kernel) rfl rfl rfl (by decide +kernel)
set_option maxRecDepth 65536 in
theorem w_c5 : (Jvm.Cond.code ({ cls := "com/example/cachesmith/cachesmith/solver/Knapsack", name := "put", desc := "(IIIJ)V" } : Jvm.MethodName) prog_38_method_12_code (6 : Nat) (Option.none : Option Jvm.ClassFile.FieldType)).before args0 about1 = true := code_word (m := ⟨3, 5⟩) (meth := k3m5) (c := k3c5) (by decide +kernel) rfl rfl rfl (by decide +kernel)
set_option maxRecDepth 65536 in
theorem w_c6 : (Jvm.Cond.code ({ cls := "com/example/cachesmith/cachesmith/solver/Knapsack", name := "share", desc := "(I)D" } : Jvm.MethodName) prog_38_method_8_code (2 : Nat) (Option.some Jvm.ClassFile.FieldType.double)).before args0 about1 = true := code_word (m := ⟨3, 2⟩) (meth := k3m2) (c := k3c2) (by decide +kernel) rfl rfl rfl (by decide +kernel)
set_option maxRecDepth 65536 in
theorem w_c7 : (Jvm.Cond.code ({ cls := "com/example/cachesmith/cachesmith/solver/Knapsack", name := "precedes", desc := "(JIII)Z" } : Jvm.MethodName) prog_38_method_13_code (6 : Nat) (Option.some Jvm.ClassFile.FieldType.boolean)).before args0 about1 = true := code_word (m := ⟨3, 6⟩) (meth := k3m6) (c := k3c6) (by decide +kernel) rfl rfl rfl (by decide +kernel)
set_option maxRecDepth 65536 in
theorem w_c8 : (Jvm.Cond.code ({ cls := "com/example/cachesmith/cachesmith/solver/Knapsack", name := "precedes", desc := "(JIIJII)Z" } : Jvm.MethodName) prog_38_method_14_code (16 : Nat) (Option.some Jvm.ClassFile.FieldType.boolean)).before args0 about1 = true := code_word (m := ⟨3, 7⟩) (meth := k3m7) (c := k3c7) (by decide +kernel) rfl rfl rfl (by decide +kernel)
set_option maxRecDepth 65536 in
theorem w_c9 : (Jvm.Cond.code ({ cls := "java/lang/Math", name := "multiplyHigh", desc := "(JJ)J" } : Jvm.MethodName) jdk_29_method_45_code (20 : Nat) (Option.some Jvm.ClassFile.FieldType.long)).before args0 about1 = true := code_word (m := ⟨2, 1⟩) (meth := k2m1) (c := k2c1) (by decide +kernel) rfl rfl rfl (by decide +kernel)
set_option maxRecDepth 65536 in
theorem w_c10 : (Jvm.Cond.code ({ cls := "java/lang/Long", name := "compareUnsigned", desc := "(JJ)I" } : Jvm.MethodName) jdk_35_method_43_code (4 : Nat) (Option.some Jvm.ClassFile.FieldType.int)).before args0 about1 = true := code_word (m := ⟨9, 1⟩) (meth := k9m1) (c := k9c1) (by decide +kernel) rfl rfl rfl (by decide +kernel)
set_option maxRecDepth 65536 in
theorem w_c11 : (Jvm.Cond.code ({ cls := "java/lang/Long", name := "compare", desc := "(JJ)I" } : Jvm.MethodName) jdk_35_method_42_code (4 : Nat) (Option.some Jvm.ClassFile.FieldType.int)).before args0 about1 = true := code_word (m := ⟨9, 0⟩) (meth := k9m0) (c := k9c0) (by decide +kernel) rfl rfl rfl (by decide +kernel)
set_option maxRecDepth 65536 in
theorem w_c12 : (Jvm.Cond.code ({ cls := "com/example/cachesmith/cachesmith/solver/Knapsack", name := "move", desc := "(II)V" } : Jvm.MethodName) prog_38_method_11_code (3 : Nat) (Option.none : Option Jvm.ClassFile.FieldType)).before args0 about1 = true := code_word (m := ⟨3, 4⟩) (meth := k3m4) (c := k3c4) (by decide +kernel) rfl rfl rfl (by decide +kernel)
set_option maxRecDepth 65536 in
theorem w_c13 : (Jvm.Cond.code ({ cls := "com/example/cachesmith/cachesmith/solver/Knapsack", name := "removeLast", desc := "()V" } : Jvm.MethodName) prog_38_method_10_code (7 : Nat) (Option.none : Option Jvm.ClassFile.FieldType)).before args0 about1 = true := code_word (m := ⟨3, 3⟩) (meth := k3m3) (c := k3c3) (by decide +kernel) rfl rfl rfl (by decide +kernel)
def codes1 : List Jvm.Cond := [Jvm.Cond.code x code maxLocals ret, Jvm.Cond.code ({ cls := "java/lang/Math", name := "max", desc := "(II)I" } : Jvm.MethodName) jdk_29_method_65_code (2 : Nat) (Option.some Jvm.ClassFile.FieldType.int), Jvm.Cond.code ({ cls := "com/example/cachesmith/cachesmith/solver/Knapsack", name := "<init>", desc := "(I)V" } : Jvm.MethodName) prog_38_method_1_code (2 : Nat) (Option.none : Option Jvm.ClassFile.FieldType), Jvm.Cond.code ({ cls := "java/lang/Object", name := "<init>", desc := "()V" } : Jvm.MethodName) object_method_1_code (1 : Nat) (Option.none : Option Jvm.ClassFile.FieldType), Jvm.Cond.code ({ cls := "com/example/cachesmith/cachesmith/solver/Knapsack", name := "offer", desc := "(IIJ)V" } : Jvm.MethodName) prog_38_method_3_code (6 : Nat) (Option.none : Option Jvm.ClassFile.FieldType), Jvm.Cond.code ({ cls := "com/example/cachesmith/cachesmith/solver/Knapsack", name := "put", desc := "(IIIJ)V" } : Jvm.MethodName) prog_38_method_12_code (6 : Nat) (Option.none : Option Jvm.ClassFile.FieldType), Jvm.Cond.code ({ cls := "com/example/cachesmith/cachesmith/solver/Knapsack", name := "share", desc := "(I)D" } : Jvm.MethodName) prog_38_method_8_code (2 : Nat) (Option.some Jvm.ClassFile.FieldType.double), Jvm.Cond.code ({ cls := "com/example/cachesmith/cachesmith/solver/Knapsack", name := "precedes", desc := "(JIII)Z" } : Jvm.MethodName) prog_38_method_13_code (6 : Nat) (Option.some Jvm.ClassFile.FieldType.boolean), Jvm.Cond.code ({ cls := "com/example/cachesmith/cachesmith/solver/Knapsack", name := "precedes", desc := "(JIIJII)Z" } : Jvm.MethodName) prog_38_method_14_code (16 : Nat) (Option.some Jvm.ClassFile.FieldType.boolean), Jvm.Cond.code ({ cls := "java/lang/Math", name := "multiplyHigh", desc := "(JJ)J" } : Jvm.MethodName) jdk_29_method_45_code (20 : Nat) (Option.some Jvm.ClassFile.FieldType.long), Jvm.Cond.code ({ cls := "java/lang/Long", name := "compareUnsigned", desc := "(JJ)I" } : Jvm.MethodName) jdk_35_method_43_code (4 : Nat) (Option.some Jvm.ClassFile.FieldType.int), Jvm.Cond.code ({ cls := "java/lang/Long", name := "compare", desc := "(JJ)I" } : Jvm.MethodName) jdk_35_method_42_code (4 : Nat) (Option.some Jvm.ClassFile.FieldType.int), Jvm.Cond.code ({ cls := "com/example/cachesmith/cachesmith/solver/Knapsack", name := "move", desc := "(II)V" } : Jvm.MethodName) prog_38_method_11_code (3 : Nat) (Option.none : Option Jvm.ClassFile.FieldType), Jvm.Cond.code ({ cls := "com/example/cachesmith/cachesmith/solver/Knapsack", name := "removeLast", desc := "()V" } : Jvm.MethodName) prog_38_method_10_code (7 : Nat) (Option.none : Option Jvm.ClassFile.FieldType)]
set_option maxRecDepth 65536 in
theorem codes_eq : words1.filter isCode = codes1 := rfl
theorem w_codes : ∀ c ∈ words1.filter isCode, c.before args0 about1 = true := by
  rw [codes_eq]
  intro c hc
  simp only [codes1, List.mem_cons, List.not_mem_nil, or_false] at hc
  rcases hc with rfl | rfl | rfl | rfl | rfl | rfl | rfl | rfl | rfl | rfl | rfl | rfl | rfl | rfl
  · exact w_c0
  · exact w_c1
  · exact w_c2
  · exact w_c3
  · exact w_c4
  · exact w_c5
  · exact w_c6
  · exact w_c7
  · exact w_c8
  · exact w_c9
  · exact w_c10
  · exact w_c11
  · exact w_c12
  · exact w_c13
set_option maxRecDepth 65536 in
theorem w_t1 : (words1.take 24).all (fun c => isCode c || c.before args0 about1) = true := by decide +kernel
set_option maxRecDepth 65536 in
theorem w_t2 : ((words1.drop 24).take 24).all (fun c => isCode c || c.before args0 about1) = true := by decide +kernel
set_option maxRecDepth 65536 in
theorem w_t3 : (((words1.drop 24).drop 24).take 24).all (fun c => isCode c || c.before args0 about1) = true := by decide +kernel
set_option maxRecDepth 65536 in
theorem w_t4 : (((words1.drop 24).drop 24).drop 24).all (fun c => isCode c || c.before args0 about1) = true := by decide +kernel
theorem w_tables : (allAtoms (Jvm.Cond.code x code maxLocals ret :: tables_1)).before args0 about1 = true := by
  rw [allAtoms_all]
  show words1.all (fun c => c.before args0 about1) = true
  refine all_split ?_ w_codes
  rw [← List.take_append_drop 24 words1, List.all_append, w_t1, ← List.take_append_drop 24 (words1.drop 24), List.all_append, w_t2, ← List.take_append_drop 24 ((words1.drop 24).drop 24), List.all_append, w_t3, w_t4]
  rfl
set_option maxRecDepth 65536 in
theorem w_case : (Jvm.Cond.and given_1 narrow_1).before args0 about1 = true := by decide +kernel
theorem w_applies : (headSpec (Jvm.Cond.code x code maxLocals ret :: tables_1) room_1).applies x e0.platform about1 = true :=
  (Spec.applies_iff w_frames).mpr ⟨w_running, w_runnable, w_alone, w_named, w_hears, w_ripe, w_room, w_tables⟩
theorem atStart : AtStart classFile x code maxLocals ret World_1 tables_1 room_1 Calls_1 rest_1 Pre_1 launch0 p0 e0 about1 theMethod args0 below0 :=
  ⟨lists_1, trivial, launch0.admits_env _ _ _, launch0.least_env, fairChoices_fair.cas, fairChoices_fair.clock, w_frames, w_args, w_heap, w_applies, trivial, trivial, w_case⟩
end start1
theorem witness_1 : WitnessClaimed_1 := ⟨start1.p0, start1.e0, start1.about1, start1.theMethod, start1.args0, start1.below0, start1.atStart⟩
end Jvm.Pilot.@@N@@
