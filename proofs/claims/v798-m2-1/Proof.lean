import JvmDerived
import JvmDerived.Pilot.@@N@@Statement
import JvmDerived.Pilot.@@N@@Code
set_option linter.unusedVariables false
set_option linter.unusedSimpArgs false
set_option maxRecDepth 65536
@@BLOCK:NumsL.lean.txt@@
namespace Jvm.Pilot.@@N@@
open Jvm Jvm.ClassFile Sem Op Lib Jvm.Free Jvm.Stand Jvm.LawKit Jvm.RoadKit Bundle Jvm.Pilot.@@N@@.Jvm.D Jvm.Free.Fl
/-! ## 1. what is known of a cell -/
abbrev oEnt := Addr × (Cell → Prop)
abbrev oFs := List (String × String × String × Value)
section OwnCells
variable {Z : State} {a0 : Array Value} {h h' : Heap} {L L' : List oEnt} {a : Addr} {P P' : Cell → Prop} {C O n d : String} {v w old : Value} {cell : Cell} {ty : FieldType} {vs : List Value} {sl i j k : Nat}
def oExa (Z : State) (C : String) (cell : Cell) : Prop := ∃ k : Class, Z.vm.findClass C = some cell.cls ∧ Z.vm.classes[cell.cls]? = some k ∧ cell.vm.isStatics = false ∧ (k.kind = .ordinary → cell.slots.size = k.instanceTypes.size)
def oFld (Z : State) (O n d : String) (v : Value) (cell : Cell) : Prop := ∃ (cf : ClassId) (k : Class) (i : Nat) (f : Field), Z.fieldFound? O n d = some (cf, k, i, f) ∧ f.isStatic = false ∧ cell.vm ≠ .unknown ∧ cell.vm.isStatics = false ∧ Z.vm.assignable cell.cls cf = true ∧ cell.slots[f.slot]? = some v
/-- an object of class C, with the values of the fields named (owner, name, descriptor, value) -/
def oObj (Z : State) (a0 : Array Value) (C : String) (fs : oFs) (cell : Cell) : Prop := oExa Z C cell ∧ ∀ t ∈ fs, Laid Z a0 C t.1 t.2.1 t.2.2.1 ∧ (∃ ty, parseFieldDescriptor t.2.2.1 = some ty) ∧ oFld Z t.1 t.2.1 t.2.2.1 t.2.2.2 cell
/-- an array of that kind with just these components -/
def oArr (Z : State) (ty : FieldType) (vs : List Value) (cell : Cell) : Prop := Z.isArrayOf cell ty ∧ cell.vm ≠ .unknown ∧ cell.slots.toList = vs ∧ vs.length < 2 ^ 31 ∧ ∀ v ∈ vs, fits ty v = true
theorem oExa.exa (E : oExa Z C cell) (hc : h[a]? = some cell) : Exa Z h a C := by obtain ⟨k, e1, e2, e3, e4⟩ := E; exact ⟨cell, k, hc, e1, e2, e3, e4⟩
theorem oExa.of (E : Exa Z h a C) (hc : h[a]? = some cell) : oExa Z C cell := by obtain ⟨c', k, h1, r⟩ := E; cases h1.symm.trans hc; exact ⟨k, r⟩
theorem oFld.fld (F : oFld Z O n d v cell) (hc : h[a]? = some cell) : Fld Z h a O n d v := by obtain ⟨cf, k, i, f, r1, r2, r3, r4, r5, r6⟩ := F; exact ⟨cell, cf, k, i, f, hc, r1, r2, r3, r4, r5, r6⟩
theorem oFld.of (F : Fld Z h a O n d v) (hc : h[a]? = some cell) : oFld Z O n d v cell := by obtain ⟨c', cf, k, i, f, h1, r1, r2, r3, r4, r5, r6⟩ := F; cases h1.symm.trans hc; exact ⟨cf, k, i, f, r1, r2, r3, r4, r5, r6⟩
theorem oExa.set (E : oExa Z C cell) : oExa Z C (cell.setSlot sl v) := by
  obtain ⟨k, e1, e2, e3, e4⟩ := E
  exact ⟨k, e1, e2, e3, fun q => by rw [sz_set]; exact e4 q⟩
theorem oFld.hit (F : oFld Z O n d old cell) : oFld Z O n d v (cell.setSlot (Jvm.RoadKit.slotOf Z O n d) v) := by
  obtain ⟨cf, k, i, f, r1, r2, r3, r4, r5, r6⟩ := F
  refine ⟨cf, k, i, f, r1, r2, r3, r4, r5, ?_⟩
  have e : Jvm.RoadKit.slotOf Z O n d = f.slot := by
    show ((Z.fieldFound? O n d).map (fun z => z.2.2.2.slot)).getD 0 = f.slot
    rw [r1]; rfl
  rw [e]
  show (cell.slots.setIfInBounds f.slot v)[f.slot]? = some v
  exact Array.getElem?_setIfInBounds_self_of_lt (Array.getElem?_eq_some_iff.mp r6).1
theorem oFld.miss (F : oFld Z O n d v cell) (q : Jvm.RoadKit.slotOf Z O n d ≠ sl) : oFld Z O n d v (cell.setSlot sl w) := by
  obtain ⟨cf, k, i, f, r1, r2, r3, r4, r5, r6⟩ := F
  have e : Jvm.RoadKit.slotOf Z O n d = f.slot := by
    show ((Z.fieldFound? O n d).map (fun z => z.2.2.2.slot)).getD 0 = f.slot
    rw [r1]; rfl
  rw [e] at q
  refine ⟨cf, k, i, f, r1, r2, r3, r4, r5, ?_⟩
  show (cell.slots.setIfInBounds sl w)[f.slot]? = some v
  rw [Array.getElem?_setIfInBounds_ne (Ne.symm q)]; exact r6
theorem oObj.put {fs : oFs} (B : oObj Z a0 C fs cell) (hj : fs[j]? = some (O, n, d, old)) (hnd : (fs.map fun t => t.2.1).Nodup) : oObj Z a0 C (fs.set j (O, n, d, v)) (cell.setSlot (Jvm.RoadKit.slotOf Z O n d) v) := by
  refine ⟨B.1.set, fun t ht => ?_⟩
  obtain ⟨i, hi⟩ := List.mem_iff_getElem?.mp ht
  obtain ⟨l0, ⟨t0, p0⟩, f0⟩ := B.2 _ (List.mem_of_getElem? hj)
  have hlt : j < fs.length := (List.getElem?_eq_some_iff.mp hj).1
  by_cases e : j = i
  · subst e
    rw [List.getElem?_set_self hlt] at hi
    cases hi
    exact ⟨l0, ⟨t0, p0⟩, f0.hit⟩
  · rw [List.getElem?_set_ne e] at hi
    obtain ⟨l1, ⟨t1, p1⟩, f1⟩ := B.2 t (List.mem_of_getElem? hi)
    refine ⟨l1, ⟨t1, p1⟩, f1.miss (slot_ne l1 l0 (fun q => ?_) p1 p0)⟩
    have hA : (fs.map fun t => t.2.1)[j]? = (fs.map fun t => t.2.1)[i]? := by simp only [List.getElem?_map, hi, hj, Option.map_some]; rw [q]
    exact e ((List.getElem?_inj (by simpa using hlt) hnd).mp hA)
theorem oArr.put (B : oArr Z ty vs cell) (hf : fits ty v = true) : oArr Z ty (vs.set k v) (cell.setSlot k v) := by
  obtain ⟨b1, b2, b3, b4, b5⟩ := B
  refine ⟨b1, b2, by show (cell.slots.setIfInBounds k v).toList = vs.set k v; rw [Array.toList_setIfInBounds, b3], by simpa using b4, fun u hu => ?_⟩
  rcases List.mem_or_eq_of_mem_set hu with q | q
  · exact b5 u q
  · rw [q]; exact hf
theorem oArr.size (B : oArr Z ty vs cell) : cell.slots.size = vs.length := by rw [← B.2.2.1]; simp
theorem oArr.get (B : oArr Z ty vs cell) (hk : vs[k]? = some v) : cell.slots[k]? = some v := by rw [← Array.getElem?_toList, B.2.2.1]; exact hk
theorem oArr.arr (B : oArr Z ty vs cell) (hc : h[a]? = some cell) : Arr Z h a cell ty := ⟨hc, B.1, B.2.1⟩
theorem o_clamp {k : Nat} (q : k < 2 ^ 31) : (Int32.ofNat k).toNatClampNeg = k ∧ ¬ (Int32.ofNat k) < 0 := by
  have e : (Int32.ofNat k).toInt = k := len_toInt q
  refine ⟨by simp only [Int32.toNatClampNeg, e]; rfl, ?_⟩
  rw [Int32.lt_iff_toInt_lt, e]; show ¬ (k : Int) < 0; omega
theorem oArr.inb (B : oArr Z ty vs cell) {x : Int32} (e : x = Int32.ofNat k) (hk : k < vs.length) : x.toNatClampNeg = k ∧ ¬ (x < 0 ∨ cell.slots.size ≤ x.toNatClampNeg) := by
  subst e
  have q := o_clamp (Nat.lt_trans hk B.2.2.2.1)
  refine ⟨q.1, fun z => z.elim q.2 fun y => ?_⟩
  rw [q.1, B.size] at y; omega
/-! ## 2. the heap: the cells that stood stand as they stood; the listed ones are new, no two alike -/
def oHp (Z : State) (h : Heap) (L : List oEnt) : Prop := (Z.heap.size ≤ h.size ∧ ∀ (a : Addr) (c : Cell), Z.heap[a]? = some c → h[a]? = some c) ∧ (L.map fun x => x.1).Nodup ∧ ∀ x ∈ L, Z.heap.size ≤ x.1 ∧ ∃ c : Cell, h[x.1]? = some c ∧ x.2 c
theorem oHp.at_ (H : oHp Z h L) (hi : L[i]? = some (a, P)) : Z.heap.size ≤ a ∧ ∃ c : Cell, h[a]? = some c ∧ P c := H.2.2 _ (List.mem_of_getElem? hi)
theorem oHp.ne {b : Addr} {P2 : Cell → Prop} (H : oHp Z h L) (hi : L[i]? = some (a, P)) (hj : L[j]? = some (b, P2)) (q : i ≠ j) : a ≠ b := fun e => by
  have hA : (L.map fun x => x.1)[i]? = (L.map fun x => x.1)[j]? := by simp only [List.getElem?_map, hi, hj, Option.map_some]; rw [e]
  exact q ((List.getElem?_inj (by have := (List.getElem?_eq_some_iff.mp hi).1; simpa using this) H.2.1).mp hA)
theorem oHp.new (H : oHp Z h L) (E : Ext h h') (hc : h'[h.size]? = some cell) (hP : P cell) : oHp Z h' ((h.size, P) :: L) := by
  refine ⟨⟨Nat.le_trans H.1.1 E.1, fun a c q => E.2 a c (H.1.2 a c q)⟩, ?_, ?_⟩
  · simp only [List.map_cons, List.nodup_cons]
    refine ⟨fun q => ?_, H.2.1⟩
    obtain ⟨x, hx, e⟩ := List.mem_map.mp q
    obtain ⟨-, c, hc', -⟩ := H.2.2 x hx
    have := (Array.getElem?_eq_some_iff.mp hc').1
    have e' : x.1 = h.size := e
    rw [e'] at this
    exact Nat.lt_irrefl _ this
  · intro x hx
    rcases List.mem_cons.mp hx with rfl | hx
    · exact ⟨H.1.1, cell, hc, hP⟩
    · obtain ⟨q, c, hc', hp⟩ := H.2.2 x hx
      exact ⟨q, c, E.2 _ _ hc', hp⟩
theorem oHp.wr (H : oHp Z h L) (hi : L[i]? = some (a, P)) (W : Wr h h' a sl v) (hP : ∀ c : Cell, P c → P' (c.setSlot sl v)) : oHp Z h' (L.set i (a, P')) := by
  obtain ⟨q, c, hc, hp⟩ := H.at_ hi
  have hlt : i < L.length := (List.getElem?_eq_some_iff.mp hi).1
  refine ⟨⟨by rw [W.size]; exact H.1.1, fun b c' hb => ?_⟩, ?_, ?_⟩
  · obtain ⟨cb', e1, -, -, -, e5, -⟩ := wr_at W (H.1.2 b c' hb)
    have ne : b ≠ a := Nat.ne_of_lt (Nat.lt_of_lt_of_le (Array.getElem?_eq_some_iff.mp hb).1 q)
    rw [← e5 ne]; exact e1
  · have : (L.set i (a, P')).map (fun x => x.1) = L.map (fun x => x.1) := by
      apply List.ext_getElem?
      intro k
      by_cases e : i = k
      · subst e; rw [List.getElem?_map, List.getElem?_set_self hlt, List.getElem?_map, hi]; rfl
      · rw [List.getElem?_map, List.getElem?_set_ne e, List.getElem?_map]
    rw [this]; exact H.2.1
  · intro x hx
    obtain ⟨k, hk⟩ := List.mem_iff_getElem?.mp hx
    by_cases e : i = k
    · subst e
      rw [List.getElem?_set_self hlt] at hk
      cases hk
      obtain ⟨c', e1, -, -, -, -, -, e7⟩ := wr_at W hc
      exact ⟨q, _, e1, (e7 rfl).1 ▸ hP c hp⟩
    · rw [List.getElem?_set_ne e] at hk
      obtain ⟨q', c', hc', hp'⟩ := H.2.2 x (List.mem_of_getElem? hk)
      obtain ⟨cb', e1, -, -, -, e5, -⟩ := wr_at W hc'
      have ne : x.1 ≠ a := H.ne (i := k) (j := i) (a := x.1) (P := x.2) hk hi (Ne.symm e)
      exact ⟨q', c', by rw [← e5 ne]; exact e1, hp'⟩
theorem oHp.perm (H : oHp Z h L) (q : L'.Perm L) : oHp Z h L' := ⟨H.1, (q.map _).nodup_iff.mpr H.2.1, fun x hx => H.2.2 x (q.mem_iff.mp hx)⟩
theorem oHp.weak (H : oHp Z h L) (hi : L[i]? = some (a, P)) (hP : ∀ c : Cell, P c → P' c) : oHp Z h (L.set i (a, P')) := by
  have hlt : i < L.length := (List.getElem?_eq_some_iff.mp hi).1
  refine ⟨H.1, ?_, fun x hx => ?_⟩
  · have : (L.set i (a, P')).map (fun x => x.1) = L.map (fun x => x.1) := by
      apply List.ext_getElem?
      intro k
      by_cases e : i = k
      · subst e; rw [List.getElem?_map, List.getElem?_set_self hlt, List.getElem?_map, hi]; rfl
      · rw [List.getElem?_map, List.getElem?_set_ne e, List.getElem?_map]
    rw [this]; exact H.2.1
  · obtain ⟨k, hk⟩ := List.mem_iff_getElem?.mp hx
    by_cases e : i = k
    · subst e
      rw [List.getElem?_set_self hlt] at hk
      cases hk
      obtain ⟨q, c, hc, hp⟩ := H.at_ hi
      exact ⟨q, c, hc, hP c hp⟩
    · rw [List.getElem?_set_ne e] at hk
      exact H.2.2 x (List.mem_of_getElem? hk)
end OwnCells
/-! ## 3. where the run stands; what is left to show -/
def oOn (p : Program) (l : Launch) (e : Env) (R : Room) (s : State) (m : MethodId) (args : Array Value) (below : List Frame) (meth : Method) (c : Code) (Z : State) (cells slots : Nat) (T : State) (L : List oEnt) : Prop := ∃ locs, Stand p l e R s m args below meth c T locs cells slots ∧ Fr Z.heap.size locs ∧ oHp Z T.heap L
def oCx (p : Program) (s : State) (m : MethodId) (meth : Method) (c : Code) (Z : State) (own nm : String) (code : ByteArray) (maxL : Nat) (ret : Option FieldType) : Prop := p.tables.exec = Jvm.exec ∧ Z.Warmed39 s.vm ∧ c.code = code ∧ c.maxLocals = maxL ∧ s.vm.findClass own = some m.cls ∧ meth.name = nm ∧ meth.sig.returnType = ret ∧ meth.locks = false
def oGo (p : Program) (e : Env) (below : List Frame) (K : State → Outcome → Prop) (u : State) : Prop := ∃ s₂ o, Steps p.tables e below u s₂ ∧ s₂.status = .running ∧ Ended s₂ below o ∧ K s₂ o
def oEnd (s Z : State) (Q : Option Value → List oEnt → Prop) (C S : Nat) (t : State) (o : Outcome) : Prop := ∃ v Lc, o = .returned v ∧ (Fr Z.heap.size Lc ∧ ∃ L', oHp Z t.heap L' ∧ Q v L') ∧ FrameEnd s o t Lc C S
/-- the contract of a body: from a heap of which L is known, with these arguments, it returns v and leaves a heap of which L' is known, Q v L' -/
def oMeets (l : Launch) (Z : State) (y : MethodName) (code : ByteArray) (maxL : Nat) (ret : Option FieldType) (rm : Room) (as : List Value) (L : List oEnt) (Q : Option Value → List oEnt → Prop) : Prop :=
  ∀ (ws : List Jvm.Cond) (h0 : Heap), oHp Z h0 L → MetFree l y (head1 (Jvm.Cond.code y code maxL ret :: ws) rm) (fun a U => a = as.toArray ∧ Z.Warmed39 U.vm ∧ U.heap = h0) (fun _ _ _ _ _ => True)
    (fun _ U o U' => ∃ v Lc, o = .returned v ∧ (Fr Z.heap.size Lc ∧ ∃ L', oHp Z U'.heap L' ∧ Q v L') ∧ FrameEnd U o U' Lc rm.cells rm.slots)
section OwnRules
variable {p : Program} {l : Launch} {e : Env} {R : Room} {s : State} {m : MethodId} {args : Array Value} {below : List Frame} {meth : Method} {c : Code} {Z : State} {a0 : Array Value} {cells slots : Nat} {T : State} {L L' : List oEnt}
variable {own nm : String} {code : ByteArray} {maxL : Nat} {ret : Option FieldType} {K : State → Outcome → Prop} {Ls : Array Slot} {st : List Value} {pc pc' pc2 : Nat} {i j k : Nat} {a : Addr} {vs : List Value} {v : Value}
theorem oGo.via {u u' : State} (h : ∀ t, Steps p.tables e below u' t → Steps p.tables e below u t) (g : oGo p e below K u') : oGo p e below K u := by
  obtain ⟨s₂, o, h1, h2⟩ := g; exact ⟨s₂, o, h _ h1, h2⟩
theorem oOn.here (o : oOn p l e R s m args below meth c Z cells slots T L) : At T m c below := by obtain ⟨_, X, -⟩ := o; exact X.here
theorem oOn.perm (o : oOn p l e R s m args below meth c Z cells slots T L) (q : L'.Perm L) : oOn p l e R s m args below meth c Z cells slots T L' := by obtain ⟨lc, X, N, H⟩ := o; exact ⟨lc, X, N, H.perm q⟩
theorem oOn.more (o : oOn p l e R s m args below meth c Z cells slots T L) {c' s' : Nat} (h1 : cells ≤ c') (h2 : slots ≤ s') : oOn p l e R s m args below meth c Z c' s' T L := by obtain ⟨lc, X, N, H⟩ := o; exact ⟨lc, X.more h1 h2, N, H⟩
theorem o_frontp {α : Type} : ∀ (L : List α) (i : Nat) {x : α}, L[i]? = some x → (x :: L.eraseIdx i).Perm L
  | [], i, x, h => by simp at h
  | a :: L, 0, x, h => by cases h; exact List.Perm.refl _
  | a :: L, i + 1, x, h => (List.Perm.swap a x (L.eraseIdx i)).trans ((o_frontp L i h).cons a)
/-- the i-th known cell comes to the front -/
theorem oOn.front (o : oOn p l e R s m args below meth c Z cells slots T L) (i : Nat) {x : oEnt} (hi : L[i]? = some x) : oOn p l e R s m args below meth c Z cells slots T (x :: L.eraseIdx i) := o.perm (o_frontp L i hi)
theorem oOn.weak (o : oOn p l e R s m args below meth c Z cells slots T L) (i : Nat) {P P' : Cell → Prop} (hi : L[i]? = some (a, P)) (hP : ∀ c : Cell, P c → P' c) : oOn p l e R s m args below meth c Z cells slots T (L.set i (a, P')) := by obtain ⟨lc, X, N, H⟩ := o; exact ⟨lc, X, N, H.weak hi hP⟩
theorem oOn.drop (o : oOn p l e R s m args below meth c Z cells slots T L) (q : List.Sublist L' L) : oOn p l e R s m args below meth c Z cells slots T L' := by
  obtain ⟨lc, X, N, H⟩ := o
  exact ⟨lc, X, N, H.1, (q.map _).nodup H.2.1, fun x hx => H.2.2 x (q.subset hx)⟩
theorem oOn.len {ty : FieldType} (o : oOn p l e R s m args below meth c Z cells slots T L) (hi : L[i]? = some (a, oArr Z ty vs)) : vs.length < 2 ^ 31 := by
  obtain ⟨lc, X, N, H⟩ := o
  obtain ⟨-, cl, -, A⟩ := H.at_ hi
  exact A.2.2.2.1
theorem oMeets.of {y : MethodName} {rm : Room} {as : List Value} {Q : Option Value → List oEnt → Prop} (pn : plainFor y = true)
    (body : ∀ p e s m below meth c T, oCx p s m meth c Z y.cls y.name code maxL ret → oOn p l e rm s m as.toArray below meth c Z 0 0 T L → oGo p e below (oEnd s Z Q rm.cells rm.slots) (T.setTop (entryFrame m as.toArray maxL))) : oMeets l Z y code maxL ret rm as L Q := by
  intro ws h0 H
  refine MetFree.of_bodySF pn hisR ?_
  intro p e s m args below meth c s₁ Bd hml0 hP hK
  obtain ⟨rfl, hZ, hh⟩ := hP
  have X0 : Stand p l e rm s m as.toArray below meth c s₁ [] 0 0 := Stand.of_body Bd
  have e0 : s₁.heap = h0 := by rw [← hh, Bd.state]; rfl
  exact body p e s m below meth c s₁ ⟨Bd.exec, hZ, Bd.bytes, hml0, findClass_of_methodNamed Bd.named, (name_of_methodNamed Bd.named Bd.method).1, Bd.returns, Bd.notSynchronized⟩ ⟨[], X0, Fr.nil _, by rw [e0]; exact H⟩
theorem oGo.top {g g' : JFrame} (q : g = g') (k : oGo p e below K (T.setTop g')) : oGo p e below K (T.setTop g) := q ▸ k
theorem g_iload (cx : oCx p s m meth c Z own nm code maxL ret) (o : oOn p l e R s m args below meth c Z cells slots T L) {v : Int32} (hd : decode code pc = .ok (.iload k, 2)) (hp : pc + 2 = pc') (hl : Ls[k]? = some (.val (.int v)))
    (kk : oGo p e below K (T.setTop (mkF m pc' Ls (.int v :: st)))) : oGo p e below K (T.setTop (mkF m pc Ls (st))) := by
  subst hp; exact kk.via fun t q => XS.iload o.here cx.1 rfl (hb cx.2.2.1 hd) hl q
theorem g_iloadN (cx : oCx p s m meth c Z own nm code maxL ret) (o : oOn p l e R s m args below meth c Z cells slots T L) {f : Fin 4} {v : Int32} (hd : decode code pc = .ok (.iload_n f, 1)) (hp : pc + 1 = pc') (hl : Ls[f.val]? = some (.val (.int v)))
    (kk : oGo p e below K (T.setTop (mkF m pc' Ls (.int v :: st)))) : oGo p e below K (T.setTop (mkF m pc Ls (st))) := by
  subst hp; exact kk.via fun t q => XS.iloadN o.here cx.1 rfl (hb cx.2.2.1 hd) hl q
theorem g_istore (cx : oCx p s m meth c Z own nm code maxL ret) (o : oOn p l e R s m args below meth c Z cells slots T L) {v : Int32} {l' : Array Slot} (hd : decode code pc = .ok (.istore k, 2)) (hp : pc + 2 = pc') (hl : storeLocals Ls k (.int v) = some l')
    (kk : oGo p e below K (T.setTop (mkF m pc' l' (st)))) : oGo p e below K (T.setTop (mkF m pc Ls (.int v :: st))) := by
  subst hp; exact kk.via fun t q => XS.istore o.here cx.1 rfl (hb cx.2.2.1 hd) rfl hl q
theorem g_istoreN (cx : oCx p s m meth c Z own nm code maxL ret) (o : oOn p l e R s m args below meth c Z cells slots T L) {f : Fin 4} {v : Int32} {l' : Array Slot} (hd : decode code pc = .ok (.istore_n f, 1)) (hp : pc + 1 = pc') (hl : storeLocals Ls f.val (.int v) = some l')
    (kk : oGo p e below K (T.setTop (mkF m pc' l' (st)))) : oGo p e below K (T.setTop (mkF m pc Ls (.int v :: st))) := by
  subst hp; exact kk.via fun t q => XS.istoreN o.here cx.1 rfl (hb cx.2.2.1 hd) rfl hl q
theorem g_istoreV (cx : oCx p s m meth c Z own nm code maxL ret) (o : oOn p l e R s m args below meth c Z cells slots T L) {v : Int32} (l' : Int32 → Array Slot) (hd : decode code pc = .ok (.istore k, 2)) (hp : pc + 2 = pc') (hl : ∀ w, storeLocals Ls k (.int w) = some (l' w))
    (kk : ∀ w, w = v → oGo p e below K (T.setTop (mkF m pc' (l' w) st))) : oGo p e below K (T.setTop (mkF m pc Ls (.int v :: st))) := by
  exact g_istore cx o hd hp (hl v) (kk v rfl)
theorem g_istoreNV (cx : oCx p s m meth c Z own nm code maxL ret) (o : oOn p l e R s m args below meth c Z cells slots T L) {f : Fin 4} {v : Int32} (l' : Int32 → Array Slot) (hd : decode code pc = .ok (.istore_n f, 1)) (hp : pc + 1 = pc') (hl : ∀ w, storeLocals Ls f.val (.int w) = some (l' w))
    (kk : ∀ w, w = v → oGo p e below K (T.setTop (mkF m pc' (l' w) st))) : oGo p e below K (T.setTop (mkF m pc Ls (.int v :: st))) := by
  exact g_istoreN cx o hd hp (hl v) (kk v rfl)
theorem g_lload (cx : oCx p s m meth c Z own nm code maxL ret) (o : oOn p l e R s m args below meth c Z cells slots T L) {v : Int64} (hd : decode code pc = .ok (.lload k, 2)) (hp : pc + 2 = pc') (hl : Ls[k]? = some (.val (.long v)))
    (kk : oGo p e below K (T.setTop (mkF m pc' Ls (.long v :: st)))) : oGo p e below K (T.setTop (mkF m pc Ls (st))) := by
  subst hp; exact kk.via fun t q => XT.lload o.here cx.1 rfl (hb cx.2.2.1 hd) hl q
theorem g_lloadN (cx : oCx p s m meth c Z own nm code maxL ret) (o : oOn p l e R s m args below meth c Z cells slots T L) {f : Fin 4} {v : Int64} (hd : decode code pc = .ok (.lload_n f, 1)) (hp : pc + 1 = pc') (hl : Ls[f.val]? = some (.val (.long v)))
    (kk : oGo p e below K (T.setTop (mkF m pc' Ls (.long v :: st)))) : oGo p e below K (T.setTop (mkF m pc Ls (st))) := by
  subst hp; exact kk.via fun t q => XT.lloadN o.here cx.1 rfl (hb cx.2.2.1 hd) hl q
theorem g_lstore (cx : oCx p s m meth c Z own nm code maxL ret) (o : oOn p l e R s m args below meth c Z cells slots T L) {v : Int64} {l' : Array Slot} (hd : decode code pc = .ok (.lstore k, 2)) (hp : pc + 2 = pc') (hl : storeLocals Ls k (.long v) = some l')
    (kk : oGo p e below K (T.setTop (mkF m pc' l' (st)))) : oGo p e below K (T.setTop (mkF m pc Ls (.long v :: st))) := by
  subst hp; exact kk.via fun t q => XT.lstore o.here cx.1 rfl (hb cx.2.2.1 hd) rfl hl q
theorem g_lstoreN (cx : oCx p s m meth c Z own nm code maxL ret) (o : oOn p l e R s m args below meth c Z cells slots T L) {f : Fin 4} {v : Int64} {l' : Array Slot} (hd : decode code pc = .ok (.lstore_n f, 1)) (hp : pc + 1 = pc') (hl : storeLocals Ls f.val (.long v) = some l')
    (kk : oGo p e below K (T.setTop (mkF m pc' l' (st)))) : oGo p e below K (T.setTop (mkF m pc Ls (.long v :: st))) := by
  subst hp; exact kk.via fun t q => XT.lstoreN o.here cx.1 rfl (hb cx.2.2.1 hd) rfl hl q
theorem g_lstoreV (cx : oCx p s m meth c Z own nm code maxL ret) (o : oOn p l e R s m args below meth c Z cells slots T L) {v : Int64} (l' : Int64 → Array Slot) (hd : decode code pc = .ok (.lstore k, 2)) (hp : pc + 2 = pc') (hl : ∀ w, storeLocals Ls k (.long w) = some (l' w))
    (kk : ∀ w, w = v → oGo p e below K (T.setTop (mkF m pc' (l' w) st))) : oGo p e below K (T.setTop (mkF m pc Ls (.long v :: st))) := by
  exact g_lstore cx o hd hp (hl v) (kk v rfl)
theorem g_lstoreNV (cx : oCx p s m meth c Z own nm code maxL ret) (o : oOn p l e R s m args below meth c Z cells slots T L) {f : Fin 4} {v : Int64} (l' : Int64 → Array Slot) (hd : decode code pc = .ok (.lstore_n f, 1)) (hp : pc + 1 = pc') (hl : ∀ w, storeLocals Ls f.val (.long w) = some (l' w))
    (kk : ∀ w, w = v → oGo p e below K (T.setTop (mkF m pc' (l' w) st))) : oGo p e below K (T.setTop (mkF m pc Ls (.long v :: st))) := by
  exact g_lstoreN cx o hd hp (hl v) (kk v rfl)
theorem g_dload (cx : oCx p s m meth c Z own nm code maxL ret) (o : oOn p l e R s m args below meth c Z cells slots T L) {v : UInt64} (hd : decode code pc = .ok (.dload k, 2)) (hp : pc + 2 = pc') (hl : Ls[k]? = some (.val (.double v)))
    (kk : oGo p e below K (T.setTop (mkF m pc' Ls (.double v :: st)))) : oGo p e below K (T.setTop (mkF m pc Ls (st))) := by
  subst hp; exact kk.via fun t q => XS.dload o.here cx.1 rfl (hb cx.2.2.1 hd) hl q
theorem g_dloadN (cx : oCx p s m meth c Z own nm code maxL ret) (o : oOn p l e R s m args below meth c Z cells slots T L) {f : Fin 4} {v : UInt64} (hd : decode code pc = .ok (.dload_n f, 1)) (hp : pc + 1 = pc') (hl : Ls[f.val]? = some (.val (.double v)))
    (kk : oGo p e below K (T.setTop (mkF m pc' Ls (.double v :: st)))) : oGo p e below K (T.setTop (mkF m pc Ls (st))) := by
  subst hp; exact kk.via fun t q => XS.dloadN o.here cx.1 rfl (hb cx.2.2.1 hd) hl q
theorem g_dstore (cx : oCx p s m meth c Z own nm code maxL ret) (o : oOn p l e R s m args below meth c Z cells slots T L) {v : UInt64} {l' : Array Slot} (hd : decode code pc = .ok (.dstore k, 2)) (hp : pc + 2 = pc') (hl : storeLocals Ls k (.double v) = some l')
    (kk : oGo p e below K (T.setTop (mkF m pc' l' (st)))) : oGo p e below K (T.setTop (mkF m pc Ls (.double v :: st))) := by
  subst hp; exact kk.via fun t q => XS.dstore o.here cx.1 rfl (hb cx.2.2.1 hd) rfl hl q
theorem g_dstoreN (cx : oCx p s m meth c Z own nm code maxL ret) (o : oOn p l e R s m args below meth c Z cells slots T L) {f : Fin 4} {v : UInt64} {l' : Array Slot} (hd : decode code pc = .ok (.dstore_n f, 1)) (hp : pc + 1 = pc') (hl : storeLocals Ls f.val (.double v) = some l')
    (kk : oGo p e below K (T.setTop (mkF m pc' l' (st)))) : oGo p e below K (T.setTop (mkF m pc Ls (.double v :: st))) := by
  subst hp; exact kk.via fun t q => XS.dstoreN o.here cx.1 rfl (hb cx.2.2.1 hd) rfl hl q
theorem g_dstoreV (cx : oCx p s m meth c Z own nm code maxL ret) (o : oOn p l e R s m args below meth c Z cells slots T L) {v : UInt64} (l' : UInt64 → Array Slot) (hd : decode code pc = .ok (.dstore k, 2)) (hp : pc + 2 = pc') (hl : ∀ w, storeLocals Ls k (.double w) = some (l' w))
    (kk : ∀ w, w = v → oGo p e below K (T.setTop (mkF m pc' (l' w) st))) : oGo p e below K (T.setTop (mkF m pc Ls (.double v :: st))) := by
  exact g_dstore cx o hd hp (hl v) (kk v rfl)
theorem g_dstoreNV (cx : oCx p s m meth c Z own nm code maxL ret) (o : oOn p l e R s m args below meth c Z cells slots T L) {f : Fin 4} {v : UInt64} (l' : UInt64 → Array Slot) (hd : decode code pc = .ok (.dstore_n f, 1)) (hp : pc + 1 = pc') (hl : ∀ w, storeLocals Ls f.val (.double w) = some (l' w))
    (kk : ∀ w, w = v → oGo p e below K (T.setTop (mkF m pc' (l' w) st))) : oGo p e below K (T.setTop (mkF m pc Ls (.double v :: st))) := by
  exact g_dstoreN cx o hd hp (hl v) (kk v rfl)
theorem g_aload (cx : oCx p s m meth c Z own nm code maxL ret) (o : oOn p l e R s m args below meth c Z cells slots T L) {v : Value} (hd : decode code pc = .ok (.aload k, 2)) (hp : pc + 2 = pc') (hl : Ls[k]? = some (.val v)) (hv : v.isRef = true)
    (kk : oGo p e below K (T.setTop (mkF m pc' Ls (v :: st)))) : oGo p e below K (T.setTop (mkF m pc Ls (st))) := by
  subst hp; exact kk.via fun t q => XS.aload o.here cx.1 rfl (hb cx.2.2.1 hd) hl hv q
theorem g_aloadN (cx : oCx p s m meth c Z own nm code maxL ret) (o : oOn p l e R s m args below meth c Z cells slots T L) {f : Fin 4} {v : Value} (hd : decode code pc = .ok (.aload_n f, 1)) (hp : pc + 1 = pc') (hl : Ls[f.val]? = some (.val v)) (hv : v.isRef = true)
    (kk : oGo p e below K (T.setTop (mkF m pc' Ls (v :: st)))) : oGo p e below K (T.setTop (mkF m pc Ls (st))) := by
  subst hp; exact kk.via fun t q => XS.aloadN o.here cx.1 rfl (hb cx.2.2.1 hd) hl hv q
theorem g_astore (cx : oCx p s m meth c Z own nm code maxL ret) (o : oOn p l e R s m args below meth c Z cells slots T L) {v : Value} {l' : Array Slot} (hd : decode code pc = .ok (.astore k, 2)) (hp : pc + 2 = pc') (hv : v.isRef = true) (hl : storeLocals Ls k v = some l')
    (kk : oGo p e below K (T.setTop (mkF m pc' l' (st)))) : oGo p e below K (T.setTop (mkF m pc Ls (v :: st))) := by
  subst hp; exact kk.via fun t q => XS.astore o.here cx.1 rfl (hb cx.2.2.1 hd) rfl hv hl q
theorem g_astoreN (cx : oCx p s m meth c Z own nm code maxL ret) (o : oOn p l e R s m args below meth c Z cells slots T L) {f : Fin 4} {v : Value} {l' : Array Slot} (hd : decode code pc = .ok (.astore_n f, 1)) (hp : pc + 1 = pc') (hv : v.isRef = true) (hl : storeLocals Ls f.val v = some l')
    (kk : oGo p e below K (T.setTop (mkF m pc' l' (st)))) : oGo p e below K (T.setTop (mkF m pc Ls (v :: st))) := by
  subst hp; exact kk.via fun t q => XS.astoreN o.here cx.1 rfl (hb cx.2.2.1 hd) rfl hv hl q
theorem g_iadd (cx : oCx p s m meth c Z own nm code maxL ret) (o : oOn p l e R s m args below meth c Z cells slots T L) {x y : Int32} (hd : decode code pc = .ok (.iadd, 1)) (hp : pc + 1 = pc') 
    (kk : oGo p e below K (T.setTop (mkF m pc' Ls (.int (x + y) :: st)))) : oGo p e below K (T.setTop (mkF m pc Ls (.int y :: .int x :: st))) := by
  subst hp; exact kk.via fun t q => XS.iadd o.here cx.1 rfl (hb cx.2.2.1 hd) rfl q
theorem g_isub (cx : oCx p s m meth c Z own nm code maxL ret) (o : oOn p l e R s m args below meth c Z cells slots T L) {x y : Int32} (hd : decode code pc = .ok (.isub, 1)) (hp : pc + 1 = pc') 
    (kk : oGo p e below K (T.setTop (mkF m pc' Ls (.int (x - y) :: st)))) : oGo p e below K (T.setTop (mkF m pc Ls (.int y :: .int x :: st))) := by
  subst hp; exact kk.via fun t q => XS.isub o.here cx.1 rfl (hb cx.2.2.1 hd) rfl q
theorem g_imul (cx : oCx p s m meth c Z own nm code maxL ret) (o : oOn p l e R s m args below meth c Z cells slots T L) {x y : Int32} (hd : decode code pc = .ok (.imul, 1)) (hp : pc + 1 = pc') 
    (kk : oGo p e below K (T.setTop (mkF m pc' Ls (.int (x * y) :: st)))) : oGo p e below K (T.setTop (mkF m pc Ls (.int y :: .int x :: st))) := by
  subst hp; exact kk.via fun t q => XS.imul o.here cx.1 rfl (hb cx.2.2.1 hd) rfl q
theorem g_iand (cx : oCx p s m meth c Z own nm code maxL ret) (o : oOn p l e R s m args below meth c Z cells slots T L) {x y : Int32} (hd : decode code pc = .ok (.iand, 1)) (hp : pc + 1 = pc') 
    (kk : oGo p e below K (T.setTop (mkF m pc' Ls (.int (x &&& y) :: st)))) : oGo p e below K (T.setTop (mkF m pc Ls (.int y :: .int x :: st))) := by
  subst hp; exact kk.via fun t q => XS.iand o.here cx.1 rfl (hb cx.2.2.1 hd) rfl q
theorem g_ior (cx : oCx p s m meth c Z own nm code maxL ret) (o : oOn p l e R s m args below meth c Z cells slots T L) {x y : Int32} (hd : decode code pc = .ok (.ior, 1)) (hp : pc + 1 = pc') 
    (kk : oGo p e below K (T.setTop (mkF m pc' Ls (.int (x ||| y) :: st)))) : oGo p e below K (T.setTop (mkF m pc Ls (.int y :: .int x :: st))) := by
  subst hp; exact kk.via fun t q => XT.ior o.here cx.1 rfl (hb cx.2.2.1 hd) rfl q
theorem g_ixor (cx : oCx p s m meth c Z own nm code maxL ret) (o : oOn p l e R s m args below meth c Z cells slots T L) {x y : Int32} (hd : decode code pc = .ok (.ixor, 1)) (hp : pc + 1 = pc') 
    (kk : oGo p e below K (T.setTop (mkF m pc' Ls (.int (x ^^^ y) :: st)))) : oGo p e below K (T.setTop (mkF m pc Ls (.int y :: .int x :: st))) := by
  subst hp; exact kk.via fun t q => XT.ixor o.here cx.1 rfl (hb cx.2.2.1 hd) rfl q
theorem g_ishl (cx : oCx p s m meth c Z own nm code maxL ret) (o : oOn p l e R s m args below meth c Z cells slots T L) {x y : Int32} (hd : decode code pc = .ok (.ishl, 1)) (hp : pc + 1 = pc') 
    (kk : oGo p e below K (T.setTop (mkF m pc' Ls (.int (x <<< (y &&& 31)) :: st)))) : oGo p e below K (T.setTop (mkF m pc Ls (.int y :: .int x :: st))) := by
  subst hp; exact kk.via fun t q => XT.ishl o.here cx.1 rfl (hb cx.2.2.1 hd) rfl q
theorem g_ishr (cx : oCx p s m meth c Z own nm code maxL ret) (o : oOn p l e R s m args below meth c Z cells slots T L) {x y : Int32} (hd : decode code pc = .ok (.ishr, 1)) (hp : pc + 1 = pc') 
    (kk : oGo p e below K (T.setTop (mkF m pc' Ls (.int (x >>> (y &&& 31)) :: st)))) : oGo p e below K (T.setTop (mkF m pc Ls (.int y :: .int x :: st))) := by
  subst hp; exact kk.via fun t q => XT.ishr o.here cx.1 rfl (hb cx.2.2.1 hd) rfl q
theorem g_iushr (cx : oCx p s m meth c Z own nm code maxL ret) (o : oOn p l e R s m args below meth c Z cells slots T L) {x y : Int32} (hd : decode code pc = .ok (.iushr, 1)) (hp : pc + 1 = pc') 
    (kk : oGo p e below K (T.setTop (mkF m pc' Ls (.int (XT.ushr x y) :: st)))) : oGo p e below K (T.setTop (mkF m pc Ls (.int y :: .int x :: st))) := by
  subst hp; exact kk.via fun t q => XT.iushr o.here cx.1 rfl (hb cx.2.2.1 hd) rfl q
theorem g_ladd (cx : oCx p s m meth c Z own nm code maxL ret) (o : oOn p l e R s m args below meth c Z cells slots T L) {x y : Int64} (hd : decode code pc = .ok (.ladd, 1)) (hp : pc + 1 = pc') 
    (kk : oGo p e below K (T.setTop (mkF m pc' Ls (.long (x + y) :: st)))) : oGo p e below K (T.setTop (mkF m pc Ls (.long y :: .long x :: st))) := by
  subst hp; exact kk.via fun t q => XT.ladd o.here cx.1 rfl (hb cx.2.2.1 hd) rfl q
theorem g_lsub (cx : oCx p s m meth c Z own nm code maxL ret) (o : oOn p l e R s m args below meth c Z cells slots T L) {x y : Int64} (hd : decode code pc = .ok (.lsub, 1)) (hp : pc + 1 = pc') 
    (kk : oGo p e below K (T.setTop (mkF m pc' Ls (.long (x - y) :: st)))) : oGo p e below K (T.setTop (mkF m pc Ls (.long y :: .long x :: st))) := by
  subst hp; exact kk.via fun t q => XT.lsub o.here cx.1 rfl (hb cx.2.2.1 hd) rfl q
theorem g_lmul (cx : oCx p s m meth c Z own nm code maxL ret) (o : oOn p l e R s m args below meth c Z cells slots T L) {x y : Int64} (hd : decode code pc = .ok (.lmul, 1)) (hp : pc + 1 = pc') 
    (kk : oGo p e below K (T.setTop (mkF m pc' Ls (.long (x * y) :: st)))) : oGo p e below K (T.setTop (mkF m pc Ls (.long y :: .long x :: st))) := by
  subst hp; exact kk.via fun t q => XT.lmul o.here cx.1 rfl (hb cx.2.2.1 hd) rfl q
theorem g_land (cx : oCx p s m meth c Z own nm code maxL ret) (o : oOn p l e R s m args below meth c Z cells slots T L) {x y : Int64} (hd : decode code pc = .ok (.land, 1)) (hp : pc + 1 = pc') 
    (kk : oGo p e below K (T.setTop (mkF m pc' Ls (.long (x &&& y) :: st)))) : oGo p e below K (T.setTop (mkF m pc Ls (.long y :: .long x :: st))) := by
  subst hp; exact kk.via fun t q => XT.land o.here cx.1 rfl (hb cx.2.2.1 hd) rfl q
theorem g_lor (cx : oCx p s m meth c Z own nm code maxL ret) (o : oOn p l e R s m args below meth c Z cells slots T L) {x y : Int64} (hd : decode code pc = .ok (.lor, 1)) (hp : pc + 1 = pc') 
    (kk : oGo p e below K (T.setTop (mkF m pc' Ls (.long (x ||| y) :: st)))) : oGo p e below K (T.setTop (mkF m pc Ls (.long y :: .long x :: st))) := by
  subst hp; exact kk.via fun t q => XT.lor o.here cx.1 rfl (hb cx.2.2.1 hd) rfl q
theorem g_lxor (cx : oCx p s m meth c Z own nm code maxL ret) (o : oOn p l e R s m args below meth c Z cells slots T L) {x y : Int64} (hd : decode code pc = .ok (.lxor, 1)) (hp : pc + 1 = pc') 
    (kk : oGo p e below K (T.setTop (mkF m pc' Ls (.long (x ^^^ y) :: st)))) : oGo p e below K (T.setTop (mkF m pc Ls (.long y :: .long x :: st))) := by
  subst hp; exact kk.via fun t q => XT.lxor o.here cx.1 rfl (hb cx.2.2.1 hd) rfl q
theorem g_idiv (cx : oCx p s m meth c Z own nm code maxL ret) (o : oOn p l e R s m args below meth c Z cells slots T L) {x y : Int32} (hd : decode code pc = .ok (.idiv, 1)) (hp : pc + 1 = pc') (hy : y ≠ 0)
    (kk : oGo p e below K (T.setTop (mkF m pc' Ls (.int (x / y) :: st)))) : oGo p e below K (T.setTop (mkF m pc Ls (.int y :: .int x :: st))) := by
  subst hp; exact kk.via fun t q => XS.idiv o.here cx.1 rfl (hb cx.2.2.1 hd) rfl hy q
theorem g_irem (cx : oCx p s m meth c Z own nm code maxL ret) (o : oOn p l e R s m args below meth c Z cells slots T L) {x y : Int32} (hd : decode code pc = .ok (.irem, 1)) (hp : pc + 1 = pc') (hy : y ≠ 0)
    (kk : oGo p e below K (T.setTop (mkF m pc' Ls (.int (x % y) :: st)))) : oGo p e below K (T.setTop (mkF m pc Ls (.int y :: .int x :: st))) := by
  subst hp; obtain ⟨_, X, -⟩ := o; exact kk.via fun t q => iremM X cx.1 rfl (hb cx.2.2.1 hd) rfl hy q
theorem g_ldiv (cx : oCx p s m meth c Z own nm code maxL ret) (o : oOn p l e R s m args below meth c Z cells slots T L) {x y : Int64} (hd : decode code pc = .ok (.ldiv, 1)) (hp : pc + 1 = pc') (hy : y ≠ 0)
    (kk : oGo p e below K (T.setTop (mkF m pc' Ls (.long (x / y) :: st)))) : oGo p e below K (T.setTop (mkF m pc Ls (.long y :: .long x :: st))) := by
  subst hp; exact kk.via fun t q => XT.ldiv o.here cx.1 rfl (hb cx.2.2.1 hd) rfl hy q
theorem g_lrem (cx : oCx p s m meth c Z own nm code maxL ret) (o : oOn p l e R s m args below meth c Z cells slots T L) {x y : Int64} (hd : decode code pc = .ok (.lrem, 1)) (hp : pc + 1 = pc') (hy : y ≠ 0)
    (kk : oGo p e below K (T.setTop (mkF m pc' Ls (.long (x - (x / y) * y) :: st)))) : oGo p e below K (T.setTop (mkF m pc Ls (.long y :: .long x :: st))) := by
  subst hp; exact kk.via fun t q => XT.lrem o.here cx.1 rfl (hb cx.2.2.1 hd) rfl hy q
theorem g_ineg (cx : oCx p s m meth c Z own nm code maxL ret) (o : oOn p l e R s m args below meth c Z cells slots T L) {x : Int32} (hd : decode code pc = .ok (.ineg, 1)) (hp : pc + 1 = pc') 
    (kk : oGo p e below K (T.setTop (mkF m pc' Ls (.int (-x) :: st)))) : oGo p e below K (T.setTop (mkF m pc Ls (.int x :: st))) := by
  subst hp; exact kk.via fun t q => XS.ineg o.here cx.1 rfl (hb cx.2.2.1 hd) rfl q
theorem g_lneg (cx : oCx p s m meth c Z own nm code maxL ret) (o : oOn p l e R s m args below meth c Z cells slots T L) {x : Int64} (hd : decode code pc = .ok (.lneg, 1)) (hp : pc + 1 = pc') 
    (kk : oGo p e below K (T.setTop (mkF m pc' Ls (.long (-x) :: st)))) : oGo p e below K (T.setTop (mkF m pc Ls (.long x :: st))) := by
  subst hp; exact kk.via fun t q => XT.lneg o.here cx.1 rfl (hb cx.2.2.1 hd) rfl q
theorem g_i2l (cx : oCx p s m meth c Z own nm code maxL ret) (o : oOn p l e R s m args below meth c Z cells slots T L) {x : Int32} (hd : decode code pc = .ok (.i2l, 1)) (hp : pc + 1 = pc') 
    (kk : oGo p e below K (T.setTop (mkF m pc' Ls (.long x.toInt64 :: st)))) : oGo p e below K (T.setTop (mkF m pc Ls (.int x :: st))) := by
  subst hp; exact kk.via fun t q => XT.i2l o.here cx.1 rfl (hb cx.2.2.1 hd) rfl q
theorem g_l2i (cx : oCx p s m meth c Z own nm code maxL ret) (o : oOn p l e R s m args below meth c Z cells slots T L) {x : Int64} (hd : decode code pc = .ok (.l2i, 1)) (hp : pc + 1 = pc') 
    (kk : oGo p e below K (T.setTop (mkF m pc' Ls (.int x.toInt32 :: st)))) : oGo p e below K (T.setTop (mkF m pc Ls (.long x :: st))) := by
  subst hp; exact kk.via fun t q => XT.l2i o.here cx.1 rfl (hb cx.2.2.1 hd) rfl q
theorem g_lcmp (cx : oCx p s m meth c Z own nm code maxL ret) (o : oOn p l e R s m args below meth c Z cells slots T L) {x y : Int64} (hd : decode code pc = .ok (.lcmp, 1)) (hp : pc + 1 = pc') 
    (kk : oGo p e below K (T.setTop (mkF m pc' Ls (.int (XT.cmpL x y) :: st)))) : oGo p e below K (T.setTop (mkF m pc Ls (.long y :: .long x :: st))) := by
  subst hp; exact kk.via fun t q => XT.lcmp o.here cx.1 rfl (hb cx.2.2.1 hd) rfl q
theorem g_iconst (cx : oCx p s m meth c Z own nm code maxL ret) (o : oOn p l e R s m args below meth c Z cells slots T L) {q : Int} (z : Int32) (hd : decode code pc = .ok (.iconst q, 1)) (hp : pc + 1 = pc') (hz : Int32.ofInt q = z)
    (kk : oGo p e below K (T.setTop (mkF m pc' Ls (.int z :: st)))) : oGo p e below K (T.setTop (mkF m pc Ls st)) := by
  subst hp hz; exact kk.via fun t r => XS.iconst o.here cx.1 rfl (hb cx.2.2.1 hd) r
theorem g_bipush (cx : oCx p s m meth c Z own nm code maxL ret) (o : oOn p l e R s m args below meth c Z cells slots T L) {q : Int} (z : Int32) (hd : decode code pc = .ok (.bipush q, 2)) (hp : pc + 2 = pc') (hz : (Int8.ofInt q).toInt32 = z)
    (kk : oGo p e below K (T.setTop (mkF m pc' Ls (.int z :: st)))) : oGo p e below K (T.setTop (mkF m pc Ls st)) := by
  subst hp hz; exact kk.via fun t r => XS.bipush o.here cx.1 rfl (hb cx.2.2.1 hd) r
theorem g_sipush (cx : oCx p s m meth c Z own nm code maxL ret) (o : oOn p l e R s m args below meth c Z cells slots T L) {q : Int} (z : Int32) (hd : decode code pc = .ok (.sipush q, 3)) (hp : pc + 3 = pc') (hz : (Int16.ofInt q).toInt32 = z)
    (kk : oGo p e below K (T.setTop (mkF m pc' Ls (.int z :: st)))) : oGo p e below K (T.setTop (mkF m pc Ls st)) := by
  subst hp hz; exact kk.via fun t r => XS.sipush o.here cx.1 rfl (hb cx.2.2.1 hd) r
theorem g_lconst (cx : oCx p s m meth c Z own nm code maxL ret) (o : oOn p l e R s m args below meth c Z cells slots T L) {f : Fin 2} (z : Int64) (hd : decode code pc = .ok (.lconst f, 1)) (hp : pc + 1 = pc') (hz : Int64.ofNat f = z)
    (kk : oGo p e below K (T.setTop (mkF m pc' Ls (.long z :: st)))) : oGo p e below K (T.setTop (mkF m pc Ls st)) := by
  subst hp hz; exact kk.via fun t r => XT.lconst o.here cx.1 rfl (hb cx.2.2.1 hd) r
theorem g_dconst0 (cx : oCx p s m meth c Z own nm code maxL ret) (o : oOn p l e R s m args below meth c Z cells slots T L) (hd : decode code pc = .ok (.dconst 0, 1)) (hp : pc + 1 = pc')
    (kk : oGo p e below K (T.setTop (mkF m pc' Ls (.double FP.dconst0 :: st)))) : oGo p e below K (T.setTop (mkF m pc Ls st)) := by
  subst hp; exact kk.via fun t r => XS.dconst0 o.here cx.1 rfl (hb cx.2.2.1 hd) rfl r
theorem g_dconst1 (cx : oCx p s m meth c Z own nm code maxL ret) (o : oOn p l e R s m args below meth c Z cells slots T L) (hd : decode code pc = .ok (.dconst 1, 1)) (hp : pc + 1 = pc')
    (kk : oGo p e below K (T.setTop (mkF m pc' Ls (.double FP.dconst1 :: st)))) : oGo p e below K (T.setTop (mkF m pc Ls st)) := by
  subst hp; exact kk.via fun t r => XS.dconst1 o.here cx.1 rfl (hb cx.2.2.1 hd) rfl r
theorem g_aconst_null (cx : oCx p s m meth c Z own nm code maxL ret) (o : oOn p l e R s m args below meth c Z cells slots T L)  (hd : decode code pc = .ok (.aconst_null, 1)) (hp : pc + 1 = pc') 
    (kk : oGo p e below K (T.setTop (mkF m pc' Ls (.null :: st)))) : oGo p e below K (T.setTop (mkF m pc Ls (st))) := by
  subst hp; exact kk.via fun t q => XS.aconstNull o.here cx.1 rfl (hb cx.2.2.1 hd)  q
theorem g_dup (cx : oCx p s m meth c Z own nm code maxL ret) (o : oOn p l e R s m args below meth c Z cells slots T L) {v : Value} (hd : decode code pc = .ok (.dup, 1)) (hp : pc + 1 = pc') (hc : v.category = 1)
    (kk : oGo p e below K (T.setTop (mkF m pc' Ls (v :: v :: st)))) : oGo p e below K (T.setTop (mkF m pc Ls (v :: st))) := by
  subst hp; exact kk.via fun t q => XS.dup o.here cx.1 rfl (hb cx.2.2.1 hd) rfl hc q
theorem g_pop (cx : oCx p s m meth c Z own nm code maxL ret) (o : oOn p l e R s m args below meth c Z cells slots T L) {v : Value} (hd : decode code pc = .ok (.pop, 1)) (hp : pc + 1 = pc') (hc : v.category = 1)
    (kk : oGo p e below K (T.setTop (mkF m pc' Ls (st)))) : oGo p e below K (T.setTop (mkF m pc Ls (v :: st))) := by
  subst hp; exact kk.via fun t q => XT.pop o.here cx.1 rfl (hb cx.2.2.1 hd) rfl hc q
theorem g_dup_x1 (cx : oCx p s m meth c Z own nm code maxL ret) (o : oOn p l e R s m args below meth c Z cells slots T L) {v w : Value} (hd : decode code pc = .ok (.dup_x1, 1)) (hp : pc + 1 = pc') (hc : v.category = 1) (hc' : w.category = 1)
    (kk : oGo p e below K (T.setTop (mkF m pc' Ls (v :: w :: v :: st)))) : oGo p e below K (T.setTop (mkF m pc Ls (v :: w :: st))) := by
  subst hp; exact kk.via fun t q => XT.dupX1 o.here cx.1 rfl (hb cx.2.2.1 hd) rfl hc hc' q
theorem g_dup2 (cx : oCx p s m meth c Z own nm code maxL ret) (o : oOn p l e R s m args below meth c Z cells slots T L) {v w : Value} (hd : decode code pc = .ok (.dup2, 1)) (hp : pc + 1 = pc') (hc : v.category = 1) (hc' : w.category = 1)
    (kk : oGo p e below K (T.setTop (mkF m pc' Ls (v :: w :: v :: w :: st)))) : oGo p e below K (T.setTop (mkF m pc Ls (v :: w :: st))) := by
  subst hp; exact kk.via fun t q => XT.dup2 o.here cx.1 rfl (hb cx.2.2.1 hd) rfl hc hc' q
theorem g_dup2L (cx : oCx p s m meth c Z own nm code maxL ret) (o : oOn p l e R s m args below meth c Z cells slots T L) {x : Int64} (hd : decode code pc = .ok (.dup2, 1)) (hp : pc + 1 = pc') 
    (kk : oGo p e below K (T.setTop (mkF m pc' Ls (.long x :: .long x :: st)))) : oGo p e below K (T.setTop (mkF m pc Ls (.long x :: st))) := by
  subst hp; exact kk.via fun t q => XT.dup2L o.here cx.1 rfl (hb cx.2.2.1 hd) rfl q
theorem g_i2d (cx : oCx p s m meth c Z own nm code maxL ret) (o : oOn p l e R s m args below meth c Z cells slots T L) {x : Int32} (hd : decode code pc = .ok (.i2d, 1)) (hp : pc + 1 = pc') 
    (kk : oGo p e below K (T.setTop (mkF m pc' Ls (.double (FP.i2d x) :: st)))) : oGo p e below K (T.setTop (mkF m pc Ls (.int x :: st))) := by
  subst hp; exact kk.via fun t q => XS.i2dS o.here cx.1 rfl (hb cx.2.2.1 hd) rfl rfl q
theorem g_l2d (cx : oCx p s m meth c Z own nm code maxL ret) (o : oOn p l e R s m args below meth c Z cells slots T L) {x : Int64} (hd : decode code pc = .ok (.l2d, 1)) (hp : pc + 1 = pc') 
    (kk : oGo p e below K (T.setTop (mkF m pc' Ls (.double (FP.l2d x) :: st)))) : oGo p e below K (T.setTop (mkF m pc Ls (.long x :: st))) := by
  subst hp; exact kk.via fun t q => XS.l2dS o.here cx.1 rfl (hb cx.2.2.1 hd) rfl rfl q
theorem g_d2l (cx : oCx p s m meth c Z own nm code maxL ret) (o : oOn p l e R s m args below meth c Z cells slots T L) {x : UInt64} (hd : decode code pc = .ok (.d2l, 1)) (hp : pc + 1 = pc') 
    (kk : oGo p e below K (T.setTop (mkF m pc' Ls (.long (FP.d2l x) :: st)))) : oGo p e below K (T.setTop (mkF m pc Ls (.double x :: st))) := by
  subst hp; exact kk.via fun t q => XS.d2lS o.here cx.1 rfl (hb cx.2.2.1 hd) rfl rfl q
theorem g_d2i (cx : oCx p s m meth c Z own nm code maxL ret) (o : oOn p l e R s m args below meth c Z cells slots T L) {x : UInt64} (hd : decode code pc = .ok (.d2i, 1)) (hp : pc + 1 = pc') 
    (kk : oGo p e below K (T.setTop (mkF m pc' Ls (.int (FP.d2i x) :: st)))) : oGo p e below K (T.setTop (mkF m pc Ls (.double x :: st))) := by
  subst hp; exact kk.via fun t q => XS.d2iS o.here cx.1 rfl (hb cx.2.2.1 hd) rfl rfl q
theorem g_dneg (cx : oCx p s m meth c Z own nm code maxL ret) (o : oOn p l e R s m args below meth c Z cells slots T L) {x : UInt64} (hd : decode code pc = .ok (.dneg, 1)) (hp : pc + 1 = pc') 
    (kk : oGo p e below K (T.setTop (mkF m pc' Ls (.double (FP.dneg x) :: st)))) : oGo p e below K (T.setTop (mkF m pc Ls (.double x :: st))) := by
  subst hp; exact kk.via fun t q => XS.dnegS o.here cx.1 rfl (hb cx.2.2.1 hd) rfl rfl q
theorem g_dcmp (cx : oCx p s m meth c Z own nm code maxL ret) (o : oOn p l e R s m args below meth c Z cells slots T L) {f : CmpOp} {x y : UInt64} (hd : decode code pc = .ok (.dcmp f, 1)) (hp : pc + 1 = pc') 
    (kk : oGo p e below K (T.setTop (mkF m pc' Ls (.int (cmpValue (FP.dcmp x y) f) :: st)))) : oGo p e below K (T.setTop (mkF m pc Ls (.double y :: .double x :: st))) := by
  subst hp; exact kk.via fun t q => XS.dcmpS o.here cx.1 rfl (hb cx.2.2.1 hd) rfl rfl q
theorem g_dadd (cx : oCx p s m meth c Z own nm code maxL ret) (o : oOn p l e R s m args below meth c Z cells slots T L) {x y : UInt64} (hd : decode code pc = .ok (.dadd, 1)) (hp : pc + 1 = pc') (hn : NoNaN64 (FP.dadd x y))
    (kk : oGo p e below K (T.setTop (mkF m pc' Ls (.double (FP.dadd x y) :: st)))) : oGo p e below K (T.setTop (mkF m pc Ls (.double y :: .double x :: st))) := by
  subst hp; exact kk.via fun t q => XS.daddS o.here cx.1 rfl (hb cx.2.2.1 hd) rfl hn rfl q
theorem g_dsub (cx : oCx p s m meth c Z own nm code maxL ret) (o : oOn p l e R s m args below meth c Z cells slots T L) {x y : UInt64} (hd : decode code pc = .ok (.dsub, 1)) (hp : pc + 1 = pc') (hn : NoNaN64 (FP.dsub x y))
    (kk : oGo p e below K (T.setTop (mkF m pc' Ls (.double (FP.dsub x y) :: st)))) : oGo p e below K (T.setTop (mkF m pc Ls (.double y :: .double x :: st))) := by
  subst hp; exact kk.via fun t q => XS.dsubS o.here cx.1 rfl (hb cx.2.2.1 hd) rfl hn rfl q
theorem g_dmul (cx : oCx p s m meth c Z own nm code maxL ret) (o : oOn p l e R s m args below meth c Z cells slots T L) {x y : UInt64} (hd : decode code pc = .ok (.dmul, 1)) (hp : pc + 1 = pc') (hn : NoNaN64 (FP.dmul x y))
    (kk : oGo p e below K (T.setTop (mkF m pc' Ls (.double (FP.dmul x y) :: st)))) : oGo p e below K (T.setTop (mkF m pc Ls (.double y :: .double x :: st))) := by
  subst hp; exact kk.via fun t q => XS.dmulS o.here cx.1 rfl (hb cx.2.2.1 hd) rfl hn rfl q
theorem g_ddiv (cx : oCx p s m meth c Z own nm code maxL ret) (o : oOn p l e R s m args below meth c Z cells slots T L) {x y : UInt64} (hd : decode code pc = .ok (.ddiv, 1)) (hp : pc + 1 = pc') (hn : NoNaN64 (FP.ddiv x y))
    (kk : oGo p e below K (T.setTop (mkF m pc' Ls (.double (FP.ddiv x y) :: st)))) : oGo p e below K (T.setTop (mkF m pc Ls (.double y :: .double x :: st))) := by
  subst hp; exact kk.via fun t q => XS.ddivS o.here cx.1 rfl (hb cx.2.2.1 hd) rfl hn rfl q
theorem g_iinc (cx : oCx p s m meth c Z own nm code maxL ret) (o : oOn p l e R s m args below meth c Z cells slots T L) {cst : Int} {x : Int32} (z : Int32) {l' : Array Slot} (hd : decode code pc = .ok (.iinc k cst, 3)) (hp : pc + 3 = pc') (hl : Ls[k]? = some (.val (.int x))) (hz : x + Int32.ofInt cst = z) (hl' : storeLocals Ls k (.int z) = some l')
    (kk : oGo p e below K (T.setTop (mkF m pc' l' st))) : oGo p e below K (T.setTop (mkF m pc Ls st)) := by
  subst hp hz; exact kk.via fun t r => XS.iinc o.here cx.1 rfl (hb cx.2.2.1 hd) hl hl' r
theorem g_lshl (cx : oCx p s m meth c Z own nm code maxL ret) (o : oOn p l e R s m args below meth c Z cells slots T L) {x : Int64} {y : Int32} (hd : decode code pc = .ok (.lshl, 1)) (hp : pc + 1 = pc') 
    (kk : oGo p e below K (T.setTop (mkF m pc' Ls (.long (x <<< (y.toInt64 &&& 63)) :: st)))) : oGo p e below K (T.setTop (mkF m pc Ls (.int y :: .long x :: st))) := by
  subst hp; exact kk.via fun t q => XT.lshl o.here cx.1 rfl (hb cx.2.2.1 hd) rfl q
theorem g_lshr (cx : oCx p s m meth c Z own nm code maxL ret) (o : oOn p l e R s m args below meth c Z cells slots T L) {x : Int64} {y : Int32} (hd : decode code pc = .ok (.lshr, 1)) (hp : pc + 1 = pc') 
    (kk : oGo p e below K (T.setTop (mkF m pc' Ls (.long (x >>> (y.toInt64 &&& 63)) :: st)))) : oGo p e below K (T.setTop (mkF m pc Ls (.int y :: .long x :: st))) := by
  subst hp; exact kk.via fun t q => XT.lshr o.here cx.1 rfl (hb cx.2.2.1 hd) rfl q
theorem g_lushr (cx : oCx p s m meth c Z own nm code maxL ret) (o : oOn p l e R s m args below meth c Z cells slots T L) {x : Int64} {y : Int32} (hd : decode code pc = .ok (.lushr, 1)) (hp : pc + 1 = pc') 
    (kk : oGo p e below K (T.setTop (mkF m pc' Ls (.long (XT.ushrL x y) :: st)))) : oGo p e below K (T.setTop (mkF m pc Ls (.int y :: .long x :: st))) := by
  subst hp; exact kk.via fun t q => XT.lushr o.here cx.1 rfl (hb cx.2.2.1 hd) rfl q
theorem g_i2b (cx : oCx p s m meth c Z own nm code maxL ret) (o : oOn p l e R s m args below meth c Z cells slots T L) {x : Int32} (hd : decode code pc = .ok (.i2b, 1)) (hp : pc + 1 = pc') 
    (kk : oGo p e below K (T.setTop (mkF m pc' Ls (.int (x.toInt8.toInt32) :: st)))) : oGo p e below K (T.setTop (mkF m pc Ls (.int x :: st))) := by
  subst hp; exact kk.via fun t q => XT.i2b o.here cx.1 rfl (hb cx.2.2.1 hd) rfl q
theorem g_i2s (cx : oCx p s m meth c Z own nm code maxL ret) (o : oOn p l e R s m args below meth c Z cells slots T L) {x : Int32} (hd : decode code pc = .ok (.i2s, 1)) (hp : pc + 1 = pc') 
    (kk : oGo p e below K (T.setTop (mkF m pc' Ls (.int (x.toInt16.toInt32) :: st)))) : oGo p e below K (T.setTop (mkF m pc Ls (.int x :: st))) := by
  subst hp; exact kk.via fun t q => XT.i2s o.here cx.1 rfl (hb cx.2.2.1 hd) rfl q
theorem g_goto (cx : oCx p s m meth c Z own nm code maxL ret) (o : oOn p l e R s m args below meth c Z cells slots T L) {off : Int} (hd : decode code pc = .ok (.goto off, 3)) (ho : 0 ≤ (pc : Int) + off) (hp : ((pc : Int) + off).toNat = pc')
    (kk : oGo p e below K (T.setTop (mkF m pc' Ls st))) : oGo p e below K (T.setTop (mkF m pc Ls st)) := by
  exact kk.via fun t q => XS.goto o.here cx.1 rfl rfl (hb cx.2.2.1 hd) ho hp q
theorem g_if_eq (cx : oCx p s m meth c Z own nm code maxL ret) (o : oOn p l e R s m args below meth c Z cells slots T L) {x : Int32} {off : Int} (hd : decode code pc = .ok (.ifCond .eq off, 3)) (ho : 0 ≤ (pc : Int) + off) (hp' : ((pc : Int) + off).toNat = pc') (hp : pc + 3 = pc2)
    (ky : x = 0 → oGo p e below K (T.setTop (mkF m pc' Ls st))) (kn : ¬ (x = 0) → oGo p e below K (T.setTop (mkF m pc2 Ls st))) : oGo p e below K (T.setTop (mkF m pc Ls (.int x :: st))) := by
  by_cases q : x = 0
  · exact (ky q).via fun t r => XS.ifYes o.here cx.1 rfl rfl (hb cx.2.2.1 hd) rfl ((if0 _ _).trans (teq q).1) ho hp' r
  · subst hp; exact (kn q).via fun t r => XS.ifNo o.here cx.1 rfl (hb cx.2.2.1 hd) rfl ((if0 _ _).trans (feq q).1) r
theorem g_icmp_eq (cx : oCx p s m meth c Z own nm code maxL ret) (o : oOn p l e R s m args below meth c Z cells slots T L) {x y : Int32} {off : Int} (hd : decode code pc = .ok (.if_icmp .eq off, 3)) (ho : 0 ≤ (pc : Int) + off) (hp' : ((pc : Int) + off).toNat = pc') (hp : pc + 3 = pc2)
    (ky : x = y → oGo p e below K (T.setTop (mkF m pc' Ls st))) (kn : ¬ (x = y) → oGo p e below K (T.setTop (mkF m pc2 Ls st))) : oGo p e below K (T.setTop (mkF m pc Ls (.int y :: .int x :: st))) := by
  by_cases q : x = y
  · exact (ky q).via fun t r => XS.icmpYes o.here cx.1 rfl rfl (hb cx.2.2.1 hd) rfl (teq q).1 ho hp' r
  · subst hp; exact (kn q).via fun t r => XS.icmpNo o.here cx.1 rfl (hb cx.2.2.1 hd) rfl (feq q).1 r
theorem g_if_ne (cx : oCx p s m meth c Z own nm code maxL ret) (o : oOn p l e R s m args below meth c Z cells slots T L) {x : Int32} {off : Int} (hd : decode code pc = .ok (.ifCond .ne off, 3)) (ho : 0 ≤ (pc : Int) + off) (hp' : ((pc : Int) + off).toNat = pc') (hp : pc + 3 = pc2)
    (ky : ¬ (x = 0) → oGo p e below K (T.setTop (mkF m pc' Ls st))) (kn : x = 0 → oGo p e below K (T.setTop (mkF m pc2 Ls st))) : oGo p e below K (T.setTop (mkF m pc Ls (.int x :: st))) := by
  by_cases q : ¬ (x = 0)
  · exact (ky q).via fun t r => XS.ifYes o.here cx.1 rfl rfl (hb cx.2.2.1 hd) rfl ((if0 _ _).trans (feq q).2) ho hp' r
  · subst hp; exact (kn (Decidable.not_not.mp q)).via fun t r => XS.ifNo o.here cx.1 rfl (hb cx.2.2.1 hd) rfl ((if0 _ _).trans (teq (Decidable.not_not.mp q)).2) r
theorem g_icmp_ne (cx : oCx p s m meth c Z own nm code maxL ret) (o : oOn p l e R s m args below meth c Z cells slots T L) {x y : Int32} {off : Int} (hd : decode code pc = .ok (.if_icmp .ne off, 3)) (ho : 0 ≤ (pc : Int) + off) (hp' : ((pc : Int) + off).toNat = pc') (hp : pc + 3 = pc2)
    (ky : ¬ (x = y) → oGo p e below K (T.setTop (mkF m pc' Ls st))) (kn : x = y → oGo p e below K (T.setTop (mkF m pc2 Ls st))) : oGo p e below K (T.setTop (mkF m pc Ls (.int y :: .int x :: st))) := by
  by_cases q : ¬ (x = y)
  · exact (ky q).via fun t r => XS.icmpYes o.here cx.1 rfl rfl (hb cx.2.2.1 hd) rfl (feq q).2 ho hp' r
  · subst hp; exact (kn (Decidable.not_not.mp q)).via fun t r => XS.icmpNo o.here cx.1 rfl (hb cx.2.2.1 hd) rfl (teq (Decidable.not_not.mp q)).2 r
theorem g_if_lt (cx : oCx p s m meth c Z own nm code maxL ret) (o : oOn p l e R s m args below meth c Z cells slots T L) {x : Int32} {off : Int} (hd : decode code pc = .ok (.ifCond .lt off, 3)) (ho : 0 ≤ (pc : Int) + off) (hp' : ((pc : Int) + off).toNat = pc') (hp : pc + 3 = pc2)
    (ky : x < 0 → oGo p e below K (T.setTop (mkF m pc' Ls st))) (kn : ¬ (x < 0) → oGo p e below K (T.setTop (mkF m pc2 Ls st))) : oGo p e below K (T.setTop (mkF m pc Ls (.int x :: st))) := by
  by_cases q : x < 0
  · exact (ky q).via fun t r => XS.ifYes o.here cx.1 rfl rfl (hb cx.2.2.1 hd) rfl ((if0 _ _).trans (tlt q).1) ho hp' r
  · subst hp; exact (kn q).via fun t r => XS.ifNo o.here cx.1 rfl (hb cx.2.2.1 hd) rfl ((if0 _ _).trans (flt q).1) r
theorem g_icmp_lt (cx : oCx p s m meth c Z own nm code maxL ret) (o : oOn p l e R s m args below meth c Z cells slots T L) {x y : Int32} {off : Int} (hd : decode code pc = .ok (.if_icmp .lt off, 3)) (ho : 0 ≤ (pc : Int) + off) (hp' : ((pc : Int) + off).toNat = pc') (hp : pc + 3 = pc2)
    (ky : x < y → oGo p e below K (T.setTop (mkF m pc' Ls st))) (kn : ¬ (x < y) → oGo p e below K (T.setTop (mkF m pc2 Ls st))) : oGo p e below K (T.setTop (mkF m pc Ls (.int y :: .int x :: st))) := by
  by_cases q : x < y
  · exact (ky q).via fun t r => XS.icmpYes o.here cx.1 rfl rfl (hb cx.2.2.1 hd) rfl (tlt q).1 ho hp' r
  · subst hp; exact (kn q).via fun t r => XS.icmpNo o.here cx.1 rfl (hb cx.2.2.1 hd) rfl (flt q).1 r
theorem g_if_ge (cx : oCx p s m meth c Z own nm code maxL ret) (o : oOn p l e R s m args below meth c Z cells slots T L) {x : Int32} {off : Int} (hd : decode code pc = .ok (.ifCond .ge off, 3)) (ho : 0 ≤ (pc : Int) + off) (hp' : ((pc : Int) + off).toNat = pc') (hp : pc + 3 = pc2)
    (ky : ¬ (x < 0) → oGo p e below K (T.setTop (mkF m pc' Ls st))) (kn : x < 0 → oGo p e below K (T.setTop (mkF m pc2 Ls st))) : oGo p e below K (T.setTop (mkF m pc Ls (.int x :: st))) := by
  by_cases q : ¬ (x < 0)
  · exact (ky q).via fun t r => XS.ifYes o.here cx.1 rfl rfl (hb cx.2.2.1 hd) rfl ((if0 _ _).trans (flt q).2.1) ho hp' r
  · subst hp; exact (kn (Decidable.not_not.mp q)).via fun t r => XS.ifNo o.here cx.1 rfl (hb cx.2.2.1 hd) rfl ((if0 _ _).trans (tlt (Decidable.not_not.mp q)).2.1) r
theorem g_icmp_ge (cx : oCx p s m meth c Z own nm code maxL ret) (o : oOn p l e R s m args below meth c Z cells slots T L) {x y : Int32} {off : Int} (hd : decode code pc = .ok (.if_icmp .ge off, 3)) (ho : 0 ≤ (pc : Int) + off) (hp' : ((pc : Int) + off).toNat = pc') (hp : pc + 3 = pc2)
    (ky : ¬ (x < y) → oGo p e below K (T.setTop (mkF m pc' Ls st))) (kn : x < y → oGo p e below K (T.setTop (mkF m pc2 Ls st))) : oGo p e below K (T.setTop (mkF m pc Ls (.int y :: .int x :: st))) := by
  by_cases q : ¬ (x < y)
  · exact (ky q).via fun t r => XS.icmpYes o.here cx.1 rfl rfl (hb cx.2.2.1 hd) rfl (flt q).2.1 ho hp' r
  · subst hp; exact (kn (Decidable.not_not.mp q)).via fun t r => XS.icmpNo o.here cx.1 rfl (hb cx.2.2.1 hd) rfl (tlt (Decidable.not_not.mp q)).2.1 r
theorem g_if_gt (cx : oCx p s m meth c Z own nm code maxL ret) (o : oOn p l e R s m args below meth c Z cells slots T L) {x : Int32} {off : Int} (hd : decode code pc = .ok (.ifCond .gt off, 3)) (ho : 0 ≤ (pc : Int) + off) (hp' : ((pc : Int) + off).toNat = pc') (hp : pc + 3 = pc2)
    (ky : 0 < x → oGo p e below K (T.setTop (mkF m pc' Ls st))) (kn : ¬ (0 < x) → oGo p e below K (T.setTop (mkF m pc2 Ls st))) : oGo p e below K (T.setTop (mkF m pc Ls (.int x :: st))) := by
  by_cases q : 0 < x
  · exact (ky q).via fun t r => XS.ifYes o.here cx.1 rfl rfl (hb cx.2.2.1 hd) rfl ((if0 _ _).trans (tlt q).2.2.1) ho hp' r
  · subst hp; exact (kn q).via fun t r => XS.ifNo o.here cx.1 rfl (hb cx.2.2.1 hd) rfl ((if0 _ _).trans (flt q).2.2.1) r
theorem g_icmp_gt (cx : oCx p s m meth c Z own nm code maxL ret) (o : oOn p l e R s m args below meth c Z cells slots T L) {x y : Int32} {off : Int} (hd : decode code pc = .ok (.if_icmp .gt off, 3)) (ho : 0 ≤ (pc : Int) + off) (hp' : ((pc : Int) + off).toNat = pc') (hp : pc + 3 = pc2)
    (ky : y < x → oGo p e below K (T.setTop (mkF m pc' Ls st))) (kn : ¬ (y < x) → oGo p e below K (T.setTop (mkF m pc2 Ls st))) : oGo p e below K (T.setTop (mkF m pc Ls (.int y :: .int x :: st))) := by
  by_cases q : y < x
  · exact (ky q).via fun t r => XS.icmpYes o.here cx.1 rfl rfl (hb cx.2.2.1 hd) rfl (tlt q).2.2.1 ho hp' r
  · subst hp; exact (kn q).via fun t r => XS.icmpNo o.here cx.1 rfl (hb cx.2.2.1 hd) rfl (flt q).2.2.1 r
theorem g_if_le (cx : oCx p s m meth c Z own nm code maxL ret) (o : oOn p l e R s m args below meth c Z cells slots T L) {x : Int32} {off : Int} (hd : decode code pc = .ok (.ifCond .le off, 3)) (ho : 0 ≤ (pc : Int) + off) (hp' : ((pc : Int) + off).toNat = pc') (hp : pc + 3 = pc2)
    (ky : ¬ (0 < x) → oGo p e below K (T.setTop (mkF m pc' Ls st))) (kn : 0 < x → oGo p e below K (T.setTop (mkF m pc2 Ls st))) : oGo p e below K (T.setTop (mkF m pc Ls (.int x :: st))) := by
  by_cases q : ¬ (0 < x)
  · exact (ky q).via fun t r => XS.ifYes o.here cx.1 rfl rfl (hb cx.2.2.1 hd) rfl ((if0 _ _).trans (flt q).2.2.2) ho hp' r
  · subst hp; exact (kn (Decidable.not_not.mp q)).via fun t r => XS.ifNo o.here cx.1 rfl (hb cx.2.2.1 hd) rfl ((if0 _ _).trans (tlt (Decidable.not_not.mp q)).2.2.2) r
theorem g_icmp_le (cx : oCx p s m meth c Z own nm code maxL ret) (o : oOn p l e R s m args below meth c Z cells slots T L) {x y : Int32} {off : Int} (hd : decode code pc = .ok (.if_icmp .le off, 3)) (ho : 0 ≤ (pc : Int) + off) (hp' : ((pc : Int) + off).toNat = pc') (hp : pc + 3 = pc2)
    (ky : ¬ (y < x) → oGo p e below K (T.setTop (mkF m pc' Ls st))) (kn : y < x → oGo p e below K (T.setTop (mkF m pc2 Ls st))) : oGo p e below K (T.setTop (mkF m pc Ls (.int y :: .int x :: st))) := by
  by_cases q : ¬ (y < x)
  · exact (ky q).via fun t r => XS.icmpYes o.here cx.1 rfl rfl (hb cx.2.2.1 hd) rfl (flt q).2.2.2 ho hp' r
  · subst hp; exact (kn (Decidable.not_not.mp q)).via fun t r => XS.icmpNo o.here cx.1 rfl (hb cx.2.2.1 hd) rfl (tlt (Decidable.not_not.mp q)).2.2.2 r
theorem g_ldc (cx : oCx p s m meth c Z own nm code maxL ret) (o : oOn p l e R s m args below meth c Z cells slots T L) {index : Nat} {z : Int32} (w : (Jvm.Cond.constant own index z).before a0 Z = true) (hd : decode code pc = .ok (.ldc index, 2)) (hp : pc + 2 = pc')
    (kk : oGo p e below K (T.setTop (mkF m pc' Ls (.int z :: st)))) : oGo p e below K (T.setTop (mkF m pc Ls st)) := by
  subst hp; obtain ⟨_, X, -⟩ := o
  exact kk.via fun t q => X.ldcInt cx.1 cx.2.2.2.2.1 (mvT cx.2.1 w) (g := mkF m pc Ls st) rfl (hb cx.2.2.1 hd) t q
theorem g_ldc2L (cx : oCx p s m meth c Z own nm code maxL ret) (o : oOn p l e R s m args below meth c Z cells slots T L) {index : Nat} {z : Int64} (w : (Jvm.Cond.constantLong own index z).before a0 Z = true) (hd : decode code pc = .ok (.ldc2_w index, 3)) (hp : pc + 3 = pc')
    (kk : oGo p e below K (T.setTop (mkF m pc' Ls (.long z :: st)))) : oGo p e below K (T.setTop (mkF m pc Ls st)) := by
  subst hp; obtain ⟨_, X, -⟩ := o
  exact kk.via fun t q => X.ldc2Long cx.1 cx.2.2.2.2.1 (mvT cx.2.1 w) (g := mkF m pc Ls st) rfl (hb cx.2.2.1 hd) t q
theorem g_ldc2D (cx : oCx p s m meth c Z own nm code maxL ret) (o : oOn p l e R s m args below meth c Z cells slots T L) {index : Nat} {z : UInt64} (w : (Jvm.Cond.constantDouble own index z).before a0 Z = true) (hd : decode code pc = .ok (.ldc2_w index, 3)) (hp : pc + 3 = pc')
    (kk : oGo p e below K (T.setTop (mkF m pc' Ls (.double z :: st)))) : oGo p e below K (T.setTop (mkF m pc Ls st)) := by
  subst hp; obtain ⟨_, X, -⟩ := o
  exact kk.via fun t q => X.ldc2DoubleC cx.1 cx.2.2.2.2.1 (mvT cx.2.1 w) (g := mkF m pc Ls st) rfl (hb cx.2.2.1 hd) t q
theorem g_getfield (cx : oCx p s m meth c Z own nm code maxL ret) (o : oOn p l e R s m args below meth c Z cells slots T L) {index : Nat} {C O n d : String} {fs : oFs} (w : (Jvm.Cond.fieldLink own index O n d).before a0 Z = true) (i j : Nat) (hi : L[i]? = some (a, oObj Z a0 C fs)) (hj : fs[j]? = some (O, n, d, v)) (hd : decode code pc = .ok (.getfield index, 3)) (hp : pc + 3 = pc')
    (kk : ∀ T', oOn p l e R s m args below meth c Z cells slots T' L → oGo p e below K (T'.setTop (mkF m pc' Ls (v :: st)))) : oGo p e below K (T.setTop (mkF m pc Ls (.ref a :: st))) := by
  subst hp; obtain ⟨lc, X, N, H⟩ := o
  obtain ⟨-, cl, hc, B⟩ := H.at_ hi
  obtain ⟨T', X', e', stp⟩ := getF X cx.1 cx.2.1 cx.2.2.2.2.1 (host := "") (Or.inl w) Via.refl rfl ((B.2 _ (List.mem_of_getElem? hj)).2.2.fld hc) (g := mkF m pc Ls (.ref a :: st)) rfl rfl (hb cx.2.2.1 hd)
  exact (kk T' ⟨lc, X', N, e' ▸ H⟩).via stp
theorem g_getfieldN (cx : oCx p s m meth c Z own nm code maxL ret) (o : oOn p l e R s m args below meth c Z cells slots T L) {index : Nat} {C O n d host : String} {fs : oFs} (w : (Jvm.Cond.fieldLinkNest own index O n d host).before a0 Z = true) (i j : Nat) (hi : L[i]? = some (a, oObj Z a0 C fs)) (hj : fs[j]? = some (O, n, d, v)) (hd : decode code pc = .ok (.getfield index, 3)) (hp : pc + 3 = pc')
    (kk : ∀ T', oOn p l e R s m args below meth c Z cells slots T' L → oGo p e below K (T'.setTop (mkF m pc' Ls (v :: st)))) : oGo p e below K (T.setTop (mkF m pc Ls (.ref a :: st))) := by
  subst hp; obtain ⟨lc, X, N, H⟩ := o
  obtain ⟨-, cl, hc, B⟩ := H.at_ hi
  obtain ⟨T', X', e', stp⟩ := getF X cx.1 cx.2.1 cx.2.2.2.2.1 (host := host) (Or.inr w) Via.refl rfl ((B.2 _ (List.mem_of_getElem? hj)).2.2.fld hc) (g := mkF m pc Ls (.ref a :: st)) rfl rfl (hb cx.2.2.1 hd)
  exact (kk T' ⟨lc, X', N, e' ▸ H⟩).via stp
theorem g_putfield (cx : oCx p s m meth c Z own nm code maxL ret) (o : oOn p l e R s m args below meth c Z cells slots T L) {index kk0 : Nat} {C O n d : String} {fs : oFs} {old : Value} {ty : FieldType} (w : (Jvm.Cond.fieldLink own index O n d).before a0 Z = true) (wl : (Jvm.Cond.lays C O n d).before a0 Z = true ∨ ((Jvm.Cond.laysFinal C O n d).before a0 Z = true ∧ own = O ∧ nm = "<init>")) (wi : (Jvm.Cond.instantiable C kk0).before a0 Z = true)
    (i j : Nat) (hi : L[i]? = some (a, oObj Z a0 C fs)) (hj : fs[j]? = some (O, n, d, old)) (ns : List String) (hns : fs.map (fun t => t.2.1) = ns) (hnd : ns.Nodup) (hty : parseFieldDescriptor d = some ty) (hn : narrow ty v = v) (hf : fits ty v = true) (hd : decode code pc = .ok (.putfield index, 3)) (hp : pc + 3 = pc')
    (kk : ∀ T', oOn p l e R s m args below meth c Z cells slots T' (L.set i (a, oObj Z a0 C (fs.set j (O, n, d, v)))) → oGo p e below K (T'.setTop (mkF m pc' Ls st))) : oGo p e below K (T.setTop (mkF m pc Ls (v :: .ref a :: st))) := by
  subst hp; obtain ⟨lc, X, N, H⟩ := o
  obtain ⟨q, cl, hc, B⟩ := H.at_ hi
  obtain ⟨T', h', X', e', Wd, stp⟩ := putF X cx.1 cx.2.1 cx.2.2.2.2.1 (host := "") (Or.inl w) Via.refl rfl ((B.2 _ (List.mem_of_getElem? hj)).2.2.fld hc) (B.1.exa hc) (wl.imp id fun z => ⟨z.1, z.2.1, cx.2.2.2.2.2.1.trans z.2.2⟩) wi hty hn hf (g := mkF m pc Ls (v :: .ref a :: st)) rfl rfl (hb cx.2.2.1 hd)
  subst e'
  exact (kk T' ⟨_, X', Fr.snoc X' N q, H.wr hi Wd fun c' hc' => hc'.put hj (hns ▸ hnd)⟩).via stp
theorem g_putfieldN (cx : oCx p s m meth c Z own nm code maxL ret) (o : oOn p l e R s m args below meth c Z cells slots T L) {index kk0 : Nat} {C O n d : String} {fs : oFs} {old v' : Value} {ty : FieldType} (w : (Jvm.Cond.fieldLink own index O n d).before a0 Z = true) (wl : (Jvm.Cond.lays C O n d).before a0 Z = true ∨ ((Jvm.Cond.laysFinal C O n d).before a0 Z = true ∧ own = O ∧ nm = "<init>")) (wi : (Jvm.Cond.instantiable C kk0).before a0 Z = true)
    (i j : Nat) (hi : L[i]? = some (a, oObj Z a0 C fs)) (hj : fs[j]? = some (O, n, d, old)) (ns : List String) (hns : fs.map (fun t => t.2.1) = ns) (hnd : ns.Nodup) (hty : parseFieldDescriptor d = some ty) (hn : narrow ty v = v') (hf : fits ty v' = true) (hd : decode code pc = .ok (.putfield index, 3)) (hp : pc + 3 = pc')
    (kk : ∀ T', oOn p l e R s m args below meth c Z cells slots T' (L.set i (a, oObj Z a0 C (fs.set j (O, n, d, v')))) → oGo p e below K (T'.setTop (mkF m pc' Ls st))) : oGo p e below K (T.setTop (mkF m pc Ls (v :: .ref a :: st))) := by
  subst hp; obtain ⟨lc, X, N, H⟩ := o
  obtain ⟨q, cl, hc, B⟩ := H.at_ hi
  obtain ⟨T', h', X', e', Wd, stp⟩ := putFN X cx.1 cx.2.1 cx.2.2.2.2.1 w Via.refl rfl ((B.2 _ (List.mem_of_getElem? hj)).2.2.fld hc) (B.1.exa hc) (wl.imp id fun z => ⟨z.1, z.2.1, cx.2.2.2.2.2.1.trans z.2.2⟩) wi hty hn hf (g := mkF m pc Ls (v :: .ref a :: st)) rfl rfl (hb cx.2.2.1 hd)
  subst e'
  exact (kk T' ⟨_, X', Fr.snoc X' N q, H.wr hi Wd fun c' hc' => hc'.put hj (hns ▸ hnd)⟩).via stp
theorem g_new (cx : oCx p s m meth c Z own nm code maxL ret) (o : oOn p l e R s m args below meth c Z cells slots T L) {index n : Nat} {C : String} {fs : oFs} (w : (Jvm.Cond.classLink own index C).before a0 Z = true) (wi : (Jvm.Cond.instantiable C n).before a0 Z = true) (wz : (Jvm.Cond.initialized C).before a0 Z = true) (hfs : ∀ t ∈ fs, Laid Z a0 C t.1 t.2.1 t.2.2.1 ∧ ∃ ty, parseFieldDescriptor t.2.2.1 = some ty ∧ defaultValue ty = t.2.2.2)
    (hc : cells + 1 ≤ R.cells) (hl : slots + n ≤ R.slots) (hd : decode code pc = .ok (.new index, 3)) (hp : pc + 3 = pc')
    (kk : ∀ T' b, oOn p l e R s m args below meth c Z (cells + 1) (slots + n) T' ((b, oObj Z a0 C fs) :: L) → oGo p e below K (T'.setTop (mkF m pc' Ls (.ref b :: st)))) : oGo p e below K (T.setTop (mkF m pc Ls st)) := by
  subst hp; obtain ⟨lc, X, N, H⟩ := o
  obtain ⟨T', h', X', e', E, A, D, ⟨cl, hcl, -, -⟩, stp⟩ := newO X cx.1 cx.2.1 cx.2.2.2.2.1 w wi wz rfl (g := mkF m pc Ls st) rfl (hb cx.2.2.1 hd) hc hl
  subst e'
  refine (kk T' _ ⟨_, X', N, H.new E hcl ⟨oExa.of A hcl, fun t ht => ?_⟩⟩).via stp
  obtain ⟨h1, ty, h2, h3⟩ := hfs t ht
  exact ⟨h1, ⟨ty, h2⟩, h3 ▸ oFld.of (D h1 h2) hcl⟩
theorem g_initO (cx : oCx p s m meth c Z own nm code maxL ret) (o : oOn p l e R s m args below meth c Z cells slots T L) {index : Nat} (w1 : (Jvm.Cond.methodLink own index Lib.objectInit).before a0 Z = true) (w2 : (Jvm.Cond.instanceMethod Lib.objectInit).before a0 Z = true) (w3 : (Jvm.Cond.code Lib.objectInit object_method_1_code 1 none).before a0 Z = true)
    (hsz : Ls.size = maxL) (W : Nat) (hW : (st.map fun v => v.category).sum ≤ W) (hf : 1 ≤ R.frames) (hl : W + 12 ≤ R.locals) (hd : decode code pc = .ok (.invokespecial index, 3)) (hp : pc + 3 = pc')
    (kk : ∀ T', oOn p l e R s m args below meth c Z cells slots T' L → oGo p e below K (T'.setTop (mkF m pc' Ls st))) : oGo p e below K (T.setTop (mkF m pc Ls (.ref a :: st))) := by
  subst hp; obtain ⟨lc, X, N, H⟩ := o
  obtain ⟨T', X', e', stp⟩ := initO X cx.1 cx.2.1 cx.2.2.2.2.1 w1 w2 w3 rfl (g := mkF m pc Ls (.ref a :: st)) rfl (hsz.trans cx.2.2.2.1.symm) rfl (hb cx.2.2.1 hd) hf (W := W) (by show 2 * 0 + _ ≤ _; omega) hl
  exact (kk T' ⟨lc, X', N, e' ▸ H⟩).via stp
theorem g_newarray (cx : oCx p s m meth c Z own nm code maxL ret) (o : oOn p l e R s m args below meth c Z cells slots T L) {aty : ArrayType} {x : Int32} {ty : FieldType} {vs : List Value} (w : (Jvm.Cond.arrayClass ty).before a0 Z = true) (hty : newarray.typeOf aty = ty) (k cap : Nat) (hk : x = Int32.ofNat k) (hvs : List.replicate k (defaultValue ty) = vs) (hcap : k ≤ cap) (hcb : cap * 8 ≤ 536870912) (hc : cells + 1 ≤ R.cells) (hl : slots + cap ≤ R.slots) (hd : decode code pc = .ok (.newarray aty, 2)) (hp : pc + 2 = pc')
    (kk : ∀ T' b, oOn p l e R s m args below meth c Z (cells + 1) (slots + cap) T' ((b, oArr Z ty vs) :: L) → oGo p e below K (T'.setTop (mkF m pc' Ls (.ref b :: st)))) : oGo p e below K (T.setTop (mkF m pc Ls (.int x :: st))) := by
  subst hp hk hty hvs; obtain ⟨lc, X, N, H⟩ := o
  have hk2 : k < 2 ^ 31 := by omega
  obtain ⟨q1, q2⟩ := o_clamp hk2
  obtain ⟨T', h', cA, X', e', E, A, stp⟩ := newP X cx.1 cx.2.1 w rfl (g := mkF m pc Ls (.int (Int32.ofNat k) :: st)) rfl (hb cx.2.2.1 hd) rfl q2 (cap := cap) (by rw [q1]; exact hcap) hcb hc hl
  subst e'
  refine (kk T' _ ⟨_, X', N, H.new E A.1 ⟨A.2.1, A.2.2, ?_, by simpa using hk2, fun u hu => ?_⟩⟩).via stp
  · show (Array.replicate (Int32.ofNat k).toNatClampNeg (defaultValue (newarray.typeOf aty))).toList = _; rw [q1, Array.toList_replicate]
  · rw [(List.mem_replicate.mp hu).2]; cases aty <;> rfl
theorem g_arraylength (cx : oCx p s m meth c Z own nm code maxL ret) (o : oOn p l e R s m args below meth c Z cells slots T L) {ty : FieldType} (i : Nat) (z : Int32) (hi : L[i]? = some (a, oArr Z ty vs)) (hz : Int32.ofNat vs.length = z) (hd : decode code pc = .ok (.arraylength, 1)) (hp : pc + 1 = pc')
    (kk : oGo p e below K (T.setTop (mkF m pc' Ls (.int z :: st)))) : oGo p e below K (T.setTop (mkF m pc Ls (.ref a :: st))) := by
  subst hp hz; obtain ⟨lc, X, N, H⟩ := o
  obtain ⟨-, cl, hc, B⟩ := H.at_ hi
  refine kk.via fun t q => X.arraylength cx.1 hc (State.isArrayOf_alike cx.2.1.alike B.1) (g := mkF m pc Ls (.ref a :: st)) rfl rfl (hb cx.2.2.1 hd) t ?_
  rw [B.size]; exact q
theorem g_getfieldO (cx : oCx p s m meth c Z own nm code maxL ret) (o : oOn p l e R s m args below meth c Z cells slots T L) {index : Nat} {O n d : String} (w : (Jvm.Cond.fieldLink own index O n d).before a0 Z = true) (F : Fld Z Z.heap a O n d v) (hd : decode code pc = .ok (.getfield index, 3)) (hp : pc + 3 = pc')
    (kk : ∀ T', oOn p l e R s m args below meth c Z cells slots T' L → oGo p e below K (T'.setTop (mkF m pc' Ls (v :: st)))) : oGo p e below K (T.setTop (mkF m pc Ls (.ref a :: st))) := by
  subst hp; obtain ⟨lc, X, N, H⟩ := o
  obtain ⟨T', X', e', stp⟩ := getF X cx.1 cx.2.1 cx.2.2.2.2.1 (host := "") (Or.inl w) Via.refl rfl (F.ext H.1) (g := mkF m pc Ls (.ref a :: st)) rfl rfl (hb cx.2.2.1 hd)
  exact (kk T' ⟨lc, X', N, e' ▸ H⟩).via stp
/-- an array of references to C's objects, with just these components -/
def oArrR (Z : State) (C : String) (vs : List Value) (cell : Cell) : Prop := oArr Z (.object C) vs cell ∧ Ovr Z cell.cls C
theorem oOn.lenR {C : String} (o : oOn p l e R s m args below meth c Z cells slots T L) (hi : L[i]? = some (a, oArrR Z C vs)) : vs.length < 2 ^ 31 := by
  obtain ⟨lc, X, N, H⟩ := o
  obtain ⟨-, cl, -, A⟩ := H.at_ hi
  exact A.1.2.2.2.1
theorem g_anewarray (cx : oCx p s m meth c Z own nm code maxL ret) (o : oOn p l e R s m args below meth c Z cells slots T L) {x : Int32} {index : Nat} {C : String} {vs : List Value} (w1 : (Jvm.Cond.classLink own index C).before a0 Z = true) (w2 : (Jvm.Cond.arrayOver (.object C)).before a0 Z = true) (k cap : Nat) (hk : x = Int32.ofNat k) (hvs : List.replicate k .null = vs) (hcap : k ≤ cap) (hcb : cap * 8 ≤ 536870912) (hc : cells + 1 ≤ R.cells) (hl : slots + cap ≤ R.slots) (hd : decode code pc = .ok (.anewarray index, 3)) (hp : pc + 3 = pc')
    (kk : ∀ T' b, oOn p l e R s m args below meth c Z (cells + 1) (slots + cap) T' ((b, oArrR Z C vs) :: L) → oGo p e below K (T'.setTop (mkF m pc' Ls (.ref b :: st)))) : oGo p e below K (T.setTop (mkF m pc Ls (.int x :: st))) := by
  subst hp hk hvs; obtain ⟨lc, X, N, H⟩ := o
  have hk2 : k < 2 ^ 31 := by omega
  obtain ⟨q1, q2⟩ := o_clamp hk2
  obtain ⟨T', h', cA, X', e', E, A, O, stp⟩ := newR X cx.1 cx.2.1 cx.2.2.2.2.1 w1 w2 rfl (g := mkF m pc Ls (.int (Int32.ofNat k) :: st)) rfl (hb cx.2.2.1 hd) rfl q2 (cap := cap) (by rw [q1]; exact hcap) hcb hc hl
  subst e'
  refine (kk T' _ ⟨_, X', N, H.new E A.1 ⟨⟨A.2.1, A.2.2, ?_, by simpa using hk2, fun u hu => ?_⟩, O⟩⟩).via stp
  · show (Array.replicate (Int32.ofNat k).toNatClampNeg Value.null).toList = _; rw [q1, Array.toList_replicate]
  · rw [(List.mem_replicate.mp hu).2]; rfl
theorem g_aastoreO (cx : oCx p s m meth c Z own nm code maxL ret) (o : oOn p l e R s m args below meth c Z cells slots T L) {x : Int32} {C : String} {y : Addr} (i k : Nat) (hi : L[i]? = some (a, oArrR Z C vs)) (hk : x = Int32.ofNat k) (hlt : k < vs.length) (I : Ins Z Z.heap y C true) (hd : decode code pc = .ok (.aastore, 1)) (hp : pc + 1 = pc')
    (kk : ∀ T', oOn p l e R s m args below meth c Z cells slots T' (L.set i (a, oArrR Z C (vs.set k (.ref y)))) → oGo p e below K (T'.setTop (mkF m pc' Ls st))) : oGo p e below K (T.setTop (mkF m pc Ls (.ref y :: .int x :: .ref a :: st))) := by
  subst hp; obtain ⟨lc, X, N, H⟩ := o
  obtain ⟨q0, cl, hc, B⟩ := H.at_ hi
  obtain ⟨q1, q2⟩ := B.1.inb hk hlt
  obtain ⟨T', h', X', e', Wd, stp⟩ := stR X cx.1 cx.2.1 rfl (B.1.arr hc) q2 rfl (Sto.of (B.1.arr hc) B.2 (I.ext H.1)) (g := mkF m pc Ls (.ref y :: .int x :: .ref a :: st)) rfl rfl (hb cx.2.2.1 hd)
  subst e'
  rw [q1] at Wd X'
  exact (kk T' ⟨_, X', Fr.snoc X' N q0, H.wr hi Wd fun c' hc' => ⟨hc'.1.put rfl, hc'.2⟩⟩).via stp
theorem g_aaloadR (cx : oCx p s m meth c Z own nm code maxL ret) (o : oOn p l e R s m args below meth c Z cells slots T L) {x : Int32} {C : String} (i k : Nat) (hi : L[i]? = some (a, oArrR Z C vs)) (hk : x = Int32.ofNat k) (hv : vs[k]? = some v) (hd : decode code pc = .ok (.aaload, 1)) (hp : pc + 1 = pc')
    (kk : oGo p e below K (T.setTop (mkF m pc' Ls (v :: st)))) : oGo p e below K (T.setTop (mkF m pc Ls (.int x :: .ref a :: st))) := by
  subst hp; obtain ⟨lc, X, N, H⟩ := o
  obtain ⟨-, cl, hc, B⟩ := H.at_ hi
  obtain ⟨q1, q2⟩ := B.1.inb hk (List.getElem?_eq_some_iff.mp hv).1
  exact kk.via fun t q => X.aaload cx.1 hc (State.isArrayOf_alike cx.2.1.alike B.1.1) rfl B.1.2.1 q2 (by rw [q1]; exact B.1.get hv) (g := mkF m pc Ls (.int x :: .ref a :: st)) rfl rfl (hb cx.2.2.1 hd) t q
theorem g_acmp_ne (cx : oCx p s m meth c Z own nm code maxL ret) (o : oOn p l e R s m args below meth c Z cells slots T L) {x y : Value} {off : Int} (hx : x.isRef = true) (hy : y.isRef = true) (hd : decode code pc = .ok (.if_acmp .ne off, 3)) (ho : 0 ≤ (pc : Int) + off) (hp' : ((pc : Int) + off).toNat = pc') (hp : pc + 3 = pc2)
    (ky : ¬ x = y → oGo p e below K (T.setTop (mkF m pc' Ls st))) (kn : x = y → oGo p e below K (T.setTop (mkF m pc2 Ls st))) : oGo p e below K (T.setTop (mkF m pc Ls (y :: x :: st))) := by
  by_cases q : x = y
  · subst hp; exact (kn q).via fun t r => XT.acmpNo o.here cx.1 rfl (hb cx.2.2.1 hd) rfl hx hy (show decide (x ≠ y) = false from decide_eq_false fun z => z q) r
  · exact (ky q).via fun t r => XT.acmpYes o.here cx.1 rfl rfl (hb cx.2.2.1 hd) rfl hx hy (show decide (x ≠ y) = true from decide_eq_true q) ho hp' r
theorem g_acmp_eq (cx : oCx p s m meth c Z own nm code maxL ret) (o : oOn p l e R s m args below meth c Z cells slots T L) {x y : Value} {off : Int} (hx : x.isRef = true) (hy : y.isRef = true) (hd : decode code pc = .ok (.if_acmp .eq off, 3)) (ho : 0 ≤ (pc : Int) + off) (hp' : ((pc : Int) + off).toNat = pc') (hp : pc + 3 = pc2)
    (ky : x = y → oGo p e below K (T.setTop (mkF m pc' Ls st))) (kn : ¬ x = y → oGo p e below K (T.setTop (mkF m pc2 Ls st))) : oGo p e below K (T.setTop (mkF m pc Ls (y :: x :: st))) := by
  by_cases q : x = y
  · exact (ky q).via fun t r => XT.acmpYes o.here cx.1 rfl rfl (hb cx.2.2.1 hd) rfl hx hy (show decide (x = y) = true from decide_eq_true q) ho hp' r
  · subst hp; exact (kn q).via fun t r => XT.acmpNo o.here cx.1 rfl (hb cx.2.2.1 hd) rfl hx hy (show decide (x = y) = false from decide_eq_false q) r
theorem g_ifnull0 (cx : oCx p s m meth c Z own nm code maxL ret) (o : oOn p l e R s m args below meth c Z cells slots T L) {off : Int} (hd : decode code pc = .ok (.ifnull off, 3)) (ho : 0 ≤ (pc : Int) + off) (hp' : ((pc : Int) + off).toNat = pc')
    (kk : oGo p e below K (T.setTop (mkF m pc' Ls st))) : oGo p e below K (T.setTop (mkF m pc Ls (.null :: st))) := kk.via fun t r => XS.ifnullYes o.here cx.1 rfl rfl (hb cx.2.2.1 hd) rfl ho hp' r
theorem g_ifnull1 (cx : oCx p s m meth c Z own nm code maxL ret) (o : oOn p l e R s m args below meth c Z cells slots T L) {off : Int} {b : Addr} (hd : decode code pc = .ok (.ifnull off, 3)) (hp : pc + 3 = pc')
    (kk : oGo p e below K (T.setTop (mkF m pc' Ls st))) : oGo p e below K (T.setTop (mkF m pc Ls (.ref b :: st))) := by subst hp; exact kk.via fun t r => XS.ifnullNo o.here cx.1 rfl (hb cx.2.2.1 hd) rfl r
theorem g_ifnonnull1 (cx : oCx p s m meth c Z own nm code maxL ret) (o : oOn p l e R s m args below meth c Z cells slots T L) {off : Int} {b : Addr} (hd : decode code pc = .ok (.ifnonnull off, 3)) (ho : 0 ≤ (pc : Int) + off) (hp' : ((pc : Int) + off).toNat = pc')
    (kk : oGo p e below K (T.setTop (mkF m pc' Ls st))) : oGo p e below K (T.setTop (mkF m pc Ls (.ref b :: st))) := kk.via fun t r => XT.ifnonnullYes o.here cx.1 rfl rfl (hb cx.2.2.1 hd) rfl ho hp' r
theorem g_ifnonnull0 (cx : oCx p s m meth c Z own nm code maxL ret) (o : oOn p l e R s m args below meth c Z cells slots T L) {off : Int} (hd : decode code pc = .ok (.ifnonnull off, 3)) (hp : pc + 3 = pc')
    (kk : oGo p e below K (T.setTop (mkF m pc' Ls st))) : oGo p e below K (T.setTop (mkF m pc Ls (.null :: st))) := by subst hp; exact kk.via fun t r => XT.ifnonnullNo o.here cx.1 rfl (hb cx.2.2.1 hd) rfl r
theorem g_getstatic (cx : oCx p s m meth c Z own nm code maxL ret) (o : oOn p l e R s m args below meth c Z cells slots T L) {index : Nat} {O n d : String} (w : (Jvm.Cond.fieldLink own index O n d).before a0 Z = true) (hS : Sta Z Z.heap O n d v) (hd : decode code pc = .ok (.getstatic index, 3)) (hp : pc + 3 = pc')
    (kk : ∀ T', oOn p l e R s m args below meth c Z cells slots T' L → oGo p e below K (T'.setTop (mkF m pc' Ls (v :: st)))) : oGo p e below K (T.setTop (mkF m pc Ls st)) := by
  subst hp; obtain ⟨lc, X, N, H⟩ := o
  obtain ⟨T', X', e', stp⟩ := getS (host := "") X cx.1 cx.2.1 cx.2.2.2.2.1 w Via.refl rfl (hS.ext H.1) (g := mkF m pc Ls st) rfl (hb cx.2.2.1 hd)
  exact (kk T' ⟨lc, X', N, e' ▸ H⟩).via stp
theorem g_iaload (cx : oCx p s m meth c Z own nm code maxL ret) (o : oOn p l e R s m args below meth c Z cells slots T L) {x : Int32} (i k : Nat) (hi : L[i]? = some (a, oArr Z .int vs)) (hk : x = Int32.ofNat k) (hv : vs[k]? = some v) (hd : decode code pc = .ok (.iaload, 1)) (hp : pc + 1 = pc')
    (kk : oGo p e below K (T.setTop (mkF m pc' Ls (v :: st)))) : oGo p e below K (T.setTop (mkF m pc Ls (.int x :: .ref a :: st))) := by
  subst hp; obtain ⟨lc, X, N, H⟩ := o
  obtain ⟨-, cl, hc, B⟩ := H.at_ hi
  obtain ⟨q1, q2⟩ := B.inb hk (List.getElem?_eq_some_iff.mp hv).1
  exact kk.via fun t q => X.iaload cx.1 hc (State.isArrayOf_alike cx.2.1.alike B.1) B.2.1 q2 (by rw [q1]; exact B.get hv) (g := mkF m pc Ls (.int x :: .ref a :: st)) rfl rfl (hb cx.2.2.1 hd) t q
theorem g_laload (cx : oCx p s m meth c Z own nm code maxL ret) (o : oOn p l e R s m args below meth c Z cells slots T L) {x : Int32} (i k : Nat) (hi : L[i]? = some (a, oArr Z .long vs)) (hk : x = Int32.ofNat k) (hv : vs[k]? = some v) (hd : decode code pc = .ok (.laload, 1)) (hp : pc + 1 = pc')
    (kk : oGo p e below K (T.setTop (mkF m pc' Ls (v :: st)))) : oGo p e below K (T.setTop (mkF m pc Ls (.int x :: .ref a :: st))) := by
  subst hp; obtain ⟨lc, X, N, H⟩ := o
  obtain ⟨-, cl, hc, B⟩ := H.at_ hi
  obtain ⟨q1, q2⟩ := B.inb hk (List.getElem?_eq_some_iff.mp hv).1
  exact kk.via fun t q => X.laload cx.1 hc (State.isArrayOf_alike cx.2.1.alike B.1) B.2.1 q2 (by rw [q1]; exact B.get hv) (g := mkF m pc Ls (.int x :: .ref a :: st)) rfl rfl (hb cx.2.2.1 hd) t q
theorem g_daload (cx : oCx p s m meth c Z own nm code maxL ret) (o : oOn p l e R s m args below meth c Z cells slots T L) {x : Int32} (i k : Nat) (hi : L[i]? = some (a, oArr Z .double vs)) (hk : x = Int32.ofNat k) (hv : vs[k]? = some v) (hd : decode code pc = .ok (.daload, 1)) (hp : pc + 1 = pc')
    (kk : oGo p e below K (T.setTop (mkF m pc' Ls (v :: st)))) : oGo p e below K (T.setTop (mkF m pc Ls (.int x :: .ref a :: st))) := by
  subst hp; obtain ⟨lc, X, N, H⟩ := o
  obtain ⟨-, cl, hc, B⟩ := H.at_ hi
  obtain ⟨q1, q2⟩ := B.inb hk (List.getElem?_eq_some_iff.mp hv).1
  exact kk.via fun t q => X.daload cx.1 hc (State.isArrayOf_alike cx.2.1.alike B.1) B.2.1 q2 (by rw [q1]; exact B.get hv) (g := mkF m pc Ls (.int x :: .ref a :: st)) rfl rfl (hb cx.2.2.1 hd) t q
theorem g_zaload (cx : oCx p s m meth c Z own nm code maxL ret) (o : oOn p l e R s m args below meth c Z cells slots T L) {x : Int32} (i k : Nat) (hi : L[i]? = some (a, oArr Z .boolean vs)) (hk : x = Int32.ofNat k) (hv : vs[k]? = some v) (hd : decode code pc = .ok (.baload, 1)) (hp : pc + 1 = pc')
    (kk : oGo p e below K (T.setTop (mkF m pc' Ls (v :: st)))) : oGo p e below K (T.setTop (mkF m pc Ls (.int x :: .ref a :: st))) := by
  subst hp; obtain ⟨lc, X, N, H⟩ := o
  obtain ⟨-, cl, hc, B⟩ := H.at_ hi
  obtain ⟨q1, q2⟩ := B.inb hk (List.getElem?_eq_some_iff.mp hv).1
  exact kk.via fun t q => X.baloadBooleans cx.1 hc (State.isArrayOf_alike cx.2.1.alike B.1) B.2.1 q2 (by rw [q1]; exact B.get hv) (g := mkF m pc Ls (.int x :: .ref a :: st)) rfl rfl (hb cx.2.2.1 hd) t q
theorem g_aaload (cx : oCx p s m meth c Z own nm code maxL ret) (o : oOn p l e R s m args below meth c Z cells slots T L) {x : Int32} {ty : FieldType} (hty : ty.isReference = true) (i k : Nat) (hi : L[i]? = some (a, oArr Z ty vs)) (hk : x = Int32.ofNat k) (hv : vs[k]? = some v) (hd : decode code pc = .ok (.aaload, 1)) (hp : pc + 1 = pc')
    (kk : oGo p e below K (T.setTop (mkF m pc' Ls (v :: st)))) : oGo p e below K (T.setTop (mkF m pc Ls (.int x :: .ref a :: st))) := by
  subst hp; obtain ⟨lc, X, N, H⟩ := o
  obtain ⟨-, cl, hc, B⟩ := H.at_ hi
  obtain ⟨q1, q2⟩ := B.inb hk (List.getElem?_eq_some_iff.mp hv).1
  exact kk.via fun t q => X.aaload cx.1 hc (State.isArrayOf_alike cx.2.1.alike B.1) hty B.2.1 q2 (by rw [q1]; exact B.get hv) (g := mkF m pc Ls (.int x :: .ref a :: st)) rfl rfl (hb cx.2.2.1 hd) t q
theorem g_iastore (cx : oCx p s m meth c Z own nm code maxL ret) (o : oOn p l e R s m args below meth c Z cells slots T L) {x : Int32} {y : Int32} (i k : Nat) (hi : L[i]? = some (a, oArr Z .int vs)) (hk : x = Int32.ofNat k) (hlt : k < vs.length) (hd : decode code pc = .ok (.iastore, 1)) (hp : pc + 1 = pc')
    (kk : ∀ T', oOn p l e R s m args below meth c Z cells slots T' (L.set i (a, oArr Z .int (vs.set k (.int y)))) → oGo p e below K (T'.setTop (mkF m pc' Ls st))) : oGo p e below K (T.setTop (mkF m pc Ls (.int y :: .int x :: .ref a :: st))) := by
  subst hp; obtain ⟨lc, X, N, H⟩ := o
  obtain ⟨q0, cl, hc, B⟩ := H.at_ hi
  obtain ⟨q1, q2⟩ := B.inb hk hlt
  obtain ⟨T', h', X', e', Wd, stp⟩ := stI X cx.1 cx.2.1 rfl (B.arr hc) q2 (g := mkF m pc Ls (.int y :: .int x :: .ref a :: st)) rfl rfl (hb cx.2.2.1 hd)
  subst e'
  rw [q1] at Wd X'
  exact (kk T' ⟨_, X', Fr.snoc X' N q0, H.wr hi Wd fun c' hc' => hc'.put rfl⟩).via stp
theorem g_lastore (cx : oCx p s m meth c Z own nm code maxL ret) (o : oOn p l e R s m args below meth c Z cells slots T L) {x : Int32} {y : Int64} (i k : Nat) (hi : L[i]? = some (a, oArr Z .long vs)) (hk : x = Int32.ofNat k) (hlt : k < vs.length) (hd : decode code pc = .ok (.lastore, 1)) (hp : pc + 1 = pc')
    (kk : ∀ T', oOn p l e R s m args below meth c Z cells slots T' (L.set i (a, oArr Z .long (vs.set k (.long y)))) → oGo p e below K (T'.setTop (mkF m pc' Ls st))) : oGo p e below K (T.setTop (mkF m pc Ls (.long y :: .int x :: .ref a :: st))) := by
  subst hp; obtain ⟨lc, X, N, H⟩ := o
  obtain ⟨q0, cl, hc, B⟩ := H.at_ hi
  obtain ⟨q1, q2⟩ := B.inb hk hlt
  obtain ⟨T', h', X', e', Wd, stp⟩ := stJ X cx.1 cx.2.1 rfl (B.arr hc) q2 (g := mkF m pc Ls (.long y :: .int x :: .ref a :: st)) rfl rfl (hb cx.2.2.1 hd)
  subst e'
  rw [q1] at Wd X'
  exact (kk T' ⟨_, X', Fr.snoc X' N q0, H.wr hi Wd fun c' hc' => hc'.put rfl⟩).via stp
theorem g_dastore (cx : oCx p s m meth c Z own nm code maxL ret) (o : oOn p l e R s m args below meth c Z cells slots T L) {x : Int32} {y : UInt64} (i k : Nat) (hi : L[i]? = some (a, oArr Z .double vs)) (hk : x = Int32.ofNat k) (hlt : k < vs.length) (hd : decode code pc = .ok (.dastore, 1)) (hp : pc + 1 = pc')
    (kk : ∀ T', oOn p l e R s m args below meth c Z cells slots T' (L.set i (a, oArr Z .double (vs.set k (.double y)))) → oGo p e below K (T'.setTop (mkF m pc' Ls st))) : oGo p e below K (T.setTop (mkF m pc Ls (.double y :: .int x :: .ref a :: st))) := by
  subst hp; obtain ⟨lc, X, N, H⟩ := o
  obtain ⟨q0, cl, hc, B⟩ := H.at_ hi
  obtain ⟨q1, q2⟩ := B.inb hk hlt
  obtain ⟨T', h', X', e', Wd, stp⟩ := stD X cx.1 cx.2.1 rfl (B.arr hc) q2 (g := mkF m pc Ls (.double y :: .int x :: .ref a :: st)) rfl rfl (hb cx.2.2.1 hd)
  subst e'
  rw [q1] at Wd X'
  exact (kk T' ⟨_, X', Fr.snoc X' N q0, H.wr hi Wd fun c' hc' => hc'.put rfl⟩).via stp
theorem g_zastore (cx : oCx p s m meth c Z own nm code maxL ret) (o : oOn p l e R s m args below meth c Z cells slots T L) {x : Int32} {y : Int32} (i k : Nat) (hi : L[i]? = some (a, oArr Z .boolean vs)) (hk : x = Int32.ofNat k) (hlt : k < vs.length) (hd : decode code pc = .ok (.bastore, 1)) (hp : pc + 1 = pc')
    (kk : ∀ T', oOn p l e R s m args below meth c Z cells slots T' (L.set i (a, oArr Z .boolean (vs.set k (.int (nar .boolean y))))) → oGo p e below K (T'.setTop (mkF m pc' Ls st))) : oGo p e below K (T.setTop (mkF m pc Ls (.int y :: .int x :: .ref a :: st))) := by
  subst hp; obtain ⟨lc, X, N, H⟩ := o
  obtain ⟨q0, cl, hc, B⟩ := H.at_ hi
  obtain ⟨q1, q2⟩ := B.inb hk hlt
  obtain ⟨T', h', X', e', Wd, stp⟩ := stZ X cx.1 cx.2.1 rfl (B.arr hc) q2 (g := mkF m pc Ls (.int y :: .int x :: .ref a :: st)) rfl rfl (hb cx.2.2.1 hd)
  subst e'
  rw [q1] at Wd X'
  exact (kk T' ⟨_, X', Fr.snoc X' N q0, H.wr hi Wd fun c' hc' => hc'.put (fits_nar_bool y)⟩).via stp
theorem g_static (cx : oCx p s m meth c Z own nm code maxL ret) (o : oOn p l e R s m args below meth c Z cells slots T L) {index : Nat} {y : MethodName} {code' : ByteArray} {maxL' : Nat} {ret' : Option FieldType} {rm : Room} {Q : Option Value → List oEnt → Prop} {as : List Value} (w1 : (Jvm.Cond.methodLink own index y).before a0 Z = true) (w2 : (Jvm.Cond.static y).before a0 Z = true) (w3 : (Jvm.Cond.initialized y.cls).before a0 Z = true) (w4 : (Jvm.Cond.code y code' maxL' ret').before a0 Z = true)
    (hM : oMeets l Z y code' maxL' ret' rm as L Q) {st0 rest : List Value} (hst : st0 = as.reverse ++ rest) {ps : List FieldType} {rr : Option FieldType} (pd : parseMethodDescriptor y.desc = some ⟨ps, rr⟩) (hln : as.length = ps.length) (hy : y.cls ≠ "java/lang/invoke/MethodHandle" ∧ y.cls ≠ "java/lang/invoke/VarHandle")
    (hsz : Ls.size = maxL) (W : Nat) (hW : (rest.map fun v => v.category).sum ≤ W) (hf : rm.frames + 1 ≤ R.frames) (hl : W + (maxL' + 11) + rm.locals ≤ R.locals) (hc : cells + rm.cells ≤ R.cells) (hs : slots + rm.slots ≤ R.slots) (hd : decode code pc = .ok (.invokestatic index, 3)) (hp : pc + 3 = pc')
    (kk : ∀ T' v L', Q v L' → oOn p l e R s m args below meth c Z (cells + rm.cells) (slots + rm.slots) T' L' → oGo p e below K (T'.setTop (mkF m pc' Ls (v.toList ++ rest)))) : oGo p e below K (T.setTop (mkF m pc Ls st0)) := by
  subst hp hst; obtain ⟨lc, X, N, H⟩ := o
  obtain ⟨v, _, ⟨T', lc', k', n'⟩, -, X', ⟨Lc, hQ, l', y', z'⟩, stp⟩ := Jvm.LawKit.callS X cx.1 (y := y) cx.2.2.2.2.1 (mvT cx.2.1 w1) (mvT cx.2.1 w2) (mvT cx.2.1 w3) (mvT cx.2.1 w4) hy (backOf (W := W) (Q := fun v hp Lc => Fr Z.heap.size Lc ∧ ∃ L', oHp Z hp L' ∧ Q v L') (hM [] T.heap H) cx.2.1 w4 w3 hf hl) (g := mkF m pc Ls (as.reverse ++ rest)) rfl (hsz.trans cx.2.2.2.1.symm) (argsL := as) (rest := rest) (lenOf pd hln) rfl (by show 2 * 0 + _ ≤ _; omega) (hb cx.2.2.1 hd) (fun _ _ => ⟨rfl, rfl, hc, hs⟩)
  dsimp only [Pt.U, Pt.locs, Pt.cells, Pt.slots] at X' l' y' z' stp hQ
  subst l' y' z'
  obtain ⟨N', L', H', q⟩ := hQ
  exact (kk T' v L' q ⟨_, X', Fr.app N N', H'⟩).via stp
theorem g_special (cx : oCx p s m meth c Z own nm code maxL ret) (o : oOn p l e R s m args below meth c Z cells slots T L) {index : Nat} {y : MethodName} {code' : ByteArray} {maxL' : Nat} {rm : Room} {Q : Option Value → List oEnt → Prop} {as : List Value} (hy1 : y.name = "<init>") (w1 : (Jvm.Cond.methodLink own index y).before a0 Z = true) (w2 : (Jvm.Cond.instanceMethod y).before a0 Z = true) (w3 : (Jvm.Cond.initialized y.cls).before a0 Z = true) (w4 : (Jvm.Cond.code y code' maxL' none).before a0 Z = true)
    (hM : oMeets l Z y code' maxL' none rm (.ref a :: as) L Q) {st0 rest : List Value} (hst : st0 = as.reverse ++ .ref a :: rest) {ps : List FieldType} {rr : Option FieldType} (pd : parseMethodDescriptor y.desc = some ⟨ps, rr⟩) (hln : as.length = ps.length) (hy : y.cls ≠ "java/lang/invoke/MethodHandle" ∧ y.cls ≠ "java/lang/invoke/VarHandle")
    (hsz : Ls.size = maxL) (W : Nat) (hW : (rest.map fun v => v.category).sum ≤ W) (hf : rm.frames + 1 ≤ R.frames) (hl : W + (maxL' + 11) + rm.locals ≤ R.locals) (hc : cells + rm.cells ≤ R.cells) (hs : slots + rm.slots ≤ R.slots) (hd : decode code pc = .ok (.invokespecial index, 3)) (hp : pc + 3 = pc')
    (kk : ∀ T' v L', Q v L' → oOn p l e R s m args below meth c Z (cells + rm.cells) (slots + rm.slots) T' L' → oGo p e below K (T'.setTop (mkF m pc' Ls (v.toList ++ rest)))) : oGo p e below K (T.setTop (mkF m pc Ls st0)) := by
  subst hp hst; obtain ⟨lc, X, N, H⟩ := o
  obtain ⟨v, _, ⟨T', lc', k', n'⟩, -, X', ⟨Lc, hQ, l', y', z'⟩, stp⟩ := X.specialBack cx.1 (y := y) hy1 cx.2.2.2.2.1 (mvT cx.2.1 w1) (mvT cx.2.1 w2) (mvT cx.2.1 w4) hy (backOf (W := W) (Q := fun v hp Lc => Fr Z.heap.size Lc ∧ ∃ L', oHp Z hp L' ∧ Q v L') (hM [] T.heap H) cx.2.1 w4 w3 hf hl) (g := mkF m pc Ls (as.reverse ++ .ref a :: rest)) rfl (hsz.trans cx.2.2.2.1.symm) (Steps.refl _) (a := a) (argsL := as) (rest := rest) (lenOf pd hln) rfl (by show 2 * 0 + _ ≤ _; omega) (hb cx.2.2.1 hd) (fun _ _ => ⟨rfl, rfl, hc, hs⟩)
  dsimp only [Pt.U, Pt.locs, Pt.cells, Pt.slots] at X' l' y' z' stp hQ
  subst l' y' z'
  obtain ⟨N', L', H', q⟩ := hQ
  exact (kk T' v L' q ⟨_, X', Fr.app N N', H'⟩).via fun t r => stp.trans r
theorem g_virtual (cx : oCx p s m meth c Z own nm code maxL ret) (o : oOn p l e R s m args below meth c Z cells slots T L) {index : Nat} {C : String} {y z : MethodName} {code' : ByteArray} {maxL' : Nat} {ret' : Option FieldType} {rm : Room} {Q : Option Value → List oEnt → Prop} {as : List Value} {fs : oFs} (w1 : (Jvm.Cond.methodLink own index y).before a0 Z = true) (w2 : (Jvm.Cond.declares y).before a0 Z = true) (hnf : NotFace s y) (w5 : (Jvm.Cond.selects C y z).before a0 Z = true) (w6 : (Jvm.Cond.instanceMethod z).before a0 Z = true) (w3 : (Jvm.Cond.initialized z.cls).before a0 Z = true) (w4 : (Jvm.Cond.code z code' maxL' ret').before a0 Z = true)
    (i : Nat) (hi : L[i]? = some (a, oObj Z a0 C fs)) (hM : oMeets l Z z code' maxL' ret' rm (.ref a :: as) L Q) {st0 rest : List Value} (hst : st0 = as.reverse ++ .ref a :: rest) {ps : List FieldType} {rr : Option FieldType} (pd : parseMethodDescriptor y.desc = some ⟨ps, rr⟩) (hln : as.length = ps.length) (hy : y.cls ≠ "java/lang/invoke/MethodHandle" ∧ y.cls ≠ "java/lang/invoke/VarHandle")
    (hsz : Ls.size = maxL) (W : Nat) (hW : (rest.map fun v => v.category).sum ≤ W) (hf : rm.frames + 1 ≤ R.frames) (hl : W + (maxL' + 11) + rm.locals ≤ R.locals) (hc : cells + rm.cells ≤ R.cells) (hs : slots + rm.slots ≤ R.slots) (hd : decode code pc = .ok (.invokevirtual index, 3)) (hp : pc + 3 = pc')
    (kk : ∀ T' v L', Q v L' → oOn p l e R s m args below meth c Z (cells + rm.cells) (slots + rm.slots) T' L' → oGo p e below K (T'.setTop (mkF m pc' Ls (v.toList ++ rest)))) : oGo p e below K (T.setTop (mkF m pc Ls st0)) := by
  subst hp hst; obtain ⟨lc, X, N, H⟩ := o
  obtain ⟨-, cl, hcl, B⟩ := H.at_ hi
  obtain ⟨cq, kq, qa, qb, qc⟩ := isOf cx.2.1 (T := T) rfl (B.1.exa hcl)
  obtain ⟨v, _, ⟨T', lc', k', n'⟩, -, X', ⟨Lc, hQ, l', y', z'⟩, stp⟩ := X.virtualBack cx.1 (y := y) (z := z) cx.2.2.2.2.1 (mvT cx.2.1 w1) (mvT cx.2.1 w2) hnf (mvT cx.2.1 w5) (mvT cx.2.1 w6) hy (backOf (W := W) (Q := fun v hp Lc => Fr Z.heap.size Lc ∧ ∃ L', oHp Z hp L' ∧ Q v L') (hM [] T.heap H) cx.2.1 w4 w3 hf hl) qa qc (g := mkF m pc Ls (as.reverse ++ .ref a :: rest)) rfl (hsz.trans cx.2.2.2.1.symm) (Steps.refl _) (argsL := as) (rest := rest) (lenOf pd hln) rfl (by show 2 * 0 + _ ≤ _; omega) (hb cx.2.2.1 hd) (fun _ _ => ⟨rfl, rfl, hc, hs⟩)
  dsimp only [Pt.U, Pt.locs, Pt.cells, Pt.slots] at X' l' y' z' stp hQ
  subst l' y' z'
  obtain ⟨N', L', H', q⟩ := hQ
  exact (kk T' v L' q ⟨_, X', Fr.app N N', H'⟩).via fun t r => stp.trans r
theorem g_private (cx : oCx p s m meth c Z own nm code maxL ret) (o : oOn p l e R s m args below meth c Z cells slots T L) {index : Nat} {C : String} {y y0 z0 : MethodName} {code' : ByteArray} {maxL' : Nat} {ret' : Option FieldType} {rm : Room} {Q : Option Value → List oEnt → Prop} {as : List Value} {fs : oFs} (w1 : (Jvm.Cond.methodLink own index y).before a0 Z = true) (w5 : (Jvm.Cond.selects C y0 z0).before a0 Z = true) (hzc : z0.cls = y.cls) (w6 : (Jvm.Cond.instanceMethod y).before a0 Z = true) (w7 : (Jvm.Cond.privateMethod y).before a0 Z = true) (w3 : (Jvm.Cond.initialized y.cls).before a0 Z = true) (w4 : (Jvm.Cond.code y code' maxL' ret').before a0 Z = true)
    (i : Nat) (hi : L[i]? = some (a, oObj Z a0 C fs)) (hM : oMeets l Z y code' maxL' ret' rm (.ref a :: as) L Q) {st0 rest : List Value} (hst : st0 = as.reverse ++ .ref a :: rest) {ps : List FieldType} {rr : Option FieldType} (pd : parseMethodDescriptor y.desc = some ⟨ps, rr⟩) (hln : as.length = ps.length) (hy : y.cls ≠ "java/lang/invoke/MethodHandle" ∧ y.cls ≠ "java/lang/invoke/VarHandle")
    (hsz : Ls.size = maxL) (W : Nat) (hW : (rest.map fun v => v.category).sum ≤ W) (hf : rm.frames + 1 ≤ R.frames) (hl : W + (maxL' + 11) + rm.locals ≤ R.locals) (hc : cells + rm.cells ≤ R.cells) (hs : slots + rm.slots ≤ R.slots) (hd : decode code pc = .ok (.invokevirtual index, 3)) (hp : pc + 3 = pc')
    (kk : ∀ T' v L', Q v L' → oOn p l e R s m args below meth c Z (cells + rm.cells) (slots + rm.slots) T' L' → oGo p e below K (T'.setTop (mkF m pc' Ls (v.toList ++ rest)))) : oGo p e below K (T.setTop (mkF m pc Ls st0)) := by
  subst hp hst; obtain ⟨lc, X, N, H⟩ := o
  obtain ⟨-, cl, hcl, B⟩ := H.at_ hi
  obtain ⟨cc, hcc, hob⟩ := (B.1.exa hcl).cell
  have hsel : (Jvm.Cond.selects y.cls y y).before args s = true := by
    obtain ⟨c2, r2, m2, -, -, q3, -, kP, hkP, hkPi⟩ := Cond.selects_spec (show (Jvm.Cond.selects C y0 z0).before args s = true from mvT cx.2.1 w5)
    exact selects_self_of_private (hzc ▸ findClass_of_methodNamed q3) hkP hkPi (Cond.privateMethod_at (args := args) (mvP cx.2.1 w7)) (mvT cx.2.1 w6) hy
  obtain ⟨v, _, ⟨T', lc', k', n'⟩, -, X', ⟨Lc, hQ, l', y', z'⟩, stp⟩ := X.privateBack cx.1 (y := y) cx.2.2.2.2.1 (mvT cx.2.1 w1) (mvT cx.2.1 w6) hsel (Cond.privateMethod_at (args := args) (mvP cx.2.1 w7)) (mvT cx.2.1 w4) hy (backOf (W := W) (Q := fun v hp Lc => Fr Z.heap.size Lc ∧ ∃ L', oHp Z hp L' ∧ Q v L') (hM [] T.heap H) cx.2.1 w4 w3 hf hl) (g := mkF m pc Ls (as.reverse ++ .ref a :: rest)) rfl (hsz.trans cx.2.2.2.1.symm) (Steps.refl _) hcc hob (argsL := as) (rest := rest) (lenOf pd hln) rfl (by show 2 * 0 + _ ≤ _; omega) (hb cx.2.2.1 hd) (fun _ _ => ⟨rfl, rfl, hc, hs⟩)
  dsimp only [Pt.U, Pt.locs, Pt.cells, Pt.slots] at X' l' y' z' stp hQ
  subst l' y' z'
  obtain ⟨N', L', H', q⟩ := hQ
  exact (kk T' v L' q ⟨_, X', Fr.app N N', H'⟩).via fun t r => stp.trans r
theorem g_virtualO (cx : oCx p s m meth c Z own nm code maxL ret) (o : oOn p l e R s m args below meth c Z cells slots T L) {index : Nat} {C : String} {y z : MethodName} {code' : ByteArray} {maxL' : Nat} {ret' : Option FieldType} {rm : Room} {Q : Option Value → List oEnt → Prop} {as : List Value} (w1 : (Jvm.Cond.methodLink own index y).before a0 Z = true) (w2 : (Jvm.Cond.declares y).before a0 Z = true) (hnf : NotFace s y) (w5 : (Jvm.Cond.selects C y z).before a0 Z = true) (w6 : (Jvm.Cond.instanceMethod z).before a0 Z = true) (w3 : (Jvm.Cond.initialized z.cls).before a0 Z = true) (w4 : (Jvm.Cond.code z code' maxL' ret').before a0 Z = true)
    (E : Exa Z Z.heap a C) (hM : oMeets l Z z code' maxL' ret' rm (.ref a :: as) L Q) {st0 rest : List Value} (hst : st0 = as.reverse ++ .ref a :: rest) {ps : List FieldType} {rr : Option FieldType} (pd : parseMethodDescriptor y.desc = some ⟨ps, rr⟩) (hln : as.length = ps.length) (hy : y.cls ≠ "java/lang/invoke/MethodHandle" ∧ y.cls ≠ "java/lang/invoke/VarHandle")
    (hsz : Ls.size = maxL) (W : Nat) (hW : (rest.map fun v => v.category).sum ≤ W) (hf : rm.frames + 1 ≤ R.frames) (hl : W + (maxL' + 11) + rm.locals ≤ R.locals) (hc : cells + rm.cells ≤ R.cells) (hs : slots + rm.slots ≤ R.slots) (hd : decode code pc = .ok (.invokevirtual index, 3)) (hp : pc + 3 = pc')
    (kk : ∀ T' v L', Q v L' → oOn p l e R s m args below meth c Z (cells + rm.cells) (slots + rm.slots) T' L' → oGo p e below K (T'.setTop (mkF m pc' Ls (v.toList ++ rest)))) : oGo p e below K (T.setTop (mkF m pc Ls st0)) := by
  subst hp hst; obtain ⟨lc, X, N, H⟩ := o
  obtain ⟨cq, kq, qa, qb, qc⟩ := isOf cx.2.1 (T := T) rfl (E.ext H.1)
  obtain ⟨v, _, ⟨T', lc', k', n'⟩, -, X', ⟨Lc, hQ, l', y', z'⟩, stp⟩ := X.virtualBack cx.1 (y := y) (z := z) cx.2.2.2.2.1 (mvT cx.2.1 w1) (mvT cx.2.1 w2) hnf (mvT cx.2.1 w5) (mvT cx.2.1 w6) hy (backOf (W := W) (Q := fun v hp Lc => Fr Z.heap.size Lc ∧ ∃ L', oHp Z hp L' ∧ Q v L') (hM [] T.heap H) cx.2.1 w4 w3 hf hl) qa qc (g := mkF m pc Ls (as.reverse ++ .ref a :: rest)) rfl (hsz.trans cx.2.2.2.1.symm) (Steps.refl _) (argsL := as) (rest := rest) (lenOf pd hln) rfl (by show 2 * 0 + _ ≤ _; omega) (hb cx.2.2.1 hd) (fun _ _ => ⟨rfl, rfl, hc, hs⟩)
  dsimp only [Pt.U, Pt.locs, Pt.cells, Pt.slots] at X' l' y' z' stp hQ
  subst l' y' z'
  obtain ⟨N', L', H', q⟩ := hQ
  exact (kk T' v L' q ⟨_, X', Fr.app N N', H'⟩).via fun t r => stp.trans r
theorem g_ret {ty : FieldType} (cx : oCx p s m meth c Z own nm code maxL (some ty)) (o : oOn p l e R s m args below meth c Z cells slots T L) {w : Value} {ins : Instr} {Q : Option Value → List oEnt → Prop} {C S : Nat} (hn : narrow ty w = w)
    (hi : (ins = .ireturn ∧ (ty = .int ∨ ty = .boolean ∨ ty = .byte ∨ ty = .char ∨ ty = .short) ∧ ∃ z, w = .int z) ∨ (ins = .lreturn ∧ ty = .long ∧ ∃ z, w = .long z) ∨ (ins = .dreturn ∧ ty = .double ∧ ∃ z, w = .double z) ∨ (ins = .freturn ∧ ty = .float ∧ ∃ z, w = .float z) ∨ (ins = .areturn ∧ ty.isReference = true ∧ w.isRef = true))
    (hd : decode code pc = .ok (ins, 1)) (hc : cells ≤ C) (hs : slots ≤ S) (hQ : Q (some w) L) : oGo p e below (oEnd s Z Q C S) (T.setTop (mkF m pc Ls (w :: st))) := by
  obtain ⟨lc, X, N, H⟩ := o
  have hlk := cx.2.2.2.2.2.2.2
  obtain ⟨fs, hr, hrun, hended, hW, hsame⟩ := X.leave (v := some w) (fun h => by rw [cx.2.2.2.2.2.2.1] at h; cases h) hlk
  exact ⟨_, _, retOut X cx.1 cx.2.2.2.2.2.2.1 hn hi (hb cx.2.2.1 hd) hr, hrun, hended, _, _, rfl, ⟨N, L, H, hQ⟩, ⟨_, rfl⟩, hW, hsame.mono hc hs⟩
theorem g_ireturn (cx : oCx p s m meth c Z own nm code maxL (some .int)) (o : oOn p l e R s m args below meth c Z cells slots T L) {z : Int32} {Q : Option Value → List oEnt → Prop} {C S : Nat} (hd : decode code pc = .ok (.ireturn, 1)) (hc : cells ≤ C) (hs : slots ≤ S) (hQ : Q (some (.int z)) L) : oGo p e below (oEnd s Z Q C S) (T.setTop (mkF m pc Ls (.int z :: st))) :=
  g_ret cx o rfl (Or.inl ⟨rfl, Or.inl rfl, z, rfl⟩) hd hc hs hQ
theorem g_ireturnZ (cx : oCx p s m meth c Z own nm code maxL (some .boolean)) (o : oOn p l e R s m args below meth c Z cells slots T L) {z : Int32} {Q : Option Value → List oEnt → Prop} {C S : Nat} (hd : decode code pc = .ok (.ireturn, 1)) (hz : z &&& 1 = z) (hc : cells ≤ C) (hs : slots ≤ S) (hQ : Q (some (.int z)) L) : oGo p e below (oEnd s Z Q C S) (T.setTop (mkF m pc Ls (.int z :: st))) :=
  g_ret cx o (show narrow .boolean (.int z) = .int z from congrArg Value.int hz) (Or.inl ⟨rfl, Or.inr (Or.inl rfl), z, rfl⟩) hd hc hs hQ
theorem g_dreturn (cx : oCx p s m meth c Z own nm code maxL (some .double)) (o : oOn p l e R s m args below meth c Z cells slots T L) {z : UInt64} {Q : Option Value → List oEnt → Prop} {C S : Nat} (hd : decode code pc = .ok (.dreturn, 1)) (hc : cells ≤ C) (hs : slots ≤ S) (hQ : Q (some (.double z)) L) : oGo p e below (oEnd s Z Q C S) (T.setTop (mkF m pc Ls (.double z :: st))) :=
  g_ret cx o rfl (Or.inr (Or.inr (Or.inl ⟨rfl, rfl, z, rfl⟩))) hd hc hs hQ
theorem g_lreturn (cx : oCx p s m meth c Z own nm code maxL (some .long)) (o : oOn p l e R s m args below meth c Z cells slots T L) {z : Int64} {Q : Option Value → List oEnt → Prop} {C S : Nat} (hd : decode code pc = .ok (.lreturn, 1)) (hc : cells ≤ C) (hs : slots ≤ S) (hQ : Q (some (.long z)) L) : oGo p e below (oEnd s Z Q C S) (T.setTop (mkF m pc Ls (.long z :: st))) :=
  g_ret cx o rfl (Or.inr (Or.inl ⟨rfl, rfl, z, rfl⟩)) hd hc hs hQ
theorem g_areturn {cn : String} (cx : oCx p s m meth c Z own nm code maxL (some (.object cn))) (o : oOn p l e R s m args below meth c Z cells slots T L) {w : Value} {Q : Option Value → List oEnt → Prop} {C S : Nat} (hw : w.isRef = true) (hd : decode code pc = .ok (.areturn, 1)) (hc : cells ≤ C) (hs : slots ≤ S) (hQ : Q (some w) L) : oGo p e below (oEnd s Z Q C S) (T.setTop (mkF m pc Ls (w :: st))) :=
  g_ret cx o (by rcases ref_cases hw with rfl | ⟨x, rfl⟩ <;> rfl) (Or.inr (Or.inr (Or.inr (Or.inr ⟨rfl, rfl, hw⟩)))) hd hc hs hQ
theorem g_return (cx : oCx p s m meth c Z own nm code maxL none) (o : oOn p l e R s m args below meth c Z cells slots T L) {Q : Option Value → List oEnt → Prop} {C S : Nat} (hd : decode code pc = .ok (.return_, 1)) (hc : cells ≤ C) (hs : slots ≤ S) (hQ : Q none L) : oGo p e below (oEnd s Z Q C S) (T.setTop (mkF m pc Ls [])) := by
  obtain ⟨lc, X, N, H⟩ := o
  have hlk := cx.2.2.2.2.2.2.2
  obtain ⟨fs, hr, hrun, hended, hW, hsame⟩ := X.leave (v := none) (fun _ => rfl) hlk
  exact ⟨_, _, X.returnOut cx.1 cx.2.2.2.2.2.2.1 (hb cx.2.2.1 hd) hr, hrun, hended, _, _, rfl, ⟨N, L, H, hQ⟩, ⟨_, rfl⟩, hW, hsame.mono hc hs⟩
end OwnRules

theorem o_mul_abs {a b : Int} {A B : Nat} (ha : a.natAbs ≤ A) (hb : b.natAbs ≤ B) : (a * b).natAbs ≤ A * B := by rw [Int.natAbs_mul]; exact Nat.mul_le_mul ha hb

section OwnMore
variable {p : Program} {l : Launch} {e : Env} {R : Room} {s : State} {m : MethodId} {args : Array Value} {below : List Frame} {meth : Method} {c : Code} {Z : State} {a0 : Array Value} {cells slots : Nat} {T : State} {L : List oEnt} {own nm : String} {code : ByteArray} {maxL : Nat} {ret : Option FieldType} {K : State → Outcome → Prop} {Ls : Array Slot} {st : List Value} {pc pc' pc2 : Nat} {a : Addr} {vs : List Value} {v : Value} 
/-- an array whose very class is known -/
def oArrE (Z : State) (ad : String) (ty : FieldType) (vs : List Value) (cell : Cell) : Prop := oArr Z ty vs cell ∧ oExa Z ad cell
theorem g_newarrayE (cx : oCx p s m meth c Z own nm code maxL ret) (o : oOn p l e R s m args below meth c Z cells slots T L) {aty : ArrayType} {x : Int32} {ty : FieldType} {ad : String} (w : (Jvm.Cond.arrayClass ty).before a0 Z = true) (hty : newarray.typeOf aty = ty) (had : "[" ++ ty.toString = ad) (k cap : Nat) (hk : x = Int32.ofNat k) (hvs : List.replicate k (defaultValue ty) = vs) (hcap : k ≤ cap) (hcb : cap * 8 ≤ 536870912) (hc : cells + 1 ≤ R.cells) (hl : slots + cap ≤ R.slots) (hd : decode code pc = .ok (.newarray aty, 2)) (hp : pc + 2 = pc')
    (kk : ∀ T' b, oOn p l e R s m args below meth c Z (cells + 1) (slots + cap) T' ((b, oArrE Z ad ty vs) :: L) → oGo p e below K (T'.setTop (mkF m pc' Ls (.ref b :: st)))) : oGo p e below K (T.setTop (mkF m pc Ls (.int x :: st))) := by
  subst hp hk hty hvs; obtain ⟨lc, X, N, H⟩ := o
  have hk2 : k < 2 ^ 31 := by omega
  obtain ⟨q1, q2⟩ := o_clamp hk2
  obtain ⟨T', h', cA, X', e', E, A, EX, stp⟩ := newPE X cx.1 cx.2.1 w rfl (g := mkF m pc Ls (.int (Int32.ofNat k) :: st)) rfl (hb cx.2.2.1 hd) rfl q2 (cap := cap) (by rw [q1]; exact hcap) hcb hc hl had
  subst e'
  refine (kk T' _ ⟨_, X', N, H.new E A.1 ⟨⟨A.2.1, A.2.2, ?_, by simpa using hk2, fun u hu => ?_⟩, oExa.of EX A.1⟩⟩).via stp
  · show (Array.replicate (Int32.ofNat k).toNatClampNeg (defaultValue (newarray.typeOf aty))).toList = _; rw [q1, Array.toList_replicate]
  · rw [(List.mem_replicate.mp hu).2]; cases aty <;> rfl
theorem g_arraylengthE (cx : oCx p s m meth c Z own nm code maxL ret) (o : oOn p l e R s m args below meth c Z cells slots T L) {ty : FieldType} {ad : String} (i : Nat) (z : Int32) (hi : L[i]? = some (a, oArrE Z ad ty vs)) (hz : Int32.ofNat vs.length = z) (hd : decode code pc = .ok (.arraylength, 1)) (hp : pc + 1 = pc')
    (kk : oGo p e below K (T.setTop (mkF m pc' Ls (.int z :: st)))) : oGo p e below K (T.setTop (mkF m pc Ls (.ref a :: st))) := by
  subst hp hz; obtain ⟨lc, X, N, H⟩ := o
  obtain ⟨-, cl, hc, B, -⟩ := H.at_ hi
  refine kk.via fun t q => X.arraylength cx.1 hc (State.isArrayOf_alike cx.2.1.alike B.1) (g := mkF m pc Ls (.ref a :: st)) rfl rfl (hb cx.2.2.1 hd) t ?_
  rw [B.size]; exact q
theorem g_zaloadE (cx : oCx p s m meth c Z own nm code maxL ret) (o : oOn p l e R s m args below meth c Z cells slots T L) {x : Int32} {ad : String} (i k : Nat) (hi : L[i]? = some (a, oArrE Z ad .boolean vs)) (hk : x = Int32.ofNat k) (hv : vs[k]? = some v) (hd : decode code pc = .ok (.baload, 1)) (hp : pc + 1 = pc')
    (kk : oGo p e below K (T.setTop (mkF m pc' Ls (v :: st)))) : oGo p e below K (T.setTop (mkF m pc Ls (.int x :: .ref a :: st))) := by
  subst hp; obtain ⟨lc, X, N, H⟩ := o
  obtain ⟨-, cl, hc, B, -⟩ := H.at_ hi
  obtain ⟨q1, q2⟩ := B.inb hk (List.getElem?_eq_some_iff.mp hv).1
  exact kk.via fun t q => X.baloadBooleans cx.1 hc (State.isArrayOf_alike cx.2.1.alike B.1) B.2.1 q2 (by rw [q1]; exact B.get hv) (g := mkF m pc Ls (.int x :: .ref a :: st)) rfl rfl (hb cx.2.2.1 hd) t q
theorem g_zastoreE (cx : oCx p s m meth c Z own nm code maxL ret) (o : oOn p l e R s m args below meth c Z cells slots T L) {x y : Int32} {ad : String} (i k : Nat) (hi : L[i]? = some (a, oArrE Z ad .boolean vs)) (hk : x = Int32.ofNat k) (hlt : k < vs.length) (hd : decode code pc = .ok (.bastore, 1)) (hp : pc + 1 = pc')
    (kk : ∀ T', oOn p l e R s m args below meth c Z cells slots T' (L.set i (a, oArrE Z ad .boolean (vs.set k (.int (nar .boolean y))))) → oGo p e below K (T'.setTop (mkF m pc' Ls st))) : oGo p e below K (T.setTop (mkF m pc Ls (.int y :: .int x :: .ref a :: st))) := by
  subst hp; obtain ⟨lc, X, N, H⟩ := o
  obtain ⟨q0, cl, hc, B, BE⟩ := H.at_ hi
  obtain ⟨q1, q2⟩ := B.inb hk hlt
  obtain ⟨T', h', X', e', Wd, stp⟩ := stZ X cx.1 cx.2.1 rfl (B.arr hc) q2 (g := mkF m pc Ls (.int y :: .int x :: .ref a :: st)) rfl rfl (hb cx.2.2.1 hd)
  subst e'
  rw [q1] at Wd X'
  exact (kk T' ⟨_, X', Fr.snoc X' N q0, H.wr hi Wd fun c' hc' => ⟨hc'.1.put (fits_nar_bool y), hc'.2.set⟩⟩).via stp
theorem g_clone (cx : oCx p s m meth c Z own nm code maxL ret) (o : oOn p l e R s m args below meth c Z cells slots T L) {index : Nat} {ad : String} {ty : FieldType} (w1 : (Jvm.Cond.methodLink own index ⟨ad, "clone", "()Ljava/lang/Object;"⟩).before a0 Z = true) (w2 : (Jvm.Cond.sameMethod ad "java/lang/Object" "clone" "()Ljava/lang/Object;").before a0 Z = true) (w3 : (Jvm.Cond.native ⟨"java/lang/Object", "clone", "()Ljava/lang/Object;"⟩).before a0 Z = true) (w4 : (Jvm.Cond.instanceMethod ⟨"java/lang/Object", "clone", "()Ljava/lang/Object;"⟩).before a0 Z = true) (w5 : (Jvm.Cond.selects ad ⟨ad, "clone", "()Ljava/lang/Object;"⟩ ⟨"java/lang/Object", "clone", "()Ljava/lang/Object;"⟩).before a0 Z = true) (w6 : (Jvm.Cond.castable ad "java/lang/Cloneable").before a0 Z = true)
    (i : Nat) (hi : L[i]? = some (a, oArrE Z ad ty vs)) (hsz : Ls.size = maxL) (W cap : Nat) (hW : (st.map fun v => v.category).sum ≤ W) (hf : 1 ≤ R.frames) (hl : W + 14 ≤ R.locals) (hcap : vs.length ≤ cap) (hc : cells + 1 ≤ R.cells) (hs : slots + cap ≤ R.slots) (hd : decode code pc = .ok (.invokevirtual index, 3)) (hp : pc + 3 = pc')
    (kk : ∀ T' b, oOn p l e R s m args below meth c Z (cells + 1) (slots + cap) T' ((b, oArrE Z ad ty vs) :: L) → oGo p e below K (T'.setTop (mkF m pc' Ls (.ref b :: st)))) : oGo p e below K (T.setTop (mkF m pc Ls (.ref a :: st))) := by
  subst hp; obtain ⟨lc, X, N, H⟩ := o
  obtain ⟨-, cl, hcl, B, BE⟩ := H.at_ hi
  have FC : FitC Z cl := fitC_of (B.arr hcl) fun i hi v hv => B.2.2.2.2 v (by rw [← B.2.2.1]; exact List.mem_of_getElem? (i := i) (by rw [Array.getElem?_toList]; exact hv))
  obtain ⟨T', h', X', e', E, A, EX, stp⟩ := cloneA X cx.1 cx.2.1 cx.2.2.2.2.1 w1 w2 w3 w4 w5 w6 rfl (B.arr hcl) (BE.exa hcl) FC (g := mkF m pc Ls (.ref a :: st)) rfl (hsz.trans cx.2.2.2.1.symm) rfl (hb cx.2.2.1 hd) hf (W := W) (cap := cap) (by show 2 * 0 + _ ≤ _; omega) hl (by rw [B.size]; exact hcap) hc hs
  subst e'
  exact (kk T' _ ⟨_, X', N, H.new E A.1 ⟨⟨A.2.1, A.2.2, B.2.2.1, B.2.2.2.1, B.2.2.2.2⟩, oExa.of EX A.1⟩⟩).via stp
theorem g_checkcastE (cx : oCx p s m meth c Z own nm code maxL ret) (o : oOn p l e R s m args below meth c Z cells slots T L) {index : Nat} {ad : String} {ty : FieldType} (w1 : (Jvm.Cond.classLink own index ad).before a0 Z = true) (i : Nat) (hi : L[i]? = some (a, oArrE Z ad ty vs)) (hd : decode code pc = .ok (.checkcast index, 3)) (hp : pc + 3 = pc')
    (kk : ∀ T', oOn p l e R s m args below meth c Z cells slots T' L → oGo p e below K (T'.setTop (mkF m pc' Ls (.ref a :: st)))) : oGo p e below K (T.setTop (mkF m pc Ls (.ref a :: st))) := by
  subst hp; obtain ⟨lc, X, N, H⟩ := o
  obtain ⟨-, cl, hcl, B, BE⟩ := H.at_ hi
  obtain ⟨T', X', e', stp⟩ := castY X cx.1 cx.2.1 cx.2.2.2.2.1 w1 rfl (Ins.self (BE.exa hcl)) (g := mkF m pc Ls (.ref a :: st)) rfl rfl (hb cx.2.2.1 hd)
  exact (kk T' ⟨lc, X', N, e' ▸ H⟩).via stp
theorem g_specialN (cx : oCx p s m meth c Z own nm code maxL ret) (o : oOn p l e R s m args below meth c Z cells slots T L) {index : Nat} {y : MethodName} {host : String} {code' : ByteArray} {maxL' : Nat} {rm : Room} {Q : Option Value → List oEnt → Prop} {as : List Value} (hy1 : y.name = "<init>") (w1 : (Jvm.Cond.methodLinkNest own index y host).before a0 Z = true) (w2 : (Jvm.Cond.instanceMethod y).before a0 Z = true) (w3 : (Jvm.Cond.initialized y.cls).before a0 Z = true) (w4 : (Jvm.Cond.code y code' maxL' none).before a0 Z = true)
    (hM : oMeets l Z y code' maxL' none rm (.ref a :: as) L Q) {st0 rest : List Value} (hst : st0 = as.reverse ++ .ref a :: rest) {ps : List FieldType} {rr : Option FieldType} (pd : parseMethodDescriptor y.desc = some ⟨ps, rr⟩) (hln : as.length = ps.length) (hy : y.cls ≠ "java/lang/invoke/MethodHandle" ∧ y.cls ≠ "java/lang/invoke/VarHandle")
    (hsz : Ls.size = maxL) (W : Nat) (hW : (rest.map fun v => v.category).sum ≤ W) (hf : rm.frames + 1 ≤ R.frames) (hl : W + (maxL' + 11) + rm.locals ≤ R.locals) (hc : cells + rm.cells ≤ R.cells) (hs : slots + rm.slots ≤ R.slots) (hd : decode code pc = .ok (.invokespecial index, 3)) (hp : pc + 3 = pc')
    (kk : ∀ T' v L', Q v L' → oOn p l e R s m args below meth c Z (cells + rm.cells) (slots + rm.slots) T' L' → oGo p e below K (T'.setTop (mkF m pc' Ls (v.toList ++ rest)))) : oGo p e below K (T.setTop (mkF m pc Ls st0)) := by
  subst hp hst; obtain ⟨lc, X, N, H⟩ := o
  obtain ⟨v, _, ⟨T', lc', k', n'⟩, -, X', ⟨Lc, hQ, l', y', z'⟩, stp⟩ := X.specialBackNest cx.1 (y := y) (host := host) hy1 cx.2.2.2.2.1 (Cond.methodLinkNest_wide cx.2.1 w1 :) (mvT cx.2.1 w2) (mvT cx.2.1 w4) hy (backOf (W := W) (Q := fun v hp Lc => Fr Z.heap.size Lc ∧ ∃ L', oHp Z hp L' ∧ Q v L') (hM [] T.heap H) cx.2.1 w4 w3 hf hl) (g := mkF m pc Ls (as.reverse ++ .ref a :: rest)) rfl (hsz.trans cx.2.2.2.1.symm) (Steps.refl _) (a := a) (argsL := as) (rest := rest) (lenOf pd hln) rfl (by show 2 * 0 + _ ≤ _; omega) (hb cx.2.2.1 hd) (fun _ _ => ⟨rfl, rfl, hc, hs⟩)
  dsimp only [Pt.U, Pt.locs, Pt.cells, Pt.slots] at X' l' y' z' stp hQ
  subst l' y' z'
  obtain ⟨N', L', H', q⟩ := hQ
  exact (kk T' v L' q ⟨_, X', Fr.app N N', H'⟩).via fun t r => stp.trans r
end OwnMore
def oBs (bs : List Int32) : List Value := bs.map fun b => .int b
theorem o_bsl (bs : List Int32) : (oBs bs).length = bs.length := List.length_map _
theorem o_bsg {bs : List Int32} {k : Nat} {b : Int32} (h : bs[k]? = some b) : (oBs bs)[k]? = some (.int b) := by
  show (bs.map _)[k]? = _
  rw [List.getElem?_map, h]; rfl
theorem o_bss (bs : List Int32) (k : Nat) (b : Int32) : (oBs bs).set k (.int b) = oBs (bs.set k b) := List.map_set.symm
theorem o_bsr (n : Nat) : List.replicate n (Value.int 0) = oBs (List.replicate n 0) := by
  show _ = (List.replicate n 0).map _
  rw [List.map_replicate]
theorem o_n8 (x : Int32) : ∃ n : Nat, 1 ≤ n ∧ n ≤ 8 ∧ (1 : Int32) + (x &&& 7) = Int32.ofNat n := by
  have h := Jvm.Kit.i32_mask x 7 (k := 3) (by decide) (by decide)
  have e1 : (1 : Int32).toInt = 1 := rfl
  refine ⟨((x &&& 7).toInt + 1).toNat, by omega, by omega, Int32.toInt_inj.mp ?_⟩
  have e : (Int32.ofNat ((x &&& 7).toInt + 1).toNat).toInt = (((x &&& 7).toInt + 1).toNat : Int) := len_toInt (by omega)
  rw [e, Jvm.Kit.i32_add (by rw [e1]; omega) (by rw [e1]; omega), e1]; omega
theorem o_modn (x : Int32) {n : Nat} (h1 : 1 ≤ n) (h2 : n ≤ 9) : ∃ k : Nat, k < n ∧ (x &&& 2147483647) % Int32.ofNat n = Int32.ofNat k := by
  have h := Jvm.Kit.i32_mask x 2147483647 (k := 31) (by decide) (by decide)
  have en : (Int32.ofNat n).toInt = n := len_toInt (by omega)
  have r : ((x &&& 2147483647) % Int32.ofNat n).toInt = (x &&& 2147483647).toInt % (n : Int) := by rw [Jvm.Kit.i32_rem_nonneg (by omega), en]
  have r1 := Int.emod_nonneg (x &&& 2147483647).toInt (b := (n : Int)) (by omega)
  have r2 := Int.emod_lt_of_pos (x &&& 2147483647).toInt (b := (n : Int)) (by omega)
  refine ⟨((x &&& 2147483647).toInt % (n : Int)).toNat, by omega, Int32.toInt_inj.mp ?_⟩
  have e : (Int32.ofNat ((x &&& 2147483647).toInt % (n : Int)).toNat).toInt = (((x &&& 2147483647).toInt % (n : Int)).toNat : Int) := len_toInt (by omega)
  rw [e, r]; omega
theorem o_k3 (x : Int32) : (x &&& 3) % 3 = 0 ∨ (x &&& 3) % 3 = 1 ∨ (x &&& 3) % 3 = 2 := by
  have h := Jvm.Kit.i32_mask x 3 (k := 2) (by decide) (by decide)
  have h2 : ((x &&& 3) % 3).toInt = (x &&& 3).toInt % 3 := Jvm.Kit.i32_rem_nonneg (by omega)
  have h3 : ((x &&& 3) % 3).toInt = 0 ∨ ((x &&& 3) % 3).toInt = 1 ∨ ((x &&& 3) % 3).toInt = 2 := by omega
  rcases h3 with h | h | h
  · exact Or.inl (Int32.toInt_inj.mp h)
  · exact Or.inr (Or.inl (Int32.toInt_inj.mp h))
  · exact Or.inr (Or.inr (Int32.toInt_inj.mp h))
theorem o_inj {a b : Nat} (ha : a < 2 ^ 31) (hb : b < 2 ^ 31) : Int32.ofNat a = Int32.ofNat b ↔ a = b := by
  refine ⟨fun h => ?_, fun h => by rw [h]⟩
  have e1 : (Int32.ofNat a).toInt = a := len_toInt ha
  have e2 : (Int32.ofNat b).toInt = b := len_toInt hb
  rw [h, e2] at e1; omega
theorem o_lt {a b : Nat} (ha : a < 2 ^ 31) (hb : b < 2 ^ 31) : Int32.ofNat a < Int32.ofNat b ↔ a < b := by
  have e1 : (Int32.ofNat a).toInt = a := len_toInt ha
  have e2 : (Int32.ofNat b).toInt = b := len_toInt hb
  rw [Int32.lt_iff_toInt_lt, e1, e2]; omega

theorem fs_Region_Builder {Z : State} {a0 : Array Value} (hw : ∀ d ∈ tables_1, d.before a0 Z = true) : ∀ t ∈ ([("com/example/dendrosite/dendrosite/tree/Region$Builder", "vertices", "[Z", .null), ("com/example/dendrosite/dendrosite/tree/Region$Builder", "edges", "[I", .null), ("com/example/dendrosite/dendrosite/tree/Region$Builder", "starts", "[D", .null), ("com/example/dendrosite/dendrosite/tree/Region$Builder", "ends", "[D", .null), ("com/example/dendrosite/dendrosite/tree/Region$Builder", "vertexCount", "I", (.int 0)), ("com/example/dendrosite/dendrosite/tree/Region$Builder", "count", "I", (.int 0))] : oFs), Laid Z a0 "com/example/dendrosite/dendrosite/tree/Region$Builder" t.1 t.2.1 t.2.2.1 ∧ ∃ ty, parseFieldDescriptor t.2.2.1 = some ty ∧ defaultValue ty = t.2.2.2 := by
  intro t ht
  simp only [List.mem_cons, List.not_mem_nil, or_false] at ht
  rcases ht with rfl | rfl | rfl | rfl | rfl | rfl
  · exact ⟨Or.inl (hw _ (List.mem_of_getElem? (i := 12) rfl)), (.array .boolean), by first | decide | decide +kernel, rfl⟩
  · exact ⟨Or.inl (hw _ (List.mem_of_getElem? (i := 15) rfl)), (.array .int), by first | decide | decide +kernel, rfl⟩
  · exact ⟨Or.inl (hw _ (List.mem_of_getElem? (i := 18) rfl)), (.array .double), by first | decide | decide +kernel, rfl⟩
  · exact ⟨Or.inl (hw _ (List.mem_of_getElem? (i := 20) rfl)), (.array .double), by first | decide | decide +kernel, rfl⟩
  · exact ⟨Or.inr (hw _ (List.mem_of_getElem? (i := 22) rfl)), .int, by first | decide | decide +kernel, rfl⟩
  · exact ⟨Or.inl (hw _ (List.mem_of_getElem? (i := 29) rfl)), .int, by first | decide | decide +kernel, rfl⟩
theorem fs_Region {Z : State} {a0 : Array Value} (hw : ∀ d ∈ tables_1, d.before a0 Z = true) : ∀ t ∈ ([("com/example/dendrosite/dendrosite/tree/Region", "vertices", "[Z", .null), ("com/example/dendrosite/dendrosite/tree/Region", "firstStretch", "[I", .null), ("com/example/dendrosite/dendrosite/tree/Region", "starts", "[D", .null), ("com/example/dendrosite/dendrosite/tree/Region", "ends", "[D", .null)] : oFs), Laid Z a0 "com/example/dendrosite/dendrosite/tree/Region" t.1 t.2.1 t.2.2.1 ∧ ∃ ty, parseFieldDescriptor t.2.2.1 = some ty ∧ defaultValue ty = t.2.2.2 := by
  intro t ht
  simp only [List.mem_cons, List.not_mem_nil, or_false] at ht
  rcases ht with rfl | rfl | rfl | rfl
  · exact ⟨Or.inr (hw _ (List.mem_of_getElem? (i := 47) rfl)), (.array .boolean), by first | decide | decide +kernel, rfl⟩
  · exact ⟨Or.inr (hw _ (List.mem_of_getElem? (i := 49) rfl)), (.array .int), by first | decide | decide +kernel, rfl⟩
  · exact ⟨Or.inr (hw _ (List.mem_of_getElem? (i := 51) rfl)), (.array .double), by first | decide | decide +kernel, rfl⟩
  · exact ⟨Or.inr (hw _ (List.mem_of_getElem? (i := 53) rfl)), (.array .double), by first | decide | decide +kernel, rfl⟩
theorem d1_0 : decode prog_38_method_1_code 0 = .ok (.aload_n 0, 1) := by decide +kernel
theorem d1_1 : decode prog_38_method_1_code 1 = .ok (.invokespecial 1, 3) := by decide +kernel
theorem d1_4 : decode prog_38_method_1_code 4 = .ok (.aload_n 0, 1) := by decide +kernel
theorem d1_5 : decode prog_38_method_1_code 5 = .ok (.iconst 0, 1) := by decide +kernel
theorem d1_6 : decode prog_38_method_1_code 6 = .ok (.newarray .boolean, 2) := by decide +kernel
theorem d1_8 : decode prog_38_method_1_code 8 = .ok (.putfield 7, 3) := by decide +kernel
theorem d1_11 : decode prog_38_method_1_code 11 = .ok (.aload_n 0, 1) := by decide +kernel
theorem d1_12 : decode prog_38_method_1_code 12 = .ok (.bipush 16, 2) := by decide +kernel
theorem d1_14 : decode prog_38_method_1_code 14 = .ok (.newarray .int, 2) := by decide +kernel
theorem d1_16 : decode prog_38_method_1_code 16 = .ok (.putfield 13, 3) := by decide +kernel
theorem d1_19 : decode prog_38_method_1_code 19 = .ok (.aload_n 0, 1) := by decide +kernel
theorem d1_20 : decode prog_38_method_1_code 20 = .ok (.bipush 16, 2) := by decide +kernel
theorem d1_22 : decode prog_38_method_1_code 22 = .ok (.newarray .double, 2) := by decide +kernel
theorem d1_24 : decode prog_38_method_1_code 24 = .ok (.putfield 17, 3) := by decide +kernel
theorem d1_27 : decode prog_38_method_1_code 27 = .ok (.aload_n 0, 1) := by decide +kernel
theorem d1_28 : decode prog_38_method_1_code 28 = .ok (.bipush 16, 2) := by decide +kernel
theorem d1_30 : decode prog_38_method_1_code 30 = .ok (.newarray .double, 2) := by decide +kernel
theorem d1_32 : decode prog_38_method_1_code 32 = .ok (.putfield 21, 3) := by decide +kernel
theorem d1_35 : decode prog_38_method_1_code 35 = .ok (.aload_n 0, 1) := by decide +kernel
theorem d1_36 : decode prog_38_method_1_code 36 = .ok (.iload_n 1, 1) := by decide +kernel
theorem d1_37 : decode prog_38_method_1_code 37 = .ok (.putfield 24, 3) := by decide +kernel
theorem d1_40 : decode prog_38_method_1_code 40 = .ok (.return_, 1) := by decide +kernel
theorem pn_1 : plainName "com/example/dendrosite/dendrosite/tree/Region$Builder" = true := by first | (simp [plainName, overriddenIn]; done) | decide +kernel
theorem pd_1 : parseMethodDescriptor "(I)V" = some ⟨[.int], none⟩ := by decide +kernel
set_option maxHeartbeats 4000000 in
theorem ef_1 (m : MethodId) (x0 : Addr) (x1 : Int32) : entryFrame m ([(.ref x0), (.int x1)] : List Value).toArray 2 = mkF m 0 #[.val (.ref x0), .val (.int x1)] [] := by first | (simp [entryFrame, mkF, argsToLocals, Value.category, maxLocals]; done) | rfl
set_option maxHeartbeats 40000000 in
theorem rmB (l : Launch) (Z : State) (a0 : Array Value) (hw : ∀ d ∈ tables_1, d.before a0 Z = true) (bd : Addr) (n : Int32) (F : List oEnt) :
    oMeets l Z (⟨"com/example/dendrosite/dendrosite/tree/Region$Builder", "<init>", "(I)V"⟩ : MethodName) prog_38_method_1_code 2 none ({ frames := 1, cells := 4, slots := 48, locals := 16 } : Room) [(.ref bd), (.int n)] ((bd, oObj Z a0 "com/example/dendrosite/dendrosite/tree/Region$Builder" [("com/example/dendrosite/dendrosite/tree/Region$Builder", "vertices", "[Z", .null), ("com/example/dendrosite/dendrosite/tree/Region$Builder", "edges", "[I", .null), ("com/example/dendrosite/dendrosite/tree/Region$Builder", "starts", "[D", .null), ("com/example/dendrosite/dendrosite/tree/Region$Builder", "ends", "[D", .null), ("com/example/dendrosite/dendrosite/tree/Region$Builder", "vertexCount", "I", (.int 0)), ("com/example/dendrosite/dendrosite/tree/Region$Builder", "count", "I", (.int 0))]) :: F) (fun v L' => v = none ∧ ∃ v0 ed st en, L' = (en, oArr Z .double [.double 0, .double 0, .double 0, .double 0, .double 0, .double 0, .double 0, .double 0, .double 0, .double 0, .double 0, .double 0, .double 0, .double 0, .double 0, .double 0]) :: (st, oArr Z .double [.double 0, .double 0, .double 0, .double 0, .double 0, .double 0, .double 0, .double 0, .double 0, .double 0, .double 0, .double 0, .double 0, .double 0, .double 0, .double 0]) :: (ed, oArr Z .int [.int 0, .int 0, .int 0, .int 0, .int 0, .int 0, .int 0, .int 0, .int 0, .int 0, .int 0, .int 0, .int 0, .int 0, .int 0, .int 0]) :: (v0, oArrE Z "[Z" .boolean (oBs [])) :: (bd, oObj Z a0 "com/example/dendrosite/dendrosite/tree/Region$Builder" [("com/example/dendrosite/dendrosite/tree/Region$Builder", "vertices", "[Z", (.ref v0)), ("com/example/dendrosite/dendrosite/tree/Region$Builder", "edges", "[I", (.ref ed)), ("com/example/dendrosite/dendrosite/tree/Region$Builder", "starts", "[D", (.ref st)), ("com/example/dendrosite/dendrosite/tree/Region$Builder", "ends", "[D", (.ref en)), ("com/example/dendrosite/dendrosite/tree/Region$Builder", "vertexCount", "I", (.int n)), ("com/example/dendrosite/dendrosite/tree/Region$Builder", "count", "I", (.int 0))]) :: F) := by
  refine oMeets.of (y := (⟨"com/example/dendrosite/dendrosite/tree/Region$Builder", "<init>", "(I)V"⟩ : MethodName)) (plainFor_of_name pn_1) fun p e s m below meth c T cx o => ?_
  refine oGo.top (ef_1 m _ _) ?_
  refine g_aloadN cx o (pc' := 1) d1_0 rfl rfl rfl ?_
  refine g_initO cx o (pc' := 4) (hw _ (List.mem_of_getElem? (i := 7) rfl)) (hw _ (List.mem_of_getElem? (i := 8) rfl)) (hw _ (List.mem_of_getElem? (i := 9) rfl)) rfl 0 (Nat.le_of_eq rfl) (by decide) (by decide) d1_1 rfl (fun T o => ?_)
  refine g_aloadN cx o (pc' := 5) d1_4 rfl rfl rfl ?_
  refine g_iconst cx o (pc' := 6) (0 : Int32) d1_5 rfl rfl ?_
  refine g_newarrayE cx o (pc' := 8) (vs := (oBs [])) (ad := "[Z") (hw _ (List.mem_of_getElem? (i := 10) rfl)) rfl (by decide) 0 0 rfl rfl (by decide) (by decide) (by decide) (by decide) d1_6 rfl (fun T v0 o => ?_)
  refine g_putfield cx o (pc' := 11) (hw _ (List.mem_of_getElem? (i := 11) rfl)) (Or.inl (hw _ (List.mem_of_getElem? (i := 12) rfl))) (hw _ (List.mem_of_getElem? (i := 2) rfl)) 1 0 rfl rfl ["vertices", "edges", "starts", "ends", "vertexCount", "count"] rfl (by decide) (ty := (.array .boolean)) (by first | decide | decide +kernel) rfl rfl d1_8 rfl (fun T o => ?_)
  simp only [List.set_cons_zero, List.set_cons_succ] at o
  refine g_aloadN cx o (pc' := 12) d1_11 rfl rfl rfl ?_
  refine g_bipush cx o (pc' := 14) (16 : Int32) d1_12 rfl (by decide) ?_
  refine g_newarray cx o (pc' := 16) (vs := [.int (0 : Int32), .int (0 : Int32), .int (0 : Int32), .int (0 : Int32), .int (0 : Int32), .int (0 : Int32), .int (0 : Int32), .int (0 : Int32), .int (0 : Int32), .int (0 : Int32), .int (0 : Int32), .int (0 : Int32), .int (0 : Int32), .int (0 : Int32), .int (0 : Int32), .int (0 : Int32)]) (hw _ (List.mem_of_getElem? (i := 13) rfl)) rfl 16 16 rfl rfl (by decide) (by decide) (by decide) (by decide) d1_14 rfl (fun T ed o => ?_)
  refine g_putfield cx o (pc' := 19) (hw _ (List.mem_of_getElem? (i := 14) rfl)) (Or.inl (hw _ (List.mem_of_getElem? (i := 15) rfl))) (hw _ (List.mem_of_getElem? (i := 2) rfl)) 2 1 rfl rfl ["vertices", "edges", "starts", "ends", "vertexCount", "count"] rfl (by decide) (ty := (.array .int)) (by first | decide | decide +kernel) rfl rfl d1_16 rfl (fun T o => ?_)
  simp only [List.set_cons_zero, List.set_cons_succ] at o
  refine g_aloadN cx o (pc' := 20) d1_19 rfl rfl rfl ?_
  refine g_bipush cx o (pc' := 22) (16 : Int32) d1_20 rfl (by decide) ?_
  refine g_newarray cx o (pc' := 24) (vs := [.double (0 : UInt64), .double (0 : UInt64), .double (0 : UInt64), .double (0 : UInt64), .double (0 : UInt64), .double (0 : UInt64), .double (0 : UInt64), .double (0 : UInt64), .double (0 : UInt64), .double (0 : UInt64), .double (0 : UInt64), .double (0 : UInt64), .double (0 : UInt64), .double (0 : UInt64), .double (0 : UInt64), .double (0 : UInt64)]) (hw _ (List.mem_of_getElem? (i := 16) rfl)) rfl 16 16 rfl rfl (by decide) (by decide) (by decide) (by decide) d1_22 rfl (fun T st o => ?_)
  refine g_putfield cx o (pc' := 27) (hw _ (List.mem_of_getElem? (i := 17) rfl)) (Or.inl (hw _ (List.mem_of_getElem? (i := 18) rfl))) (hw _ (List.mem_of_getElem? (i := 2) rfl)) 3 2 rfl rfl ["vertices", "edges", "starts", "ends", "vertexCount", "count"] rfl (by decide) (ty := (.array .double)) (by first | decide | decide +kernel) rfl rfl d1_24 rfl (fun T o => ?_)
  simp only [List.set_cons_zero, List.set_cons_succ] at o
  refine g_aloadN cx o (pc' := 28) d1_27 rfl rfl rfl ?_
  refine g_bipush cx o (pc' := 30) (16 : Int32) d1_28 rfl (by decide) ?_
  refine g_newarray cx o (pc' := 32) (vs := [.double (0 : UInt64), .double (0 : UInt64), .double (0 : UInt64), .double (0 : UInt64), .double (0 : UInt64), .double (0 : UInt64), .double (0 : UInt64), .double (0 : UInt64), .double (0 : UInt64), .double (0 : UInt64), .double (0 : UInt64), .double (0 : UInt64), .double (0 : UInt64), .double (0 : UInt64), .double (0 : UInt64), .double (0 : UInt64)]) (hw _ (List.mem_of_getElem? (i := 16) rfl)) rfl 16 16 rfl rfl (by decide) (by decide) (by decide) (by decide) d1_30 rfl (fun T en o => ?_)
  refine g_putfield cx o (pc' := 35) (hw _ (List.mem_of_getElem? (i := 19) rfl)) (Or.inl (hw _ (List.mem_of_getElem? (i := 20) rfl))) (hw _ (List.mem_of_getElem? (i := 2) rfl)) 4 3 rfl rfl ["vertices", "edges", "starts", "ends", "vertexCount", "count"] rfl (by decide) (ty := (.array .double)) (by first | decide | decide +kernel) rfl rfl d1_32 rfl (fun T o => ?_)
  simp only [List.set_cons_zero, List.set_cons_succ] at o
  refine g_aloadN cx o (pc' := 36) d1_35 rfl rfl rfl ?_
  refine g_iloadN cx o (pc' := 37) d1_36 rfl rfl ?_
  refine g_putfield cx o (pc' := 40) (hw _ (List.mem_of_getElem? (i := 21) rfl)) (Or.inr ⟨(hw _ (List.mem_of_getElem? (i := 22) rfl)), rfl, rfl⟩) (hw _ (List.mem_of_getElem? (i := 2) rfl)) 4 4 rfl rfl ["vertices", "edges", "starts", "ends", "vertexCount", "count"] rfl (by decide) (ty := .int) (by first | decide | decide +kernel) rfl rfl d1_37 rfl (fun T o => ?_)
  simp only [List.set_cons_zero, List.set_cons_succ] at o
  exact g_return cx o d1_40 (by decide) (by decide) ⟨rfl, _, _, _, _, rfl⟩
theorem d7_0 : decode prog_38_method_2_code 0 = .ok (.aload_n 0, 1) := by decide +kernel
theorem d7_1 : decode prog_38_method_2_code 1 = .ok (.getfield 7, 3) := by decide +kernel
theorem d7_4 : decode prog_38_method_2_code 4 = .ok (.arraylength, 1) := by decide +kernel
theorem d7_5 : decode prog_38_method_2_code 5 = .ok (.ifCond .ne 13, 3) := by decide +kernel
theorem d7_8 : decode prog_38_method_2_code 8 = .ok (.aload_n 0, 1) := by decide +kernel
theorem d7_9 : decode prog_38_method_2_code 9 = .ok (.aload_n 0, 1) := by decide +kernel
theorem d7_10 : decode prog_38_method_2_code 10 = .ok (.getfield 24, 3) := by decide +kernel
theorem d7_13 : decode prog_38_method_2_code 13 = .ok (.newarray .boolean, 2) := by decide +kernel
theorem d7_15 : decode prog_38_method_2_code 15 = .ok (.putfield 7, 3) := by decide +kernel
theorem d7_18 : decode prog_38_method_2_code 18 = .ok (.aload_n 0, 1) := by decide +kernel
theorem d7_19 : decode prog_38_method_2_code 19 = .ok (.getfield 7, 3) := by decide +kernel
theorem d7_22 : decode prog_38_method_2_code 22 = .ok (.iload_n 1, 1) := by decide +kernel
theorem d7_23 : decode prog_38_method_2_code 23 = .ok (.iconst 1, 1) := by decide +kernel
theorem d7_24 : decode prog_38_method_2_code 24 = .ok (.bastore, 1) := by decide +kernel
theorem d7_25 : decode prog_38_method_2_code 25 = .ok (.return_, 1) := by decide +kernel
theorem pn_7 : plainName "com/example/dendrosite/dendrosite/tree/Region$Builder" = true := by first | (simp [plainName, overriddenIn]; done) | decide +kernel
theorem pd_7 : parseMethodDescriptor "(I)V" = some ⟨[.int], none⟩ := by decide +kernel
set_option maxHeartbeats 4000000 in
theorem ef_7a (m : MethodId) (x0 : Addr) (x1 : Int32) : entryFrame m ([(.ref x0), (.int x1)] : List Value).toArray 2 = mkF m 0 #[.val (.ref x0), .val (.int x1)] [] := by first | (simp [entryFrame, mkF, argsToLocals, Value.category, maxLocals]; done) | rfl
set_option maxHeartbeats 40000000 in
theorem rmA1 (l : Launch) (Z : State) (a0 : Array Value) (hw : ∀ d ∈ tables_1, d.before a0 Z = true) (bd v0 ed st en : Addr) (n v : Nat) (hn : n ≤ 8) (hv : v < n) (F : List oEnt) :
    oMeets l Z (⟨"com/example/dendrosite/dendrosite/tree/Region$Builder", "addVertex", "(I)V"⟩ : MethodName) prog_38_method_2_code 2 none ({ frames := 0, cells := 1, slots := 8, locals := 0 } : Room) [(.ref bd), (.int (Int32.ofNat v))] ((bd, oObj Z a0 "com/example/dendrosite/dendrosite/tree/Region$Builder" [("com/example/dendrosite/dendrosite/tree/Region$Builder", "vertices", "[Z", (.ref v0)), ("com/example/dendrosite/dendrosite/tree/Region$Builder", "edges", "[I", (.ref ed)), ("com/example/dendrosite/dendrosite/tree/Region$Builder", "starts", "[D", (.ref st)), ("com/example/dendrosite/dendrosite/tree/Region$Builder", "ends", "[D", (.ref en)), ("com/example/dendrosite/dendrosite/tree/Region$Builder", "vertexCount", "I", (.int (Int32.ofNat n))), ("com/example/dendrosite/dendrosite/tree/Region$Builder", "count", "I", (.int 0))]) :: (v0, oArrE Z "[Z" .boolean (oBs [])) :: F) (fun w L' => w = none ∧ ∃ vr, L' = (vr, oArrE Z "[Z" .boolean (oBs ((List.replicate n 0).set v 1))) :: (bd, oObj Z a0 "com/example/dendrosite/dendrosite/tree/Region$Builder" [("com/example/dendrosite/dendrosite/tree/Region$Builder", "vertices", "[Z", (.ref vr)), ("com/example/dendrosite/dendrosite/tree/Region$Builder", "edges", "[I", (.ref ed)), ("com/example/dendrosite/dendrosite/tree/Region$Builder", "starts", "[D", (.ref st)), ("com/example/dendrosite/dendrosite/tree/Region$Builder", "ends", "[D", (.ref en)), ("com/example/dendrosite/dendrosite/tree/Region$Builder", "vertexCount", "I", (.int (Int32.ofNat n))), ("com/example/dendrosite/dendrosite/tree/Region$Builder", "count", "I", (.int 0))]) :: (v0, oArrE Z "[Z" .boolean (oBs [])) :: F) := by
  refine oMeets.of (y := (⟨"com/example/dendrosite/dendrosite/tree/Region$Builder", "addVertex", "(I)V"⟩ : MethodName)) (plainFor_of_name pn_7) fun p e s m below meth c T cx o => ?_
  refine oGo.top (ef_7a m _ _) ?_
  refine g_aloadN cx o (pc' := 1) d7_0 rfl rfl rfl ?_
  refine g_getfield cx o (pc' := 4) (hw _ (List.mem_of_getElem? (i := 11) rfl)) 0 0 rfl rfl d7_1 rfl (fun T o => ?_)
  refine g_arraylengthE cx o (pc' := 5) 1 (0 : Int32) rfl rfl d7_4 rfl ?_
  refine g_if_ne cx o (pc' := 18) (pc2 := 8) d7_5 (by decide) (by decide) rfl (fun c5 => absurd (by decide) c5) (fun c5 => ?_)
  refine g_aloadN cx o (pc' := 9) d7_8 rfl rfl rfl ?_
  refine g_aloadN cx o (pc' := 10) d7_9 rfl rfl rfl ?_
  refine g_getfield cx o (pc' := 13) (hw _ (List.mem_of_getElem? (i := 21) rfl)) 0 4 rfl rfl d7_10 rfl (fun T o => ?_)
  refine g_newarrayE cx o (pc' := 15) (vs := (oBs (List.replicate n 0))) (ad := "[Z") (hw _ (List.mem_of_getElem? (i := 10) rfl)) rfl (by decide) n 8 rfl (o_bsr n) hn (by decide) (by decide) (by decide) d7_13 rfl (fun T vr o => ?_)
  refine g_putfield cx o (pc' := 18) (hw _ (List.mem_of_getElem? (i := 11) rfl)) (Or.inl (hw _ (List.mem_of_getElem? (i := 12) rfl))) (hw _ (List.mem_of_getElem? (i := 2) rfl)) 1 0 rfl rfl ["vertices", "edges", "starts", "ends", "vertexCount", "count"] rfl (by decide) (ty := (.array .boolean)) (by first | decide | decide +kernel) rfl rfl d7_15 rfl (fun T o => ?_)
  simp only [List.set_cons_zero, List.set_cons_succ] at o
  refine g_aloadN cx o (pc' := 19) d7_18 rfl rfl rfl ?_
  refine g_getfield cx o (pc' := 22) (hw _ (List.mem_of_getElem? (i := 11) rfl)) 1 0 rfl rfl d7_19 rfl (fun T o => ?_)
  refine g_iloadN cx o (pc' := 23) d7_22 rfl rfl ?_
  refine g_iconst cx o (pc' := 24) (1 : Int32) d7_23 rfl rfl ?_
  refine g_zastoreE cx o (pc' := 25) 0 v rfl rfl (by rw [o_bsl, List.length_replicate]; exact hv) d7_24 rfl (fun T o => ?_)
  simp only [List.set_cons_zero, List.set_cons_succ] at o
  rw [show nar .boolean 1 = 1 from rfl, o_bss] at o
  exact g_return cx o d7_25 (by decide) (by decide) ⟨rfl, _, rfl⟩
set_option maxHeartbeats 4000000 in
theorem ef_7b (m : MethodId) (x0 : Addr) (x1 : Int32) : entryFrame m ([(.ref x0), (.int x1)] : List Value).toArray 2 = mkF m 0 #[.val (.ref x0), .val (.int x1)] [] := by first | (simp [entryFrame, mkF, argsToLocals, Value.category, maxLocals]; done) | rfl
set_option maxHeartbeats 40000000 in
theorem rmA2 (l : Launch) (Z : State) (a0 : Array Value) (hw : ∀ d ∈ tables_1, d.before a0 Z = true) (bd vr ed st en : Addr) (n : Int32) (bs : List Int32) (v : Nat) (h0 : bs ≠ []) (hl : bs.length ≤ 8) (hv : v < bs.length) (F : List oEnt) :
    oMeets l Z (⟨"com/example/dendrosite/dendrosite/tree/Region$Builder", "addVertex", "(I)V"⟩ : MethodName) prog_38_method_2_code 2 none ({ frames := 0, cells := 0, slots := 0, locals := 0 } : Room) [(.ref bd), (.int (Int32.ofNat v))] ((vr, oArrE Z "[Z" .boolean (oBs bs)) :: (bd, oObj Z a0 "com/example/dendrosite/dendrosite/tree/Region$Builder" [("com/example/dendrosite/dendrosite/tree/Region$Builder", "vertices", "[Z", (.ref vr)), ("com/example/dendrosite/dendrosite/tree/Region$Builder", "edges", "[I", (.ref ed)), ("com/example/dendrosite/dendrosite/tree/Region$Builder", "starts", "[D", (.ref st)), ("com/example/dendrosite/dendrosite/tree/Region$Builder", "ends", "[D", (.ref en)), ("com/example/dendrosite/dendrosite/tree/Region$Builder", "vertexCount", "I", (.int n)), ("com/example/dendrosite/dendrosite/tree/Region$Builder", "count", "I", (.int 0))]) :: F) (fun w L' => w = none ∧ L' = (vr, oArrE Z "[Z" .boolean (oBs (bs.set v 1))) :: (bd, oObj Z a0 "com/example/dendrosite/dendrosite/tree/Region$Builder" [("com/example/dendrosite/dendrosite/tree/Region$Builder", "vertices", "[Z", (.ref vr)), ("com/example/dendrosite/dendrosite/tree/Region$Builder", "edges", "[I", (.ref ed)), ("com/example/dendrosite/dendrosite/tree/Region$Builder", "starts", "[D", (.ref st)), ("com/example/dendrosite/dendrosite/tree/Region$Builder", "ends", "[D", (.ref en)), ("com/example/dendrosite/dendrosite/tree/Region$Builder", "vertexCount", "I", (.int n)), ("com/example/dendrosite/dendrosite/tree/Region$Builder", "count", "I", (.int 0))]) :: F) := by
  refine oMeets.of (y := (⟨"com/example/dendrosite/dendrosite/tree/Region$Builder", "addVertex", "(I)V"⟩ : MethodName)) (plainFor_of_name pn_7) fun p e s m below meth c T cx o => ?_
  refine oGo.top (ef_7b m _ _) ?_
  refine g_aloadN cx o (pc' := 1) d7_0 rfl rfl rfl ?_
  refine g_getfield cx o (pc' := 4) (hw _ (List.mem_of_getElem? (i := 11) rfl)) 1 0 rfl rfl d7_1 rfl (fun T o => ?_)
  refine g_arraylengthE cx o (pc' := 5) 0 (Int32.ofNat bs.length) rfl (by rw [o_bsl]) d7_4 rfl ?_
  refine g_if_ne cx o (pc' := 18) (pc2 := 8) d7_5 (by decide) (by decide) rfl (fun c5 => ?_) (fun c5 => absurd ((o_inj (b := 0) (by omega) (by decide)).mp c5) (fun q => h0 (List.eq_nil_of_length_eq_zero q)))
  refine g_aloadN cx o (pc' := 19) d7_18 rfl rfl rfl ?_
  refine g_getfield cx o (pc' := 22) (hw _ (List.mem_of_getElem? (i := 11) rfl)) 1 0 rfl rfl d7_19 rfl (fun T o => ?_)
  refine g_iloadN cx o (pc' := 23) d7_22 rfl rfl ?_
  refine g_iconst cx o (pc' := 24) (1 : Int32) d7_23 rfl rfl ?_
  refine g_zastoreE cx o (pc' := 25) 0 v rfl rfl (by rw [o_bsl]; exact hv) d7_24 rfl (fun T o => ?_)
  simp only [List.set_cons_zero, List.set_cons_succ] at o
  rw [show nar .boolean 1 = 1 from rfl, o_bss] at o
  exact g_return cx o d7_25 (by decide) (by decide) ⟨rfl, rfl⟩
theorem d4_0 : decode prog_37_method_1_code 0 = .ok (.aload_n 0, 1) := by decide +kernel
theorem d4_1 : decode prog_37_method_1_code 1 = .ok (.invokespecial 1, 3) := by decide +kernel
theorem d4_4 : decode prog_37_method_1_code 4 = .ok (.aload_n 0, 1) := by decide +kernel
theorem d4_5 : decode prog_37_method_1_code 5 = .ok (.aload_n 1, 1) := by decide +kernel
theorem d4_6 : decode prog_37_method_1_code 6 = .ok (.putfield 7, 3) := by decide +kernel
theorem d4_9 : decode prog_37_method_1_code 9 = .ok (.aload_n 0, 1) := by decide +kernel
theorem d4_10 : decode prog_37_method_1_code 10 = .ok (.aload_n 2, 1) := by decide +kernel
theorem d4_11 : decode prog_37_method_1_code 11 = .ok (.putfield 13, 3) := by decide +kernel
theorem d4_14 : decode prog_37_method_1_code 14 = .ok (.aload_n 0, 1) := by decide +kernel
theorem d4_15 : decode prog_37_method_1_code 15 = .ok (.aload_n 3, 1) := by decide +kernel
theorem d4_16 : decode prog_37_method_1_code 16 = .ok (.putfield 17, 3) := by decide +kernel
theorem d4_19 : decode prog_37_method_1_code 19 = .ok (.aload_n 0, 1) := by decide +kernel
theorem d4_20 : decode prog_37_method_1_code 20 = .ok (.aload 4, 2) := by decide +kernel
theorem d4_22 : decode prog_37_method_1_code 22 = .ok (.putfield 21, 3) := by decide +kernel
theorem d4_25 : decode prog_37_method_1_code 25 = .ok (.return_, 1) := by decide +kernel
theorem pn_4 : plainName "com/example/dendrosite/dendrosite/tree/Region" = true := by first | (simp [plainName, overriddenIn]; done) | decide +kernel
theorem pd_4 : parseMethodDescriptor "([Z[I[D[D)V" = some ⟨[(.array .boolean), (.array .int), (.array .double), (.array .double)], none⟩ := by decide +kernel
set_option maxHeartbeats 4000000 in
theorem ef_4 (m : MethodId) (x0 : Addr) (x1 : Addr) (x4 : Addr) : entryFrame m ([(.ref x0), (.ref x1), .null, .null, (.ref x4)] : List Value).toArray 5 = mkF m 0 #[.val (.ref x0), .val (.ref x1), .val .null, .val .null, .val (.ref x4)] [] := by first | (simp [entryFrame, mkF, argsToLocals, Value.category, maxLocals]; done) | rfl
set_option maxHeartbeats 40000000 in
theorem rmR (l : Launch) (Z : State) (a0 : Array Value) (hw : ∀ d ∈ tables_1, d.before a0 Z = true) (rg cv en : Addr) (F : List oEnt) (L : List oEnt) (i : Nat) :
    oMeets l Z (⟨"com/example/dendrosite/dendrosite/tree/Region", "<init>", "([Z[I[D[D)V"⟩ : MethodName) prog_37_method_1_code 5 none ({ frames := 1, cells := 0, slots := 0, locals := 14 } : Room) [(.ref rg), (.ref cv), .null, .null, (.ref en)] ((en, oArr Z .double []) :: (rg, oObj Z a0 "com/example/dendrosite/dendrosite/tree/Region" [("com/example/dendrosite/dendrosite/tree/Region", "vertices", "[Z", .null), ("com/example/dendrosite/dendrosite/tree/Region", "firstStretch", "[I", .null), ("com/example/dendrosite/dendrosite/tree/Region", "starts", "[D", .null), ("com/example/dendrosite/dendrosite/tree/Region", "ends", "[D", .null)]) :: F) (fun v L' => v = none ∧ L' = (en, oArr Z .double []) :: (rg, oObj Z a0 "com/example/dendrosite/dendrosite/tree/Region" [("com/example/dendrosite/dendrosite/tree/Region", "vertices", "[Z", (.ref cv)), ("com/example/dendrosite/dendrosite/tree/Region", "firstStretch", "[I", .null), ("com/example/dendrosite/dendrosite/tree/Region", "starts", "[D", .null), ("com/example/dendrosite/dendrosite/tree/Region", "ends", "[D", (.ref en))]) :: F) := by
  refine oMeets.of (y := (⟨"com/example/dendrosite/dendrosite/tree/Region", "<init>", "([Z[I[D[D)V"⟩ : MethodName)) (plainFor_of_name pn_4) fun p e s m below meth c T cx o => ?_
  refine oGo.top (ef_4 m _ _ _) ?_
  refine g_aloadN cx o (pc' := 1) d4_0 rfl rfl rfl ?_
  refine g_initO cx o (pc' := 4) (hw _ (List.mem_of_getElem? (i := 45) rfl)) (hw _ (List.mem_of_getElem? (i := 8) rfl)) (hw _ (List.mem_of_getElem? (i := 9) rfl)) rfl 0 (Nat.le_of_eq rfl) (by decide) (by decide) d4_1 rfl (fun T o => ?_)
  refine g_aloadN cx o (pc' := 5) d4_4 rfl rfl rfl ?_
  refine g_aloadN cx o (pc' := 6) d4_5 rfl rfl rfl ?_
  refine g_putfield cx o (pc' := 9) (hw _ (List.mem_of_getElem? (i := 46) rfl)) (Or.inr ⟨(hw _ (List.mem_of_getElem? (i := 47) rfl)), rfl, rfl⟩) (hw _ (List.mem_of_getElem? (i := 31) rfl)) 1 0 rfl rfl ["vertices", "firstStretch", "starts", "ends"] rfl (by decide) (ty := (.array .boolean)) (by first | decide | decide +kernel) rfl rfl d4_6 rfl (fun T o => ?_)
  simp only [List.set_cons_zero, List.set_cons_succ] at o
  refine g_aloadN cx o (pc' := 10) d4_9 rfl rfl rfl ?_
  refine g_aloadN cx o (pc' := 11) d4_10 rfl rfl rfl ?_
  refine g_putfield cx o (pc' := 14) (hw _ (List.mem_of_getElem? (i := 48) rfl)) (Or.inr ⟨(hw _ (List.mem_of_getElem? (i := 49) rfl)), rfl, rfl⟩) (hw _ (List.mem_of_getElem? (i := 31) rfl)) 1 1 rfl rfl ["vertices", "firstStretch", "starts", "ends"] rfl (by decide) (ty := (.array .int)) (by first | decide | decide +kernel) rfl rfl d4_11 rfl (fun T o => ?_)
  simp only [List.set_cons_zero, List.set_cons_succ] at o
  refine g_aloadN cx o (pc' := 15) d4_14 rfl rfl rfl ?_
  refine g_aloadN cx o (pc' := 16) d4_15 rfl rfl rfl ?_
  refine g_putfield cx o (pc' := 19) (hw _ (List.mem_of_getElem? (i := 50) rfl)) (Or.inr ⟨(hw _ (List.mem_of_getElem? (i := 51) rfl)), rfl, rfl⟩) (hw _ (List.mem_of_getElem? (i := 31) rfl)) 1 2 rfl rfl ["vertices", "firstStretch", "starts", "ends"] rfl (by decide) (ty := (.array .double)) (by first | decide | decide +kernel) rfl rfl d4_16 rfl (fun T o => ?_)
  simp only [List.set_cons_zero, List.set_cons_succ] at o
  refine g_aloadN cx o (pc' := 20) d4_19 rfl rfl rfl ?_
  refine g_aload cx o (pc' := 22) d4_20 rfl rfl rfl ?_
  refine g_putfield cx o (pc' := 25) (hw _ (List.mem_of_getElem? (i := 52) rfl)) (Or.inr ⟨(hw _ (List.mem_of_getElem? (i := 53) rfl)), rfl, rfl⟩) (hw _ (List.mem_of_getElem? (i := 31) rfl)) 1 3 rfl rfl ["vertices", "firstStretch", "starts", "ends"] rfl (by decide) (ty := (.array .double)) (by first | decide | decide +kernel) rfl rfl d4_22 rfl (fun T o => ?_)
  simp only [List.set_cons_zero, List.set_cons_succ] at o
  exact g_return cx o d4_25 (by decide) (by decide) ⟨rfl, rfl⟩
theorem d3_0 : decode prog_38_method_4_code 0 = .ok (.aload_n 0, 1) := by decide +kernel
theorem d3_1 : decode prog_38_method_4_code 1 = .ok (.getfield 28, 3) := by decide +kernel
theorem d3_4 : decode prog_38_method_4_code 4 = .ok (.ifCond .ne 26, 3) := by decide +kernel
theorem d3_7 : decode prog_38_method_4_code 7 = .ok (.new 40, 3) := by decide +kernel
theorem d3_10 : decode prog_38_method_4_code 10 = .ok (.dup, 1) := by decide +kernel
theorem d3_11 : decode prog_38_method_4_code 11 = .ok (.aload_n 0, 1) := by decide +kernel
theorem d3_12 : decode prog_38_method_4_code 12 = .ok (.getfield 7, 3) := by decide +kernel
theorem d3_15 : decode prog_38_method_4_code 15 = .ok (.invokevirtual 42, 3) := by decide +kernel
theorem d3_18 : decode prog_38_method_4_code 18 = .ok (.checkcast 43, 3) := by decide +kernel
theorem d3_21 : decode prog_38_method_4_code 21 = .ok (.aconst_null, 1) := by decide +kernel
theorem d3_22 : decode prog_38_method_4_code 22 = .ok (.aconst_null, 1) := by decide +kernel
theorem d3_23 : decode prog_38_method_4_code 23 = .ok (.iconst 0, 1) := by decide +kernel
theorem d3_24 : decode prog_38_method_4_code 24 = .ok (.newarray .double, 2) := by decide +kernel
theorem d3_26 : decode prog_38_method_4_code 26 = .ok (.invokespecial 47, 3) := by decide +kernel
theorem d3_29 : decode prog_38_method_4_code 29 = .ok (.areturn, 1) := by decide +kernel
theorem pn_3 : plainName "com/example/dendrosite/dendrosite/tree/Region$Builder" = true := by first | (simp [plainName, overriddenIn]; done) | decide +kernel
theorem pd_3 : parseMethodDescriptor "([I[I[D)Lcom/example/dendrosite/dendrosite/tree/Region;" = some ⟨[(.array .int), (.array .int), (.array .double)], some (.object "com/example/dendrosite/dendrosite/tree/Region")⟩ := by decide +kernel
set_option maxHeartbeats 4000000 in
theorem ef_3 (m : MethodId) (x0 : Addr) (x1 : Addr) (x2 : Addr) (x3 : Addr) : entryFrame m ([(.ref x0), (.ref x1), (.ref x2), (.ref x3)] : List Value).toArray 17 = mkF m 0 #[.val (.ref x0), .val (.ref x1), .val (.ref x2), .val (.ref x3), .unset, .unset, .unset, .unset, .unset, .unset, .unset, .unset, .unset, .unset, .unset, .unset, .unset] [] := by first | (simp [entryFrame, mkF, argsToLocals, Value.category, maxLocals]; done) | rfl
set_option maxHeartbeats 40000000 in
theorem rmU (l : Launch) (Z : State) (a0 : Array Value) (hw : ∀ d ∈ tables_1, d.before a0 Z = true) (bd vr ed st en x1 x2 x3 : Addr) (n : Int32) (bs : List Int32) (hl : bs.length ≤ 8) (F : List oEnt) :
    oMeets l Z (⟨"com/example/dendrosite/dendrosite/tree/Region$Builder", "build", "([I[I[D)Lcom/example/dendrosite/dendrosite/tree/Region;"⟩ : MethodName) prog_38_method_4_code 17 (some (.object "com/example/dendrosite/dendrosite/tree/Region")) ({ frames := 2, cells := 3, slots := 12, locals := 36 } : Room) [(.ref bd), (.ref x1), (.ref x2), (.ref x3)] ((bd, oObj Z a0 "com/example/dendrosite/dendrosite/tree/Region$Builder" [("com/example/dendrosite/dendrosite/tree/Region$Builder", "vertices", "[Z", (.ref vr)), ("com/example/dendrosite/dendrosite/tree/Region$Builder", "edges", "[I", (.ref ed)), ("com/example/dendrosite/dendrosite/tree/Region$Builder", "starts", "[D", (.ref st)), ("com/example/dendrosite/dendrosite/tree/Region$Builder", "ends", "[D", (.ref en)), ("com/example/dendrosite/dendrosite/tree/Region$Builder", "vertexCount", "I", (.int n)), ("com/example/dendrosite/dendrosite/tree/Region$Builder", "count", "I", (.int 0))]) :: (vr, oArrE Z "[Z" .boolean (oBs bs)) :: F) (fun v L' => ∃ rg cv ea, v = some (.ref rg) ∧ L' = (rg, oObj Z a0 "com/example/dendrosite/dendrosite/tree/Region" [("com/example/dendrosite/dendrosite/tree/Region", "vertices", "[Z", (.ref cv)), ("com/example/dendrosite/dendrosite/tree/Region", "firstStretch", "[I", .null), ("com/example/dendrosite/dendrosite/tree/Region", "starts", "[D", .null), ("com/example/dendrosite/dendrosite/tree/Region", "ends", "[D", (.ref ea))]) :: (ea, oArr Z .double []) :: (cv, oArrE Z "[Z" .boolean (oBs bs)) :: (bd, oObj Z a0 "com/example/dendrosite/dendrosite/tree/Region$Builder" [("com/example/dendrosite/dendrosite/tree/Region$Builder", "vertices", "[Z", (.ref vr)), ("com/example/dendrosite/dendrosite/tree/Region$Builder", "edges", "[I", (.ref ed)), ("com/example/dendrosite/dendrosite/tree/Region$Builder", "starts", "[D", (.ref st)), ("com/example/dendrosite/dendrosite/tree/Region$Builder", "ends", "[D", (.ref en)), ("com/example/dendrosite/dendrosite/tree/Region$Builder", "vertexCount", "I", (.int n)), ("com/example/dendrosite/dendrosite/tree/Region$Builder", "count", "I", (.int 0))]) :: (vr, oArrE Z "[Z" .boolean (oBs bs)) :: F) := by
  refine oMeets.of (y := (⟨"com/example/dendrosite/dendrosite/tree/Region$Builder", "build", "([I[I[D)Lcom/example/dendrosite/dendrosite/tree/Region;"⟩ : MethodName)) (plainFor_of_name pn_3) fun p e s m below meth c T cx o => ?_
  refine oGo.top (ef_3 m _ _ _ _) ?_
  refine g_aloadN cx o (pc' := 1) d3_0 rfl rfl rfl ?_
  refine g_getfield cx o (pc' := 4) (hw _ (List.mem_of_getElem? (i := 28) rfl)) 0 5 rfl rfl d3_1 rfl (fun T o => ?_)
  refine g_if_ne cx o (pc' := 30) (pc2 := 7) d3_4 (by decide) (by decide) rfl (fun c4 => absurd (by decide) c4) (fun c4 => ?_)
  refine g_new cx o (pc' := 10) (hw _ (List.mem_of_getElem? (i := 30) rfl)) (hw _ (List.mem_of_getElem? (i := 31) rfl)) (hw _ (List.mem_of_getElem? (i := 32) rfl)) (fs_Region hw) (by decide) (by decide) d3_7 rfl (fun T rg o => ?_)
  refine g_dup cx o (pc' := 11) d3_10 rfl rfl ?_
  refine g_aloadN cx o (pc' := 12) d3_11 rfl rfl rfl ?_
  refine g_getfield cx o (pc' := 15) (hw _ (List.mem_of_getElem? (i := 11) rfl)) 1 0 rfl rfl d3_12 rfl (fun T o => ?_)
  refine g_clone cx o (pc' := 18) (hw _ (List.mem_of_getElem? (i := 33) rfl)) (hw _ (List.mem_of_getElem? (i := 34) rfl)) (hw _ (List.mem_of_getElem? (i := 38) rfl)) (hw _ (List.mem_of_getElem? (i := 36) rfl)) (hw _ (List.mem_of_getElem? (i := 37) rfl)) (hw _ (List.mem_of_getElem? (i := 39) rfl)) 2 rfl rfl 2 8 (Nat.le_of_eq rfl) (by decide) (by decide) (by rw [o_bsl]; exact hl) (by decide) (by decide) d3_15 rfl (fun T cv o => ?_)
  refine g_checkcastE cx o (pc' := 21) (hw _ (List.mem_of_getElem? (i := 40) rfl)) 0 rfl d3_18 rfl (fun T o => ?_)
  refine g_aconst_null cx o (pc' := 22) d3_21 rfl ?_
  refine g_aconst_null cx o (pc' := 23) d3_22 rfl ?_
  refine g_iconst cx o (pc' := 24) (0 : Int32) d3_23 rfl rfl ?_
  refine g_newarray cx o (pc' := 26) (vs := []) (hw _ (List.mem_of_getElem? (i := 16) rfl)) rfl 0 0 rfl rfl (by decide) (by decide) (by decide) (by decide) d3_24 rfl (fun T ea o => ?_)
  have o := o.front 2 rfl
  simp only [List.eraseIdx_cons_zero, List.eraseIdx_cons_succ] at o
  have o := o.front 1 rfl
  simp only [List.eraseIdx_cons_zero, List.eraseIdx_cons_succ] at o
  refine g_specialN cx o (pc' := 29) (y := (⟨"com/example/dendrosite/dendrosite/tree/Region", "<init>", "([Z[I[D[D)V"⟩ : MethodName)) (host := "com/example/dendrosite/dendrosite/tree/Region") rfl (hw _ (List.mem_of_getElem? (i := 42) rfl)) (hw _ (List.mem_of_getElem? (i := 43) rfl)) (hw _ (List.mem_of_getElem? (i := 32) rfl)) (hw _ (List.mem_of_getElem? (i := 44) rfl)) (rmR l Z a0 hw rg cv ea _ [] 0) rfl pd_4 rfl (by decide) rfl 1 (Nat.le_of_eq rfl) (by decide) (by decide) (by decide) (by decide) d3_26 rfl (fun T v L hQ o => ?_)
  obtain ⟨rfl, rfl⟩ := hQ
  simp only [Option.toList_some, Option.toList_none, List.cons_append, List.nil_append]
  have o := o.front 1 rfl
  simp only [List.eraseIdx_cons_zero, List.eraseIdx_cons_succ] at o
  exact g_areturn cx o rfl d3_29 (by decide) (by decide) ⟨_, _, _, rfl, rfl⟩
theorem d5_0 : decode prog_37_method_7_code 0 = .ok (.aload_n 0, 1) := by decide +kernel
theorem d5_1 : decode prog_37_method_7_code 1 = .ok (.getfield 7, 3) := by decide +kernel
theorem d5_4 : decode prog_37_method_7_code 4 = .ok (.ifnull 21, 3) := by decide +kernel
theorem d5_7 : decode prog_37_method_7_code 7 = .ok (.iload_n 1, 1) := by decide +kernel
theorem d5_8 : decode prog_37_method_7_code 8 = .ok (.aload_n 0, 1) := by decide +kernel
theorem d5_9 : decode prog_37_method_7_code 9 = .ok (.getfield 7, 3) := by decide +kernel
theorem d5_12 : decode prog_37_method_7_code 12 = .ok (.arraylength, 1) := by decide +kernel
theorem d5_13 : decode prog_37_method_7_code 13 = .ok (.if_icmp .ge 16, 3) := by decide +kernel
theorem d5_16 : decode prog_37_method_7_code 16 = .ok (.aload_n 0, 1) := by decide +kernel
theorem d5_17 : decode prog_37_method_7_code 17 = .ok (.getfield 7, 3) := by decide +kernel
theorem d5_20 : decode prog_37_method_7_code 20 = .ok (.iload_n 1, 1) := by decide +kernel
theorem d5_21 : decode prog_37_method_7_code 21 = .ok (.baload, 1) := by decide +kernel
theorem d5_22 : decode prog_37_method_7_code 22 = .ok (.ifCond .eq 7, 3) := by decide +kernel
theorem d5_25 : decode prog_37_method_7_code 25 = .ok (.iconst 1, 1) := by decide +kernel
theorem d5_26 : decode prog_37_method_7_code 26 = .ok (.goto 4, 3) := by decide +kernel
theorem d5_29 : decode prog_37_method_7_code 29 = .ok (.iconst 0, 1) := by decide +kernel
theorem d5_30 : decode prog_37_method_7_code 30 = .ok (.ireturn, 1) := by decide +kernel
theorem pn_5 : plainName "com/example/dendrosite/dendrosite/tree/Region" = true := by first | (simp [plainName, overriddenIn]; done) | decide +kernel
theorem pd_5 : parseMethodDescriptor "(I)Z" = some ⟨[.int], some .boolean⟩ := by decide +kernel
set_option maxHeartbeats 4000000 in
theorem ef_5a (m : MethodId) (x0 : Addr) (x1 : Int32) : entryFrame m ([(.ref x0), (.int x1)] : List Value).toArray 2 = mkF m 0 #[.val (.ref x0), .val (.int x1)] [] := by first | (simp [entryFrame, mkF, argsToLocals, Value.category, maxLocals]; done) | rfl
set_option maxHeartbeats 40000000 in
theorem rmC1 (l : Launch) (Z : State) (a0 : Array Value) (hw : ∀ d ∈ tables_1, d.before a0 Z = true) (rg cv ea : Addr) (bs : List Int32) (hl : bs.length ≤ 8) (q : Nat) (x : Int32) (hq : bs[q]? = some x) (F : List oEnt) :
    oMeets l Z (⟨"com/example/dendrosite/dendrosite/tree/Region", "contains", "(I)Z"⟩ : MethodName) prog_37_method_7_code 2 (some .boolean) ({ frames := 0, cells := 0, slots := 0, locals := 0 } : Room) [(.ref rg), (.int (Int32.ofNat q))] ((rg, oObj Z a0 "com/example/dendrosite/dendrosite/tree/Region" [("com/example/dendrosite/dendrosite/tree/Region", "vertices", "[Z", (.ref cv)), ("com/example/dendrosite/dendrosite/tree/Region", "firstStretch", "[I", .null), ("com/example/dendrosite/dendrosite/tree/Region", "starts", "[D", .null), ("com/example/dendrosite/dendrosite/tree/Region", "ends", "[D", (.ref ea))]) :: (ea, oArr Z .double []) :: (cv, oArrE Z "[Z" .boolean (oBs bs)) :: F) (fun v L' => v = some (.int (if x = 0 then 0 else 1)) ∧ L' = ((rg, oObj Z a0 "com/example/dendrosite/dendrosite/tree/Region" [("com/example/dendrosite/dendrosite/tree/Region", "vertices", "[Z", (.ref cv)), ("com/example/dendrosite/dendrosite/tree/Region", "firstStretch", "[I", .null), ("com/example/dendrosite/dendrosite/tree/Region", "starts", "[D", .null), ("com/example/dendrosite/dendrosite/tree/Region", "ends", "[D", (.ref ea))]) :: (ea, oArr Z .double []) :: (cv, oArrE Z "[Z" .boolean (oBs bs)) :: F)) := by
  refine oMeets.of (y := (⟨"com/example/dendrosite/dendrosite/tree/Region", "contains", "(I)Z"⟩ : MethodName)) (plainFor_of_name pn_5) fun p e s m below meth c T cx o => ?_
  refine oGo.top (ef_5a m _ _) ?_
  have qb : q < bs.length := (List.getElem?_eq_some_iff.mp hq).1
  refine g_aloadN cx o (pc' := 1) d5_0 rfl rfl rfl ?_
  refine g_getfield cx o (pc' := 4) (hw _ (List.mem_of_getElem? (i := 46) rfl)) 0 0 rfl rfl d5_1 rfl (fun T o => ?_)
  refine g_ifnull1 cx o (pc' := 7) d5_4 rfl ?_
  refine g_iloadN cx o (pc' := 8) d5_7 rfl rfl ?_
  refine g_aloadN cx o (pc' := 9) d5_8 rfl rfl rfl ?_
  refine g_getfield cx o (pc' := 12) (hw _ (List.mem_of_getElem? (i := 46) rfl)) 0 0 rfl rfl d5_9 rfl (fun T o => ?_)
  refine g_arraylengthE cx o (pc' := 13) 2 (Int32.ofNat bs.length) rfl (by rw [o_bsl]) d5_12 rfl ?_
  refine g_icmp_ge cx o (pc' := 29) (pc2 := 16) d5_13 (by decide) (by decide) rfl (fun c13 => absurd ((o_lt (by omega) (by omega)).mpr qb) c13) (fun c13 => ?_)
  refine g_aloadN cx o (pc' := 17) d5_16 rfl rfl rfl ?_
  refine g_getfield cx o (pc' := 20) (hw _ (List.mem_of_getElem? (i := 46) rfl)) 0 0 rfl rfl d5_17 rfl (fun T o => ?_)
  refine g_iloadN cx o (pc' := 21) d5_20 rfl rfl ?_
  refine g_zaloadE cx o (pc' := 22) 2 q rfl rfl (o_bsg hq) d5_21 rfl ?_
  refine g_if_eq cx o (pc' := 29) (pc2 := 25) d5_22 (by decide) (by decide) rfl (fun c22 => ?_) (fun c22 => ?_)
  · refine g_iconst cx o (pc' := 30) (0 : Int32) d5_29 rfl rfl ?_
    exact g_ireturnZ cx o d5_30 (by decide) (by decide) (by decide) ⟨by rw [if_pos c22], rfl⟩
  · refine g_iconst cx o (pc' := 26) (1 : Int32) d5_25 rfl rfl ?_
    refine g_goto cx o (pc' := 30) d5_26 (by decide) (by decide) ?_
    exact g_ireturnZ cx o d5_30 (by decide) (by decide) (by decide) ⟨by rw [if_neg c22], rfl⟩
set_option maxHeartbeats 4000000 in
theorem ef_5b (m : MethodId) (x0 : Addr) (x1 : Int32) : entryFrame m ([(.ref x0), (.int x1)] : List Value).toArray 2 = mkF m 0 #[.val (.ref x0), .val (.int x1)] [] := by first | (simp [entryFrame, mkF, argsToLocals, Value.category, maxLocals]; done) | rfl
set_option maxHeartbeats 40000000 in
theorem rmC0 (l : Launch) (Z : State) (a0 : Array Value) (hw : ∀ d ∈ tables_1, d.before a0 Z = true) (rg cv ea : Addr) (bs : List Int32) (hl : bs.length ≤ 8) (q : Nat) (h9 : q ≤ 9) (hq : bs.length ≤ q) (F : List oEnt) :
    oMeets l Z (⟨"com/example/dendrosite/dendrosite/tree/Region", "contains", "(I)Z"⟩ : MethodName) prog_37_method_7_code 2 (some .boolean) ({ frames := 0, cells := 0, slots := 0, locals := 0 } : Room) [(.ref rg), (.int (Int32.ofNat q))] ((rg, oObj Z a0 "com/example/dendrosite/dendrosite/tree/Region" [("com/example/dendrosite/dendrosite/tree/Region", "vertices", "[Z", (.ref cv)), ("com/example/dendrosite/dendrosite/tree/Region", "firstStretch", "[I", .null), ("com/example/dendrosite/dendrosite/tree/Region", "starts", "[D", .null), ("com/example/dendrosite/dendrosite/tree/Region", "ends", "[D", (.ref ea))]) :: (ea, oArr Z .double []) :: (cv, oArrE Z "[Z" .boolean (oBs bs)) :: F) (fun v L' => v = some (.int 0) ∧ L' = ((rg, oObj Z a0 "com/example/dendrosite/dendrosite/tree/Region" [("com/example/dendrosite/dendrosite/tree/Region", "vertices", "[Z", (.ref cv)), ("com/example/dendrosite/dendrosite/tree/Region", "firstStretch", "[I", .null), ("com/example/dendrosite/dendrosite/tree/Region", "starts", "[D", .null), ("com/example/dendrosite/dendrosite/tree/Region", "ends", "[D", (.ref ea))]) :: (ea, oArr Z .double []) :: (cv, oArrE Z "[Z" .boolean (oBs bs)) :: F)) := by
  refine oMeets.of (y := (⟨"com/example/dendrosite/dendrosite/tree/Region", "contains", "(I)Z"⟩ : MethodName)) (plainFor_of_name pn_5) fun p e s m below meth c T cx o => ?_
  refine oGo.top (ef_5b m _ _) ?_
  refine g_aloadN cx o (pc' := 1) d5_0 rfl rfl rfl ?_
  refine g_getfield cx o (pc' := 4) (hw _ (List.mem_of_getElem? (i := 46) rfl)) 0 0 rfl rfl d5_1 rfl (fun T o => ?_)
  refine g_ifnull1 cx o (pc' := 7) d5_4 rfl ?_
  refine g_iloadN cx o (pc' := 8) d5_7 rfl rfl ?_
  refine g_aloadN cx o (pc' := 9) d5_8 rfl rfl rfl ?_
  refine g_getfield cx o (pc' := 12) (hw _ (List.mem_of_getElem? (i := 46) rfl)) 0 0 rfl rfl d5_9 rfl (fun T o => ?_)
  refine g_arraylengthE cx o (pc' := 13) 2 (Int32.ofNat bs.length) rfl (by rw [o_bsl]) d5_12 rfl ?_
  refine g_icmp_ge cx o (pc' := 29) (pc2 := 16) d5_13 (by decide) (by decide) rfl (fun c13 => ?_) (fun c13 => absurd ((o_lt (by omega) (by omega)).mp c13) (by omega))
  refine g_iconst cx o (pc' := 30) (0 : Int32) d5_29 rfl rfl ?_
  exact g_ireturnZ cx o d5_30 (by decide) (by decide) (by decide) ⟨rfl, rfl⟩
theorem d6_0 : decode prog_37_method_5_code 0 = .ok (.aload_n 0, 1) := by decide +kernel
theorem d6_1 : decode prog_37_method_5_code 1 = .ok (.getfield 7, 3) := by decide +kernel
theorem d6_4 : decode prog_37_method_5_code 4 = .ok (.ifnull 11, 3) := by decide +kernel
theorem d6_7 : decode prog_37_method_5_code 7 = .ok (.aload_n 0, 1) := by decide +kernel
theorem d6_8 : decode prog_37_method_5_code 8 = .ok (.getfield 21, 3) := by decide +kernel
theorem d6_11 : decode prog_37_method_5_code 11 = .ok (.arraylength, 1) := by decide +kernel
theorem d6_12 : decode prog_37_method_5_code 12 = .ok (.ifCond .le 5, 3) := by decide +kernel
theorem d6_15 : decode prog_37_method_5_code 15 = .ok (.iconst 0, 1) := by decide +kernel
theorem d6_16 : decode prog_37_method_5_code 16 = .ok (.ireturn, 1) := by decide +kernel
theorem d6_17 : decode prog_37_method_5_code 17 = .ok (.aload_n 0, 1) := by decide +kernel
theorem d6_18 : decode prog_37_method_5_code 18 = .ok (.getfield 7, 3) := by decide +kernel
theorem d6_21 : decode prog_37_method_5_code 21 = .ok (.astore_n 1, 1) := by decide +kernel
theorem d6_22 : decode prog_37_method_5_code 22 = .ok (.aload_n 1, 1) := by decide +kernel
theorem d6_23 : decode prog_37_method_5_code 23 = .ok (.arraylength, 1) := by decide +kernel
theorem d6_24 : decode prog_37_method_5_code 24 = .ok (.istore_n 2, 1) := by decide +kernel
theorem d6_25 : decode prog_37_method_5_code 25 = .ok (.iconst 0, 1) := by decide +kernel
theorem d6_26 : decode prog_37_method_5_code 26 = .ok (.istore_n 3, 1) := by decide +kernel
theorem d6_27 : decode prog_37_method_5_code 27 = .ok (.iload_n 3, 1) := by decide +kernel
theorem d6_28 : decode prog_37_method_5_code 28 = .ok (.iload_n 2, 1) := by decide +kernel
theorem d6_29 : decode prog_37_method_5_code 29 = .ok (.if_icmp .ge 21, 3) := by decide +kernel
theorem d6_32 : decode prog_37_method_5_code 32 = .ok (.aload_n 1, 1) := by decide +kernel
theorem d6_33 : decode prog_37_method_5_code 33 = .ok (.iload_n 3, 1) := by decide +kernel
theorem d6_34 : decode prog_37_method_5_code 34 = .ok (.baload, 1) := by decide +kernel
theorem d6_35 : decode prog_37_method_5_code 35 = .ok (.istore 4, 2) := by decide +kernel
theorem d6_37 : decode prog_37_method_5_code 37 = .ok (.iload 4, 2) := by decide +kernel
theorem d6_39 : decode prog_37_method_5_code 39 = .ok (.ifCond .eq 5, 3) := by decide +kernel
theorem d6_42 : decode prog_37_method_5_code 42 = .ok (.iconst 0, 1) := by decide +kernel
theorem d6_43 : decode prog_37_method_5_code 43 = .ok (.ireturn, 1) := by decide +kernel
theorem d6_44 : decode prog_37_method_5_code 44 = .ok (.iinc 3 1, 3) := by decide +kernel
theorem d6_47 : decode prog_37_method_5_code 47 = .ok (.goto (-20), 3) := by decide +kernel
theorem d6_50 : decode prog_37_method_5_code 50 = .ok (.iconst 1, 1) := by decide +kernel
theorem d6_51 : decode prog_37_method_5_code 51 = .ok (.ireturn, 1) := by decide +kernel
theorem pn_6 : plainName "com/example/dendrosite/dendrosite/tree/Region" = true := by first | (simp [plainName, overriddenIn]; done) | decide +kernel
theorem pd_6 : parseMethodDescriptor "()Z" = some ⟨[], some .boolean⟩ := by decide +kernel
set_option maxHeartbeats 4000000 in
theorem ef_6 (m : MethodId) (x0 : Addr) : entryFrame m ([(.ref x0)] : List Value).toArray 5 = mkF m 0 #[.val (.ref x0), .unset, .unset, .unset, .unset] [] := by first | (simp [entryFrame, mkF, argsToLocals, Value.category, maxLocals]; done) | rfl
set_option maxHeartbeats 40000000 in
theorem rmE (l : Launch) (Z : State) (a0 : Array Value) (hw : ∀ d ∈ tables_1, d.before a0 Z = true) (rg cv ea : Addr) (bs : List Int32) (hl : bs.length ≤ 8) (F : List oEnt) :
    oMeets l Z (⟨"com/example/dendrosite/dendrosite/tree/Region", "isEmpty", "()Z"⟩ : MethodName) prog_37_method_5_code 5 (some .boolean) ({ frames := 0, cells := 0, slots := 0, locals := 0 } : Room) [(.ref rg)] ((rg, oObj Z a0 "com/example/dendrosite/dendrosite/tree/Region" [("com/example/dendrosite/dendrosite/tree/Region", "vertices", "[Z", (.ref cv)), ("com/example/dendrosite/dendrosite/tree/Region", "firstStretch", "[I", .null), ("com/example/dendrosite/dendrosite/tree/Region", "starts", "[D", .null), ("com/example/dendrosite/dendrosite/tree/Region", "ends", "[D", (.ref ea))]) :: (ea, oArr Z .double []) :: (cv, oArrE Z "[Z" .boolean (oBs bs)) :: F) (fun v L' => v = some (.int (if ∀ b ∈ bs, b = 0 then 1 else 0)) ∧ L' = ((rg, oObj Z a0 "com/example/dendrosite/dendrosite/tree/Region" [("com/example/dendrosite/dendrosite/tree/Region", "vertices", "[Z", (.ref cv)), ("com/example/dendrosite/dendrosite/tree/Region", "firstStretch", "[I", .null), ("com/example/dendrosite/dendrosite/tree/Region", "starts", "[D", .null), ("com/example/dendrosite/dendrosite/tree/Region", "ends", "[D", (.ref ea))]) :: (ea, oArr Z .double []) :: (cv, oArrE Z "[Z" .boolean (oBs bs)) :: F)) := by
  refine oMeets.of (y := (⟨"com/example/dendrosite/dendrosite/tree/Region", "isEmpty", "()Z"⟩ : MethodName)) (plainFor_of_name pn_6) fun p e s m below meth c T cx o => ?_
  refine oGo.top (ef_6 m _) ?_
  refine g_aloadN cx o (pc' := 1) d6_0 rfl rfl rfl ?_
  refine g_getfield cx o (pc' := 4) (hw _ (List.mem_of_getElem? (i := 46) rfl)) 0 0 rfl rfl d6_1 rfl (fun T o => ?_)
  refine g_ifnull1 cx o (pc' := 7) d6_4 rfl ?_
  refine g_aloadN cx o (pc' := 8) d6_7 rfl rfl rfl ?_
  refine g_getfield cx o (pc' := 11) (hw _ (List.mem_of_getElem? (i := 52) rfl)) 0 3 rfl rfl d6_8 rfl (fun T o => ?_)
  refine g_arraylength cx o (pc' := 12) 1 (0 : Int32) rfl rfl d6_11 rfl ?_
  refine g_if_le cx o (pc' := 17) (pc2 := 15) d6_12 (by decide) (by decide) rfl (fun c12 => ?_) (fun c12 => absurd c12 (by decide))
  refine g_aloadN cx o (pc' := 18) d6_17 rfl rfl rfl ?_
  refine g_getfield cx o (pc' := 21) (hw _ (List.mem_of_getElem? (i := 46) rfl)) 0 0 rfl rfl d6_18 rfl (fun T o => ?_)
  refine g_astoreN cx o (pc' := 22) (l' := #[.val (.ref rg), .val (.ref cv), .unset, .unset, .unset]) d6_21 rfl rfl rfl ?_
  refine g_aloadN cx o (pc' := 23) d6_22 rfl rfl rfl ?_
  refine g_arraylengthE cx o (pc' := 24) 2 (Int32.ofNat bs.length) rfl (by rw [o_bsl]) d6_23 rfl ?_
  refine g_istoreN cx o (pc' := 25) (l' := #[.val (.ref rg), .val (.ref cv), .val (.int (Int32.ofNat bs.length)), .unset, .unset]) d6_24 rfl rfl ?_
  refine g_iconst cx o (pc' := 26) (0 : Int32) d6_25 rfl rfl ?_
  refine g_istoreN cx o (pc' := 27) (l' := #[.val (.ref rg), .val (.ref cv), .val (.int (Int32.ofNat bs.length)), .val (.int (0 : Int32)), .unset]) d6_26 rfl rfl ?_
  have H : ∀ (d j : Nat) (x4 : Slot), (∀ w : Int32, storeLocals #[.val (.ref rg), .val (.ref cv), .val (.int (Int32.ofNat bs.length)), .val (.int (Int32.ofNat j)), x4] 4 (.int w) = some #[.val (.ref rg), .val (.ref cv), .val (.int (Int32.ofNat bs.length)), .val (.int (Int32.ofNat j)), .val (.int w)]) → j + d = bs.length → (∀ i, i < j → ∀ b, bs[i]? = some b → b = 0) → oGo p e below (oEnd s Z (fun v L' => v = some (.int (if ∀ b ∈ bs, b = 0 then 1 else 0)) ∧ L' = ((rg, oObj Z a0 "com/example/dendrosite/dendrosite/tree/Region" [("com/example/dendrosite/dendrosite/tree/Region", "vertices", "[Z", (.ref cv)), ("com/example/dendrosite/dendrosite/tree/Region", "firstStretch", "[I", .null), ("com/example/dendrosite/dendrosite/tree/Region", "starts", "[D", .null), ("com/example/dendrosite/dendrosite/tree/Region", "ends", "[D", (.ref ea))]) :: (ea, oArr Z .double []) :: (cv, oArrE Z "[Z" .boolean (oBs bs)) :: F)) 0 0) (T.setTop (mkF m 27 #[.val (.ref rg), .val (.ref cv), .val (.int (Int32.ofNat bs.length)), .val (.int (Int32.ofNat j)), x4] [])) := by
    intro d
    induction d with
    | zero =>
      intro j x4 hx4 hj hz
      refine g_iloadN cx o (pc' := 28) d6_27 rfl rfl ?_
      refine g_iloadN cx o (pc' := 29) d6_28 rfl rfl ?_
      refine g_icmp_ge cx o (pc' := 50) (pc2 := 32) d6_29 (by decide) (by decide) rfl (fun c29 => ?_) (fun c29 => absurd ((o_lt (by omega) (by omega)).mp c29) (by omega))
      refine g_iconst cx o (pc' := 51) (1 : Int32) d6_50 rfl rfl ?_
      have all : ∀ b ∈ bs, b = 0 := fun b hb => by
        obtain ⟨i, hi⟩ := List.mem_iff_getElem?.mp hb
        exact hz i (by have := (List.getElem?_eq_some_iff.mp hi).1; omega) b hi
      exact g_ireturnZ cx o d6_51 (by decide) (by decide) (by decide) ⟨by rw [if_pos all], rfl⟩
    | succ d ih =>
      intro j x4 hx4 hj hz
      obtain ⟨x, hx⟩ : ∃ x, bs[j]? = some x := ⟨_, List.getElem?_eq_getElem (by omega)⟩
      refine g_iloadN cx o (pc' := 28) d6_27 rfl rfl ?_
      refine g_iloadN cx o (pc' := 29) d6_28 rfl rfl ?_
      refine g_icmp_ge cx o (pc' := 50) (pc2 := 32) d6_29 (by decide) (by decide) rfl (fun c29 => absurd ((o_lt (by omega) (by omega)).mpr (by omega)) c29) (fun c29 => ?_)
      refine g_aloadN cx o (pc' := 33) d6_32 rfl rfl rfl ?_
      refine g_iloadN cx o (pc' := 34) d6_33 rfl rfl ?_
      refine g_zaloadE cx o (pc' := 35) 2 j rfl rfl (o_bsg hx) d6_34 rfl ?_
      refine g_istore cx o (pc' := 37) (l' := #[.val (.ref rg), .val (.ref cv), .val (.int (Int32.ofNat bs.length)), .val (.int (Int32.ofNat j)), .val (.int x)]) d6_35 rfl (hx4 x) ?_
      refine g_iload cx o (pc' := 39) d6_37 rfl rfl ?_
      refine g_if_eq cx o (pc' := 44) (pc2 := 42) d6_39 (by decide) (by decide) rfl (fun c39 => ?_) (fun c39 => ?_)
      · refine g_iinc cx o (pc' := 47) (Int32.ofNat (j + 1)) (l' := #[.val (.ref rg), .val (.ref cv), .val (.int (Int32.ofNat bs.length)), .val (.int (Int32.ofNat (j + 1))), .val (.int x)]) d6_44 rfl rfl (by rw [Int32.ofNat_add]; rfl) rfl ?_
        refine g_goto cx o (pc' := 27) d6_47 (by decide) (by decide) ?_
        exact ih (j + 1) _ (fun _ => rfl) (by omega) (fun i hi b hb => by
          rcases Nat.lt_succ_iff_lt_or_eq.mp hi with q | q
          · exact hz i q b hb
          · subst q; rw [hx] at hb; cases hb; exact c39)
      · refine g_iconst cx o (pc' := 43) (0 : Int32) d6_42 rfl rfl ?_
        exact g_ireturnZ cx o d6_43 (by decide) (by decide) (by decide) ⟨by rw [if_neg (fun q => c39 (q x (List.mem_of_getElem? hx)))], rfl⟩
  exact H bs.length 0 .unset (fun _ => rfl) (by omega) (fun i hi => absurd hi (Nat.not_lt_zero _))
theorem pn_0 : plainName "com/example/dendrosite/dendrosite/tree/BuilderAddVertexPinLaw" = true := by first | (simp [plainName, overriddenIn]; done) | decide +kernel
theorem pd_0 : parseMethodDescriptor "(IIII)Z" = some ⟨[.int, .int, .int, .int], some .boolean⟩ := by decide +kernel
set_option maxHeartbeats 4000000 in
theorem ef_0 (m : MethodId) (x0 : Int32) (x1 : Int32) (x2 : Int32) (x3 : Int32) : entryFrame m ([(.int x0), (.int x1), (.int x2), (.int x3)] : List Value).toArray maxLocals = mkF m 0 #[.val (.int x0), .val (.int x1), .val (.int x2), .val (.int x3), .unset, .unset, .unset, .unset, .unset, .unset, .unset, .unset] [] := by first | (simp [entryFrame, mkF, argsToLocals, Value.category, maxLocals]; done) | rfl
set_option maxHeartbeats 40000000 in
theorem rm0 (l : Launch) (Z : State) (a0 : Array Value) (hw : ∀ d ∈ tables_1, d.before a0 Z = true) (p0 p1 p2 p3 : Int32) :
    oMeets l Z x code maxLocals ret room_1 [(.int p0), (.int p1), (.int p2), (.int p3)] [] (fun v _ => v = some (.int 1)) := by
  refine oMeets.of (y := x) (plainFor_of_name pn_0) fun p e s m below meth c T cx o => ?_
  have cx : oCx p s m meth c Z "com/example/dendrosite/dendrosite/tree/BuilderAddVertexPinLaw" "law" code maxLocals ret := cx
  refine oGo.top (ef_0 m _ _ _ _) ?_
  refine g_iconst cx o (pc' := 1) (1 : Int32) at_0 rfl rfl ?_
  refine g_iloadN cx o (pc' := 2) at_1 rfl rfl ?_
  refine g_bipush cx o (pc' := 4) (7 : Int32) at_2 rfl (by decide) ?_
  refine g_iand cx o (pc' := 5) at_4 rfl ?_
  refine g_iadd cx o (pc' := 6) at_5 rfl ?_
  refine g_istoreV cx o (pc' := 8) (fun w' => #[.val (.int p0), .val (.int p1), .val (.int p2), .val (.int p3), .val (.int w'), .unset, .unset, .unset, .unset, .unset, .unset, .unset]) at_6 rfl (fun _ => rfl) (fun nn h_nn => ?_)
  obtain ⟨n, n1, n8, en⟩ := o_n8 p0
  rw [en] at h_nn; subst h_nn
  refine g_iloadN cx o (pc' := 9) at_8 rfl rfl ?_
  refine g_iconst cx o (pc' := 10) (3 : Int32) at_9 rfl rfl ?_
  refine g_iushr cx o (pc' := 11) at_10 rfl ?_
  refine g_iconst cx o (pc' := 12) (3 : Int32) at_11 rfl rfl ?_
  refine g_iand cx o (pc' := 13) at_12 rfl ?_
  refine g_iconst cx o (pc' := 14) (3 : Int32) at_13 rfl rfl ?_
  refine g_irem cx o (pc' := 15) at_14 rfl (by decide) ?_
  refine g_istoreV cx o (pc' := 17) (fun w' => #[.val (.int p0), .val (.int p1), .val (.int p2), .val (.int p3), .val (.int (Int32.ofNat n)), .val (.int w'), .unset, .unset, .unset, .unset, .unset, .unset]) at_15 rfl (fun _ => rfl) (fun kk h_kk => ?_)
  refine g_iloadN cx o (pc' := 18) at_17 rfl rfl ?_
  refine g_ldc cx o (pc' := 20) (z := 2147483647) (hw _ (List.mem_of_getElem? (i := 0) rfl)) at_18 rfl ?_
  refine g_iand cx o (pc' := 21) at_20 rfl ?_
  refine g_iload cx o (pc' := 23) at_21 rfl rfl ?_
  refine g_irem cx o (pc' := 24) at_23 rfl (fun q => absurd ((o_inj (b := 0) (by omega) (by decide)).mp q) (by omega)) ?_
  refine g_istoreV cx o (pc' := 26) (fun w' => #[.val (.int p0), .val (.int p1), .val (.int p2), .val (.int p3), .val (.int (Int32.ofNat n)), .val (.int kk), .val (.int w'), .unset, .unset, .unset, .unset, .unset]) at_24 rfl (fun _ => rfl) (fun v1 h_v1 => ?_)
  refine g_iloadN cx o (pc' := 27) at_26 rfl rfl ?_
  refine g_ldc cx o (pc' := 29) (z := 2147483647) (hw _ (List.mem_of_getElem? (i := 0) rfl)) at_27 rfl ?_
  refine g_iand cx o (pc' := 30) at_29 rfl ?_
  refine g_iload cx o (pc' := 32) at_30 rfl rfl ?_
  refine g_irem cx o (pc' := 33) at_32 rfl (fun q => absurd ((o_inj (b := 0) (by omega) (by decide)).mp q) (by omega)) ?_
  refine g_istoreV cx o (pc' := 35) (fun w' => #[.val (.int p0), .val (.int p1), .val (.int p2), .val (.int p3), .val (.int (Int32.ofNat n)), .val (.int kk), .val (.int v1), .val (.int w'), .unset, .unset, .unset, .unset]) at_33 rfl (fun _ => rfl) (fun v2 h_v2 => ?_)
  obtain ⟨V, hV, eV⟩ := o_modn p1 n1 (by omega)
  rw [eV] at h_v1; subst h_v1
  obtain ⟨U, hU, eU⟩ := o_modn p2 n1 (by omega)
  rw [eU] at h_v2; subst h_v2
  have en1 : Int32.ofNat n + (1 : Int32) = Int32.ofNat (n + 1) := by rw [Int32.ofNat_add]; rfl
  refine g_iloadN cx o (pc' := 36) at_35 rfl rfl ?_
  refine g_ldc cx o (pc' := 38) (z := 2147483647) (hw _ (List.mem_of_getElem? (i := 0) rfl)) at_36 rfl ?_
  refine g_iand cx o (pc' := 39) at_38 rfl ?_
  refine g_iload cx o (pc' := 41) at_39 rfl rfl ?_
  refine g_iconst cx o (pc' := 42) (1 : Int32) at_41 rfl rfl ?_
  refine g_iadd cx o (pc' := 43) at_42 rfl ?_
  refine g_irem cx o (pc' := 44) at_43 rfl (fun q => absurd ((o_inj (b := 0) (by omega) (by decide)).mp (en1.symm.trans q)) (by omega)) ?_
  refine g_istoreV cx o (pc' := 46) (fun w' => #[.val (.int p0), .val (.int p1), .val (.int p2), .val (.int p3), .val (.int (Int32.ofNat n)), .val (.int kk), .val (.int (Int32.ofNat V)), .val (.int (Int32.ofNat U)), .val (.int w'), .unset, .unset, .unset]) at_44 rfl (fun _ => rfl) (fun qq h_qq => ?_)
  obtain ⟨q, hq, eq⟩ := o_modn p3 (n := n + 1) (by omega) (by omega)
  rw [en1, eq] at h_qq; subst h_qq
  refine g_new cx o (pc' := 49) (hw _ (List.mem_of_getElem? (i := 1) rfl)) (hw _ (List.mem_of_getElem? (i := 2) rfl)) (hw _ (List.mem_of_getElem? (i := 3) rfl)) (fs_Region_Builder hw) (by decide) (by decide) at_46 rfl (fun T bd o => ?_)
  refine g_dup cx o (pc' := 50) at_49 rfl rfl ?_
  refine g_iload cx o (pc' := 52) at_50 rfl rfl ?_
  refine g_special cx o (pc' := 55) (y := (⟨"com/example/dendrosite/dendrosite/tree/Region$Builder", "<init>", "(I)V"⟩ : MethodName)) rfl (hw _ (List.mem_of_getElem? (i := 4) rfl)) (hw _ (List.mem_of_getElem? (i := 5) rfl)) (hw _ (List.mem_of_getElem? (i := 3) rfl)) (hw _ (List.mem_of_getElem? (i := 6) rfl)) (rmB l Z a0 hw bd _ _)  rfl pd_1 rfl (by decide) rfl 1 (Nat.le_of_eq rfl) (by decide) (by decide) (by decide) (by decide) at_52 rfl (fun T v L hQ o => ?_)
  obtain ⟨rfl, v0, ed, st, en_, rfl⟩ := hQ
  simp only [Option.toList_some, Option.toList_none, List.cons_append, List.nil_append]
  have o := o.front 3 rfl
  simp only [List.eraseIdx_cons_zero, List.eraseIdx_cons_succ] at o
  have o := o.front 4 rfl
  simp only [List.eraseIdx_cons_zero, List.eraseIdx_cons_succ] at o
  have kn : kk = 0 ∨ kk = 1 ∨ kk = 2 := by rw [h_kk]; exact o_k3 _
  clear h_kk
  rcases kn with rfl | rfl | rfl
  · refine g_astore cx o (pc' := 57) (l' := #[.val (.int p0), .val (.int p1), .val (.int p2), .val (.int p3), .val (.int (Int32.ofNat n)), .val (.int (0 : Int32)), .val (.int (Int32.ofNat V)), .val (.int (Int32.ofNat U)), .val (.int (Int32.ofNat q)), .val (.ref bd), .unset, .unset]) at_55 rfl rfl rfl ?_
    refine g_iload cx o (pc' := 59) at_57 rfl rfl ?_
    refine g_iconst cx o (pc' := 60) (1 : Int32) at_59 rfl rfl ?_
    refine g_icmp_lt cx o (pc' := 70) (pc2 := 63) at_60 (by decide) (by decide) rfl (fun c60 => ?_) (fun c60 => absurd (by decide) c60)
    refine g_iload cx o (pc' := 72) at_70 rfl rfl ?_
    refine g_iconst cx o (pc' := 73) (2 : Int32) at_72 rfl rfl ?_
    refine g_icmp_lt cx o (pc' := 83) (pc2 := 76) at_73 (by decide) (by decide) rfl (fun c73 => ?_) (fun c73 => absurd (by decide) c73)
    have bl : ([] : List Int32).length ≤ 8 := by decide
    refine g_aload cx o (pc' := 85) at_83 rfl rfl rfl ?_
    refine g_iconst cx o (pc' := 86) (0 : Int32) at_85 rfl rfl ?_
    refine g_newarray cx o (pc' := 88) (vs := []) (hw _ (List.mem_of_getElem? (i := 13) rfl)) rfl 0 0 rfl rfl (by decide) (by decide) (by decide) (by decide) at_86 rfl (fun T r1 o => ?_)
    refine g_iconst cx o (pc' := 89) (0 : Int32) at_88 rfl rfl ?_
    refine g_newarray cx o (pc' := 91) (vs := []) (hw _ (List.mem_of_getElem? (i := 13) rfl)) rfl 0 0 rfl rfl (by decide) (by decide) (by decide) (by decide) at_89 rfl (fun T r2 o => ?_)
    refine g_iconst cx o (pc' := 92) (0 : Int32) at_91 rfl rfl ?_
    refine g_newarray cx o (pc' := 94) (vs := []) (hw _ (List.mem_of_getElem? (i := 16) rfl)) rfl 0 0 rfl rfl (by decide) (by decide) (by decide) (by decide) at_92 rfl (fun T r3 o => ?_)
    have o := o.front 4 rfl
    simp only [List.eraseIdx_cons_zero, List.eraseIdx_cons_succ] at o
    have o := o.front 4 rfl
    simp only [List.eraseIdx_cons_zero, List.eraseIdx_cons_succ] at o
    refine g_virtual cx o (pc' := 97) (y := (⟨"com/example/dendrosite/dendrosite/tree/Region$Builder", "build", "([I[I[D)Lcom/example/dendrosite/dendrosite/tree/Region;"⟩ : MethodName)) (z := (⟨"com/example/dendrosite/dendrosite/tree/Region$Builder", "build", "([I[I[D)Lcom/example/dendrosite/dendrosite/tree/Region;"⟩ : MethodName)) (hw _ (List.mem_of_getElem? (i := 23) rfl)) (hw _ (List.mem_of_getElem? (i := 24) rfl)) (notFace_of_selects (args := #[]) (mvT cx.2.1 (hw _ (List.mem_of_getElem? (i := 26) rfl)))) (hw _ (List.mem_of_getElem? (i := 26) rfl)) (hw _ (List.mem_of_getElem? (i := 25) rfl)) (hw _ (List.mem_of_getElem? (i := 3) rfl)) (hw _ (List.mem_of_getElem? (i := 27) rfl)) 0 rfl (rmU l Z a0 hw bd v0 ed st en_ r1 r2 r3 _ [] bl _)  rfl pd_3 rfl (by decide) rfl 0 (Nat.le_of_eq rfl) (by decide) (by decide) (by decide) (by decide) at_94 rfl (fun T v L hQ o => ?_)
    obtain ⟨rg, cv, ea, rfl, rfl⟩ := hQ
    simp only [Option.toList_some, Option.toList_none, List.cons_append, List.nil_append]
    refine g_astore cx o (pc' := 99) (l' := #[.val (.int p0), .val (.int p1), .val (.int p2), .val (.int p3), .val (.int (Int32.ofNat n)), .val (.int (0 : Int32)), .val (.int (Int32.ofNat V)), .val (.int (Int32.ofNat U)), .val (.int (Int32.ofNat q)), .val (.ref bd), .val (.ref rg), .unset]) at_97 rfl rfl rfl ?_
    refine g_iload cx o (pc' := 101) at_99 rfl rfl ?_
    refine g_iconst cx o (pc' := 102) (1 : Int32) at_101 rfl rfl ?_
    refine g_icmp_lt cx o (pc' := 112) (pc2 := 105) at_102 (by decide) (by decide) rfl (fun c102 => ?_) (fun c102 => absurd (by decide) c102)
    refine g_iload cx o (pc' := 114) at_112 rfl rfl ?_
    refine g_iconst cx o (pc' := 115) (2 : Int32) at_114 rfl rfl ?_
    refine g_icmp_lt cx o (pc' := 129) (pc2 := 118) at_115 (by decide) (by decide) rfl (fun c115 => ?_) (fun c115 => absurd (by decide) c115)
    refine g_iconst cx o (pc' := 130) (0 : Int32) at_129 rfl rfl ?_
    refine g_istore cx o (pc' := 132) (l' := #[.val (.int p0), .val (.int p1), .val (.int p2), .val (.int p3), .val (.int (Int32.ofNat n)), .val (.int (0 : Int32)), .val (.int (Int32.ofNat V)), .val (.int (Int32.ofNat U)), .val (.int (Int32.ofNat q)), .val (.ref bd), .val (.ref rg), .val (.int (0 : Int32))]) at_130 rfl rfl ?_
    refine g_aload cx o (pc' := 134) at_132 rfl rfl rfl ?_
    refine g_iload cx o (pc' := 136) at_134 rfl rfl ?_
    refine g_virtual cx o (pc' := 139) (y := (⟨"com/example/dendrosite/dendrosite/tree/Region", "contains", "(I)Z"⟩ : MethodName)) (z := (⟨"com/example/dendrosite/dendrosite/tree/Region", "contains", "(I)Z"⟩ : MethodName)) (hw _ (List.mem_of_getElem? (i := 54) rfl)) (hw _ (List.mem_of_getElem? (i := 55) rfl)) (notFace_of_selects (args := #[]) (mvT cx.2.1 (hw _ (List.mem_of_getElem? (i := 57) rfl)))) (hw _ (List.mem_of_getElem? (i := 57) rfl)) (hw _ (List.mem_of_getElem? (i := 56) rfl)) (hw _ (List.mem_of_getElem? (i := 32) rfl)) (hw _ (List.mem_of_getElem? (i := 58) rfl)) 0 rfl (rmC0 l Z a0 hw rg cv ea [] bl q (by omega) (Nat.zero_le _) _)  rfl pd_5 rfl (by decide) rfl 0 (Nat.le_of_eq rfl) (by decide) (by decide) (by decide) (by decide) at_136 rfl (fun T v L hQ o => ?_)
    obtain ⟨rfl, rfl⟩ := hQ
    simp only [Option.toList_some, Option.toList_none, List.cons_append, List.nil_append]
    refine g_iload cx o (pc' := 141) at_139 rfl rfl ?_
    refine g_icmp_ne cx o (pc' := 166) (pc2 := 144) at_141 (by decide) (by decide) rfl (fun c141 => absurd rfl c141) (fun c141 => ?_)
    refine g_aload cx o (pc' := 146) at_144 rfl rfl rfl ?_
    refine g_virtual cx o (pc' := 149) (y := (⟨"com/example/dendrosite/dendrosite/tree/Region", "isEmpty", "()Z"⟩ : MethodName)) (z := (⟨"com/example/dendrosite/dendrosite/tree/Region", "isEmpty", "()Z"⟩ : MethodName)) (hw _ (List.mem_of_getElem? (i := 59) rfl)) (hw _ (List.mem_of_getElem? (i := 60) rfl)) (notFace_of_selects (args := #[]) (mvT cx.2.1 (hw _ (List.mem_of_getElem? (i := 62) rfl)))) (hw _ (List.mem_of_getElem? (i := 62) rfl)) (hw _ (List.mem_of_getElem? (i := 61) rfl)) (hw _ (List.mem_of_getElem? (i := 32) rfl)) (hw _ (List.mem_of_getElem? (i := 63) rfl)) 0 rfl (rmE l Z a0 hw rg cv ea [] bl _)  rfl pd_6 rfl (by decide) rfl 0 (Nat.le_of_eq rfl) (by decide) (by decide) (by decide) (by decide) at_146 rfl (fun T v L hQ o => ?_)
    obtain ⟨rfl, rfl⟩ := hQ
    simp only [Option.toList_some, Option.toList_none, List.cons_append, List.nil_append]
    refine g_iload cx o (pc' := 151) at_149 rfl rfl ?_
    refine g_if_ne cx o (pc' := 158) (pc2 := 154) at_151 (by decide) (by decide) rfl (fun c151 => absurd (by decide) c151) (fun c151 => ?_)
    refine g_iconst cx o (pc' := 155) (1 : Int32) at_154 rfl rfl ?_
    refine g_goto cx o (pc' := 159) at_155 (by decide) (by decide) ?_
    refine g_icmp_ne cx o (pc' := 166) (pc2 := 162) at_159 (by decide) (by decide) rfl (fun c159 => absurd (if_pos (fun b hb => absurd hb (List.not_mem_nil))) c159) (fun c159 => ?_)
    refine g_iconst cx o (pc' := 163) (1 : Int32) at_162 rfl rfl ?_
    refine g_goto cx o (pc' := 167) at_163 (by decide) (by decide) ?_
    exact g_ireturnZ cx o at_167 (by decide) (by decide) (by decide) rfl
  · refine g_astore cx o (pc' := 57) (l' := #[.val (.int p0), .val (.int p1), .val (.int p2), .val (.int p3), .val (.int (Int32.ofNat n)), .val (.int (1 : Int32)), .val (.int (Int32.ofNat V)), .val (.int (Int32.ofNat U)), .val (.int (Int32.ofNat q)), .val (.ref bd), .unset, .unset]) at_55 rfl rfl rfl ?_
    refine g_iload cx o (pc' := 59) at_57 rfl rfl ?_
    refine g_iconst cx o (pc' := 60) (1 : Int32) at_59 rfl rfl ?_
    refine g_icmp_lt cx o (pc' := 70) (pc2 := 63) at_60 (by decide) (by decide) rfl (fun c60 => absurd c60 (by decide)) (fun c60 => ?_)
    refine g_aload cx o (pc' := 65) at_63 rfl rfl rfl ?_
    refine g_iload cx o (pc' := 67) at_65 rfl rfl ?_
    refine g_virtual cx o (pc' := 70) (y := (⟨"com/example/dendrosite/dendrosite/tree/Region$Builder", "addVertex", "(I)V"⟩ : MethodName)) (z := (⟨"com/example/dendrosite/dendrosite/tree/Region$Builder", "addVertex", "(I)V"⟩ : MethodName)) (hw _ (List.mem_of_getElem? (i := 64) rfl)) (hw _ (List.mem_of_getElem? (i := 65) rfl)) (notFace_of_selects (args := #[]) (mvT cx.2.1 (hw _ (List.mem_of_getElem? (i := 67) rfl)))) (hw _ (List.mem_of_getElem? (i := 67) rfl)) (hw _ (List.mem_of_getElem? (i := 66) rfl)) (hw _ (List.mem_of_getElem? (i := 3) rfl)) (hw _ (List.mem_of_getElem? (i := 68) rfl)) 0 rfl (rmA1 l Z a0 hw bd v0 ed st en_ n V n8 hV _)  rfl pd_7 rfl (by decide) rfl 0 (Nat.le_of_eq rfl) (by decide) (by decide) (by decide) (by decide) at_67 rfl (fun T v L hQ o => ?_)
    obtain ⟨rfl, vr, rfl⟩ := hQ
    simp only [Option.toList_some, Option.toList_none, List.cons_append, List.nil_append]
    refine g_iload cx o (pc' := 72) at_70 rfl rfl ?_
    refine g_iconst cx o (pc' := 73) (2 : Int32) at_72 rfl rfl ?_
    refine g_icmp_lt cx o (pc' := 83) (pc2 := 76) at_73 (by decide) (by decide) rfl (fun c73 => ?_) (fun c73 => absurd (by decide) c73)
    have bl : ((List.replicate n (0 : Int32)).set V 1).length ≤ 8 := (by simp only [List.length_set, List.length_replicate]; omega)
    refine g_aload cx o (pc' := 85) at_83 rfl rfl rfl ?_
    refine g_iconst cx o (pc' := 86) (0 : Int32) at_85 rfl rfl ?_
    refine g_newarray cx o (pc' := 88) (vs := []) (hw _ (List.mem_of_getElem? (i := 13) rfl)) rfl 0 0 rfl rfl (by decide) (by decide) (by decide) (by decide) at_86 rfl (fun T r1 o => ?_)
    refine g_iconst cx o (pc' := 89) (0 : Int32) at_88 rfl rfl ?_
    refine g_newarray cx o (pc' := 91) (vs := []) (hw _ (List.mem_of_getElem? (i := 13) rfl)) rfl 0 0 rfl rfl (by decide) (by decide) (by decide) (by decide) at_89 rfl (fun T r2 o => ?_)
    refine g_iconst cx o (pc' := 92) (0 : Int32) at_91 rfl rfl ?_
    refine g_newarray cx o (pc' := 94) (vs := []) (hw _ (List.mem_of_getElem? (i := 16) rfl)) rfl 0 0 rfl rfl (by decide) (by decide) (by decide) (by decide) at_92 rfl (fun T r3 o => ?_)
    have o := o.front 3 rfl
    simp only [List.eraseIdx_cons_zero, List.eraseIdx_cons_succ] at o
    have o := o.front 4 rfl
    simp only [List.eraseIdx_cons_zero, List.eraseIdx_cons_succ] at o
    refine g_virtual cx o (pc' := 97) (y := (⟨"com/example/dendrosite/dendrosite/tree/Region$Builder", "build", "([I[I[D)Lcom/example/dendrosite/dendrosite/tree/Region;"⟩ : MethodName)) (z := (⟨"com/example/dendrosite/dendrosite/tree/Region$Builder", "build", "([I[I[D)Lcom/example/dendrosite/dendrosite/tree/Region;"⟩ : MethodName)) (hw _ (List.mem_of_getElem? (i := 23) rfl)) (hw _ (List.mem_of_getElem? (i := 24) rfl)) (notFace_of_selects (args := #[]) (mvT cx.2.1 (hw _ (List.mem_of_getElem? (i := 26) rfl)))) (hw _ (List.mem_of_getElem? (i := 26) rfl)) (hw _ (List.mem_of_getElem? (i := 25) rfl)) (hw _ (List.mem_of_getElem? (i := 3) rfl)) (hw _ (List.mem_of_getElem? (i := 27) rfl)) 0 rfl (rmU l Z a0 hw bd vr ed st en_ r1 r2 r3 _ ((List.replicate n (0 : Int32)).set V 1) bl _)  rfl pd_3 rfl (by decide) rfl 0 (Nat.le_of_eq rfl) (by decide) (by decide) (by decide) (by decide) at_94 rfl (fun T v L hQ o => ?_)
    obtain ⟨rg, cv, ea, rfl, rfl⟩ := hQ
    simp only [Option.toList_some, Option.toList_none, List.cons_append, List.nil_append]
    refine g_astore cx o (pc' := 99) (l' := #[.val (.int p0), .val (.int p1), .val (.int p2), .val (.int p3), .val (.int (Int32.ofNat n)), .val (.int (1 : Int32)), .val (.int (Int32.ofNat V)), .val (.int (Int32.ofNat U)), .val (.int (Int32.ofNat q)), .val (.ref bd), .val (.ref rg), .unset]) at_97 rfl rfl rfl ?_
    refine g_iload cx o (pc' := 101) at_99 rfl rfl ?_
    refine g_iconst cx o (pc' := 102) (1 : Int32) at_101 rfl rfl ?_
    refine g_icmp_lt cx o (pc' := 112) (pc2 := 105) at_102 (by decide) (by decide) rfl (fun c102 => absurd c102 (by decide)) (fun c102 => ?_)
    refine g_iload cx o (pc' := 107) at_105 rfl rfl ?_
    refine g_iload cx o (pc' := 109) at_107 rfl rfl ?_
    refine g_icmp_eq cx o (pc' := 125) (pc2 := 112) at_109 (by decide) (by decide) rfl (fun c109 => ?_) (fun c109 => ?_)
    · have qV := (o_inj (by omega) (by omega)).mp c109
      refine g_iconst cx o (pc' := 126) (1 : Int32) at_125 rfl rfl ?_
      refine g_goto cx o (pc' := 130) at_126 (by decide) (by decide) ?_
      refine g_istore cx o (pc' := 132) (l' := #[.val (.int p0), .val (.int p1), .val (.int p2), .val (.int p3), .val (.int (Int32.ofNat n)), .val (.int (1 : Int32)), .val (.int (Int32.ofNat V)), .val (.int (Int32.ofNat U)), .val (.int (Int32.ofNat q)), .val (.ref bd), .val (.ref rg), .val (.int (1 : Int32))]) at_130 rfl rfl ?_
      refine g_aload cx o (pc' := 134) at_132 rfl rfl rfl ?_
      refine g_iload cx o (pc' := 136) at_134 rfl rfl ?_
      refine g_virtual cx o (pc' := 139) (y := (⟨"com/example/dendrosite/dendrosite/tree/Region", "contains", "(I)Z"⟩ : MethodName)) (z := (⟨"com/example/dendrosite/dendrosite/tree/Region", "contains", "(I)Z"⟩ : MethodName)) (hw _ (List.mem_of_getElem? (i := 54) rfl)) (hw _ (List.mem_of_getElem? (i := 55) rfl)) (notFace_of_selects (args := #[]) (mvT cx.2.1 (hw _ (List.mem_of_getElem? (i := 57) rfl)))) (hw _ (List.mem_of_getElem? (i := 57) rfl)) (hw _ (List.mem_of_getElem? (i := 56) rfl)) (hw _ (List.mem_of_getElem? (i := 32) rfl)) (hw _ (List.mem_of_getElem? (i := 58) rfl)) 0 rfl (rmC1 l Z a0 hw rg cv ea ((List.replicate n (0 : Int32)).set V 1) bl q 1 (by rw [qV, List.getElem?_set_self (by rw [List.length_replicate]; exact hV)]) _)  rfl pd_5 rfl (by decide) rfl 0 (Nat.le_of_eq rfl) (by decide) (by decide) (by decide) (by decide) at_136 rfl (fun T v L hQ o => ?_)
      obtain ⟨rfl, rfl⟩ := hQ
      simp only [Option.toList_some, Option.toList_none, List.cons_append, List.nil_append]
      refine g_iload cx o (pc' := 141) at_139 rfl rfl ?_
      refine g_icmp_ne cx o (pc' := 166) (pc2 := 144) at_141 (by decide) (by decide) rfl (fun c141 => absurd (by decide) c141) (fun c141 => ?_)
      refine g_aload cx o (pc' := 146) at_144 rfl rfl rfl ?_
      refine g_virtual cx o (pc' := 149) (y := (⟨"com/example/dendrosite/dendrosite/tree/Region", "isEmpty", "()Z"⟩ : MethodName)) (z := (⟨"com/example/dendrosite/dendrosite/tree/Region", "isEmpty", "()Z"⟩ : MethodName)) (hw _ (List.mem_of_getElem? (i := 59) rfl)) (hw _ (List.mem_of_getElem? (i := 60) rfl)) (notFace_of_selects (args := #[]) (mvT cx.2.1 (hw _ (List.mem_of_getElem? (i := 62) rfl)))) (hw _ (List.mem_of_getElem? (i := 62) rfl)) (hw _ (List.mem_of_getElem? (i := 61) rfl)) (hw _ (List.mem_of_getElem? (i := 32) rfl)) (hw _ (List.mem_of_getElem? (i := 63) rfl)) 0 rfl (rmE l Z a0 hw rg cv ea ((List.replicate n (0 : Int32)).set V 1) bl _)  rfl pd_6 rfl (by decide) rfl 0 (Nat.le_of_eq rfl) (by decide) (by decide) (by decide) (by decide) at_146 rfl (fun T v L hQ o => ?_)
      obtain ⟨rfl, rfl⟩ := hQ
      simp only [Option.toList_some, Option.toList_none, List.cons_append, List.nil_append]
      refine g_iload cx o (pc' := 151) at_149 rfl rfl ?_
      refine g_if_ne cx o (pc' := 158) (pc2 := 154) at_151 (by decide) (by decide) rfl (fun c151 => ?_) (fun c151 => absurd c151 (by decide))
      refine g_iconst cx o (pc' := 159) (0 : Int32) at_158 rfl rfl ?_
      refine g_icmp_ne cx o (pc' := 166) (pc2 := 162) at_159 (by decide) (by decide) rfl (fun c159 => absurd (if_neg (fun z => absurd (z 1 (List.mem_of_getElem? (i := V) (by rw [List.getElem?_set_self (by rw [List.length_replicate]; exact hV)]))) (by decide))) c159) (fun c159 => ?_)
      refine g_iconst cx o (pc' := 163) (1 : Int32) at_162 rfl rfl ?_
      refine g_goto cx o (pc' := 167) at_163 (by decide) (by decide) ?_
      exact g_ireturnZ cx o at_167 (by decide) (by decide) (by decide) rfl
    · have qV : ¬ q = V := fun z => c109 ((o_inj (by omega) (by omega)).mpr z)
      refine g_iload cx o (pc' := 114) at_112 rfl rfl ?_
      refine g_iconst cx o (pc' := 115) (2 : Int32) at_114 rfl rfl ?_
      refine g_icmp_lt cx o (pc' := 129) (pc2 := 118) at_115 (by decide) (by decide) rfl (fun c115 => ?_) (fun c115 => absurd (by decide) c115)
      refine g_iconst cx o (pc' := 130) (0 : Int32) at_129 rfl rfl ?_
      refine g_istore cx o (pc' := 132) (l' := #[.val (.int p0), .val (.int p1), .val (.int p2), .val (.int p3), .val (.int (Int32.ofNat n)), .val (.int (1 : Int32)), .val (.int (Int32.ofNat V)), .val (.int (Int32.ofNat U)), .val (.int (Int32.ofNat q)), .val (.ref bd), .val (.ref rg), .val (.int (0 : Int32))]) at_130 rfl rfl ?_
      refine g_aload cx o (pc' := 134) at_132 rfl rfl rfl ?_
      refine g_iload cx o (pc' := 136) at_134 rfl rfl ?_
      by_cases qn : q < n
      · refine g_virtual cx o (pc' := 139) (y := (⟨"com/example/dendrosite/dendrosite/tree/Region", "contains", "(I)Z"⟩ : MethodName)) (z := (⟨"com/example/dendrosite/dendrosite/tree/Region", "contains", "(I)Z"⟩ : MethodName)) (hw _ (List.mem_of_getElem? (i := 54) rfl)) (hw _ (List.mem_of_getElem? (i := 55) rfl)) (notFace_of_selects (args := #[]) (mvT cx.2.1 (hw _ (List.mem_of_getElem? (i := 57) rfl)))) (hw _ (List.mem_of_getElem? (i := 57) rfl)) (hw _ (List.mem_of_getElem? (i := 56) rfl)) (hw _ (List.mem_of_getElem? (i := 32) rfl)) (hw _ (List.mem_of_getElem? (i := 58) rfl)) 0 rfl (rmC1 l Z a0 hw rg cv ea ((List.replicate n (0 : Int32)).set V 1) bl q 0 (by rw [List.getElem?_set_ne (fun z => qV z.symm), List.getElem?_replicate, if_pos qn]) _)  rfl pd_5 rfl (by decide) rfl 0 (Nat.le_of_eq rfl) (by decide) (by decide) (by decide) (by decide) at_136 rfl (fun T v L hQ o => ?_)
        obtain ⟨rfl, rfl⟩ := hQ
        simp only [Option.toList_some, Option.toList_none, List.cons_append, List.nil_append]
        refine g_iload cx o (pc' := 141) at_139 rfl rfl ?_
        refine g_icmp_ne cx o (pc' := 166) (pc2 := 144) at_141 (by decide) (by decide) rfl (fun c141 => absurd (by decide) c141) (fun c141 => ?_)
        refine g_aload cx o (pc' := 146) at_144 rfl rfl rfl ?_
        refine g_virtual cx o (pc' := 149) (y := (⟨"com/example/dendrosite/dendrosite/tree/Region", "isEmpty", "()Z"⟩ : MethodName)) (z := (⟨"com/example/dendrosite/dendrosite/tree/Region", "isEmpty", "()Z"⟩ : MethodName)) (hw _ (List.mem_of_getElem? (i := 59) rfl)) (hw _ (List.mem_of_getElem? (i := 60) rfl)) (notFace_of_selects (args := #[]) (mvT cx.2.1 (hw _ (List.mem_of_getElem? (i := 62) rfl)))) (hw _ (List.mem_of_getElem? (i := 62) rfl)) (hw _ (List.mem_of_getElem? (i := 61) rfl)) (hw _ (List.mem_of_getElem? (i := 32) rfl)) (hw _ (List.mem_of_getElem? (i := 63) rfl)) 0 rfl (rmE l Z a0 hw rg cv ea ((List.replicate n (0 : Int32)).set V 1) bl _)  rfl pd_6 rfl (by decide) rfl 0 (Nat.le_of_eq rfl) (by decide) (by decide) (by decide) (by decide) at_146 rfl (fun T v L hQ o => ?_)
        obtain ⟨rfl, rfl⟩ := hQ
        simp only [Option.toList_some, Option.toList_none, List.cons_append, List.nil_append]
        refine g_iload cx o (pc' := 151) at_149 rfl rfl ?_
        refine g_if_ne cx o (pc' := 158) (pc2 := 154) at_151 (by decide) (by decide) rfl (fun c151 => ?_) (fun c151 => absurd c151 (by decide))
        refine g_iconst cx o (pc' := 159) (0 : Int32) at_158 rfl rfl ?_
        refine g_icmp_ne cx o (pc' := 166) (pc2 := 162) at_159 (by decide) (by decide) rfl (fun c159 => absurd (if_neg (fun z => absurd (z 1 (List.mem_of_getElem? (i := V) (by rw [List.getElem?_set_self (by rw [List.length_replicate]; exact hV)]))) (by decide))) c159) (fun c159 => ?_)
        refine g_iconst cx o (pc' := 163) (1 : Int32) at_162 rfl rfl ?_
        refine g_goto cx o (pc' := 167) at_163 (by decide) (by decide) ?_
        exact g_ireturnZ cx o at_167 (by decide) (by decide) (by decide) rfl
      · refine g_virtual cx o (pc' := 139) (y := (⟨"com/example/dendrosite/dendrosite/tree/Region", "contains", "(I)Z"⟩ : MethodName)) (z := (⟨"com/example/dendrosite/dendrosite/tree/Region", "contains", "(I)Z"⟩ : MethodName)) (hw _ (List.mem_of_getElem? (i := 54) rfl)) (hw _ (List.mem_of_getElem? (i := 55) rfl)) (notFace_of_selects (args := #[]) (mvT cx.2.1 (hw _ (List.mem_of_getElem? (i := 57) rfl)))) (hw _ (List.mem_of_getElem? (i := 57) rfl)) (hw _ (List.mem_of_getElem? (i := 56) rfl)) (hw _ (List.mem_of_getElem? (i := 32) rfl)) (hw _ (List.mem_of_getElem? (i := 58) rfl)) 0 rfl (rmC0 l Z a0 hw rg cv ea ((List.replicate n (0 : Int32)).set V 1) bl q (by omega) (by simp only [List.length_set, List.length_replicate]; omega) _)  rfl pd_5 rfl (by decide) rfl 0 (Nat.le_of_eq rfl) (by decide) (by decide) (by decide) (by decide) at_136 rfl (fun T v L hQ o => ?_)
        obtain ⟨rfl, rfl⟩ := hQ
        simp only [Option.toList_some, Option.toList_none, List.cons_append, List.nil_append]
        refine g_iload cx o (pc' := 141) at_139 rfl rfl ?_
        refine g_icmp_ne cx o (pc' := 166) (pc2 := 144) at_141 (by decide) (by decide) rfl (fun c141 => absurd rfl c141) (fun c141 => ?_)
        refine g_aload cx o (pc' := 146) at_144 rfl rfl rfl ?_
        refine g_virtual cx o (pc' := 149) (y := (⟨"com/example/dendrosite/dendrosite/tree/Region", "isEmpty", "()Z"⟩ : MethodName)) (z := (⟨"com/example/dendrosite/dendrosite/tree/Region", "isEmpty", "()Z"⟩ : MethodName)) (hw _ (List.mem_of_getElem? (i := 59) rfl)) (hw _ (List.mem_of_getElem? (i := 60) rfl)) (notFace_of_selects (args := #[]) (mvT cx.2.1 (hw _ (List.mem_of_getElem? (i := 62) rfl)))) (hw _ (List.mem_of_getElem? (i := 62) rfl)) (hw _ (List.mem_of_getElem? (i := 61) rfl)) (hw _ (List.mem_of_getElem? (i := 32) rfl)) (hw _ (List.mem_of_getElem? (i := 63) rfl)) 0 rfl (rmE l Z a0 hw rg cv ea ((List.replicate n (0 : Int32)).set V 1) bl _)  rfl pd_6 rfl (by decide) rfl 0 (Nat.le_of_eq rfl) (by decide) (by decide) (by decide) (by decide) at_146 rfl (fun T v L hQ o => ?_)
        obtain ⟨rfl, rfl⟩ := hQ
        simp only [Option.toList_some, Option.toList_none, List.cons_append, List.nil_append]
        refine g_iload cx o (pc' := 151) at_149 rfl rfl ?_
        refine g_if_ne cx o (pc' := 158) (pc2 := 154) at_151 (by decide) (by decide) rfl (fun c151 => ?_) (fun c151 => absurd c151 (by decide))
        refine g_iconst cx o (pc' := 159) (0 : Int32) at_158 rfl rfl ?_
        refine g_icmp_ne cx o (pc' := 166) (pc2 := 162) at_159 (by decide) (by decide) rfl (fun c159 => absurd (if_neg (fun z => absurd (z 1 (List.mem_of_getElem? (i := V) (by rw [List.getElem?_set_self (by rw [List.length_replicate]; exact hV)]))) (by decide))) c159) (fun c159 => ?_)
        refine g_iconst cx o (pc' := 163) (1 : Int32) at_162 rfl rfl ?_
        refine g_goto cx o (pc' := 167) at_163 (by decide) (by decide) ?_
        exact g_ireturnZ cx o at_167 (by decide) (by decide) (by decide) rfl
  · refine g_astore cx o (pc' := 57) (l' := #[.val (.int p0), .val (.int p1), .val (.int p2), .val (.int p3), .val (.int (Int32.ofNat n)), .val (.int (2 : Int32)), .val (.int (Int32.ofNat V)), .val (.int (Int32.ofNat U)), .val (.int (Int32.ofNat q)), .val (.ref bd), .unset, .unset]) at_55 rfl rfl rfl ?_
    refine g_iload cx o (pc' := 59) at_57 rfl rfl ?_
    refine g_iconst cx o (pc' := 60) (1 : Int32) at_59 rfl rfl ?_
    refine g_icmp_lt cx o (pc' := 70) (pc2 := 63) at_60 (by decide) (by decide) rfl (fun c60 => absurd c60 (by decide)) (fun c60 => ?_)
    refine g_aload cx o (pc' := 65) at_63 rfl rfl rfl ?_
    refine g_iload cx o (pc' := 67) at_65 rfl rfl ?_
    refine g_virtual cx o (pc' := 70) (y := (⟨"com/example/dendrosite/dendrosite/tree/Region$Builder", "addVertex", "(I)V"⟩ : MethodName)) (z := (⟨"com/example/dendrosite/dendrosite/tree/Region$Builder", "addVertex", "(I)V"⟩ : MethodName)) (hw _ (List.mem_of_getElem? (i := 64) rfl)) (hw _ (List.mem_of_getElem? (i := 65) rfl)) (notFace_of_selects (args := #[]) (mvT cx.2.1 (hw _ (List.mem_of_getElem? (i := 67) rfl)))) (hw _ (List.mem_of_getElem? (i := 67) rfl)) (hw _ (List.mem_of_getElem? (i := 66) rfl)) (hw _ (List.mem_of_getElem? (i := 3) rfl)) (hw _ (List.mem_of_getElem? (i := 68) rfl)) 0 rfl (rmA1 l Z a0 hw bd v0 ed st en_ n V n8 hV _)  rfl pd_7 rfl (by decide) rfl 0 (Nat.le_of_eq rfl) (by decide) (by decide) (by decide) (by decide) at_67 rfl (fun T v L hQ o => ?_)
    obtain ⟨rfl, vr, rfl⟩ := hQ
    simp only [Option.toList_some, Option.toList_none, List.cons_append, List.nil_append]
    refine g_iload cx o (pc' := 72) at_70 rfl rfl ?_
    refine g_iconst cx o (pc' := 73) (2 : Int32) at_72 rfl rfl ?_
    refine g_icmp_lt cx o (pc' := 83) (pc2 := 76) at_73 (by decide) (by decide) rfl (fun c73 => absurd c73 (by decide)) (fun c73 => ?_)
    refine g_aload cx o (pc' := 78) at_76 rfl rfl rfl ?_
    refine g_iload cx o (pc' := 80) at_78 rfl rfl ?_
    refine g_virtual cx o (pc' := 83) (y := (⟨"com/example/dendrosite/dendrosite/tree/Region$Builder", "addVertex", "(I)V"⟩ : MethodName)) (z := (⟨"com/example/dendrosite/dendrosite/tree/Region$Builder", "addVertex", "(I)V"⟩ : MethodName)) (hw _ (List.mem_of_getElem? (i := 64) rfl)) (hw _ (List.mem_of_getElem? (i := 65) rfl)) (notFace_of_selects (args := #[]) (mvT cx.2.1 (hw _ (List.mem_of_getElem? (i := 67) rfl)))) (hw _ (List.mem_of_getElem? (i := 67) rfl)) (hw _ (List.mem_of_getElem? (i := 66) rfl)) (hw _ (List.mem_of_getElem? (i := 3) rfl)) (hw _ (List.mem_of_getElem? (i := 68) rfl)) 1 rfl (rmA2 l Z a0 hw bd vr ed st en_ _ ((List.replicate n (0 : Int32)).set V 1) U (fun q => absurd (congrArg List.length q) (by simp only [List.length_set, List.length_replicate, List.length_nil]; omega)) (by simp only [List.length_set, List.length_replicate]; omega) (by simp only [List.length_set, List.length_replicate]; omega) _)  rfl pd_7 rfl (by decide) rfl 0 (Nat.le_of_eq rfl) (by decide) (by decide) (by decide) (by decide) at_80 rfl (fun T v L hQ o => ?_)
    obtain ⟨rfl, rfl⟩ := hQ
    simp only [Option.toList_some, Option.toList_none, List.cons_append, List.nil_append]
    have bl : (((List.replicate n (0 : Int32)).set V 1).set U 1).length ≤ 8 := (by simp only [List.length_set, List.length_replicate]; omega)
    refine g_aload cx o (pc' := 85) at_83 rfl rfl rfl ?_
    refine g_iconst cx o (pc' := 86) (0 : Int32) at_85 rfl rfl ?_
    refine g_newarray cx o (pc' := 88) (vs := []) (hw _ (List.mem_of_getElem? (i := 13) rfl)) rfl 0 0 rfl rfl (by decide) (by decide) (by decide) (by decide) at_86 rfl (fun T r1 o => ?_)
    refine g_iconst cx o (pc' := 89) (0 : Int32) at_88 rfl rfl ?_
    refine g_newarray cx o (pc' := 91) (vs := []) (hw _ (List.mem_of_getElem? (i := 13) rfl)) rfl 0 0 rfl rfl (by decide) (by decide) (by decide) (by decide) at_89 rfl (fun T r2 o => ?_)
    refine g_iconst cx o (pc' := 92) (0 : Int32) at_91 rfl rfl ?_
    refine g_newarray cx o (pc' := 94) (vs := []) (hw _ (List.mem_of_getElem? (i := 16) rfl)) rfl 0 0 rfl rfl (by decide) (by decide) (by decide) (by decide) at_92 rfl (fun T r3 o => ?_)
    have o := o.front 3 rfl
    simp only [List.eraseIdx_cons_zero, List.eraseIdx_cons_succ] at o
    have o := o.front 4 rfl
    simp only [List.eraseIdx_cons_zero, List.eraseIdx_cons_succ] at o
    refine g_virtual cx o (pc' := 97) (y := (⟨"com/example/dendrosite/dendrosite/tree/Region$Builder", "build", "([I[I[D)Lcom/example/dendrosite/dendrosite/tree/Region;"⟩ : MethodName)) (z := (⟨"com/example/dendrosite/dendrosite/tree/Region$Builder", "build", "([I[I[D)Lcom/example/dendrosite/dendrosite/tree/Region;"⟩ : MethodName)) (hw _ (List.mem_of_getElem? (i := 23) rfl)) (hw _ (List.mem_of_getElem? (i := 24) rfl)) (notFace_of_selects (args := #[]) (mvT cx.2.1 (hw _ (List.mem_of_getElem? (i := 26) rfl)))) (hw _ (List.mem_of_getElem? (i := 26) rfl)) (hw _ (List.mem_of_getElem? (i := 25) rfl)) (hw _ (List.mem_of_getElem? (i := 3) rfl)) (hw _ (List.mem_of_getElem? (i := 27) rfl)) 0 rfl (rmU l Z a0 hw bd vr ed st en_ r1 r2 r3 _ (((List.replicate n (0 : Int32)).set V 1).set U 1) bl _)  rfl pd_3 rfl (by decide) rfl 0 (Nat.le_of_eq rfl) (by decide) (by decide) (by decide) (by decide) at_94 rfl (fun T v L hQ o => ?_)
    obtain ⟨rg, cv, ea, rfl, rfl⟩ := hQ
    simp only [Option.toList_some, Option.toList_none, List.cons_append, List.nil_append]
    refine g_astore cx o (pc' := 99) (l' := #[.val (.int p0), .val (.int p1), .val (.int p2), .val (.int p3), .val (.int (Int32.ofNat n)), .val (.int (2 : Int32)), .val (.int (Int32.ofNat V)), .val (.int (Int32.ofNat U)), .val (.int (Int32.ofNat q)), .val (.ref bd), .val (.ref rg), .unset]) at_97 rfl rfl rfl ?_
    refine g_iload cx o (pc' := 101) at_99 rfl rfl ?_
    refine g_iconst cx o (pc' := 102) (1 : Int32) at_101 rfl rfl ?_
    refine g_icmp_lt cx o (pc' := 112) (pc2 := 105) at_102 (by decide) (by decide) rfl (fun c102 => absurd c102 (by decide)) (fun c102 => ?_)
    refine g_iload cx o (pc' := 107) at_105 rfl rfl ?_
    refine g_iload cx o (pc' := 109) at_107 rfl rfl ?_
    refine g_icmp_eq cx o (pc' := 125) (pc2 := 112) at_109 (by decide) (by decide) rfl (fun c109 => ?_) (fun c109 => ?_)
    · have qV := (o_inj (by omega) (by omega)).mp c109
      have g1 : (((List.replicate n (0 : Int32)).set V 1).set U 1)[q]? = some 1 := by
        rw [qV]
        by_cases z : U = V
        · rw [z, List.getElem?_set_self (by rw [List.length_set, List.length_replicate]; exact hV)]
        · rw [List.getElem?_set_ne z, List.getElem?_set_self (by rw [List.length_replicate]; exact hV)]
      refine g_iconst cx o (pc' := 126) (1 : Int32) at_125 rfl rfl ?_
      refine g_goto cx o (pc' := 130) at_126 (by decide) (by decide) ?_
      refine g_istore cx o (pc' := 132) (l' := #[.val (.int p0), .val (.int p1), .val (.int p2), .val (.int p3), .val (.int (Int32.ofNat n)), .val (.int (2 : Int32)), .val (.int (Int32.ofNat V)), .val (.int (Int32.ofNat U)), .val (.int (Int32.ofNat q)), .val (.ref bd), .val (.ref rg), .val (.int (1 : Int32))]) at_130 rfl rfl ?_
      refine g_aload cx o (pc' := 134) at_132 rfl rfl rfl ?_
      refine g_iload cx o (pc' := 136) at_134 rfl rfl ?_
      refine g_virtual cx o (pc' := 139) (y := (⟨"com/example/dendrosite/dendrosite/tree/Region", "contains", "(I)Z"⟩ : MethodName)) (z := (⟨"com/example/dendrosite/dendrosite/tree/Region", "contains", "(I)Z"⟩ : MethodName)) (hw _ (List.mem_of_getElem? (i := 54) rfl)) (hw _ (List.mem_of_getElem? (i := 55) rfl)) (notFace_of_selects (args := #[]) (mvT cx.2.1 (hw _ (List.mem_of_getElem? (i := 57) rfl)))) (hw _ (List.mem_of_getElem? (i := 57) rfl)) (hw _ (List.mem_of_getElem? (i := 56) rfl)) (hw _ (List.mem_of_getElem? (i := 32) rfl)) (hw _ (List.mem_of_getElem? (i := 58) rfl)) 0 rfl (rmC1 l Z a0 hw rg cv ea (((List.replicate n (0 : Int32)).set V 1).set U 1) bl q 1 (by exact g1) _)  rfl pd_5 rfl (by decide) rfl 0 (Nat.le_of_eq rfl) (by decide) (by decide) (by decide) (by decide) at_136 rfl (fun T v L hQ o => ?_)
      obtain ⟨rfl, rfl⟩ := hQ
      simp only [Option.toList_some, Option.toList_none, List.cons_append, List.nil_append]
      refine g_iload cx o (pc' := 141) at_139 rfl rfl ?_
      refine g_icmp_ne cx o (pc' := 166) (pc2 := 144) at_141 (by decide) (by decide) rfl (fun c141 => absurd (by decide) c141) (fun c141 => ?_)
      refine g_aload cx o (pc' := 146) at_144 rfl rfl rfl ?_
      refine g_virtual cx o (pc' := 149) (y := (⟨"com/example/dendrosite/dendrosite/tree/Region", "isEmpty", "()Z"⟩ : MethodName)) (z := (⟨"com/example/dendrosite/dendrosite/tree/Region", "isEmpty", "()Z"⟩ : MethodName)) (hw _ (List.mem_of_getElem? (i := 59) rfl)) (hw _ (List.mem_of_getElem? (i := 60) rfl)) (notFace_of_selects (args := #[]) (mvT cx.2.1 (hw _ (List.mem_of_getElem? (i := 62) rfl)))) (hw _ (List.mem_of_getElem? (i := 62) rfl)) (hw _ (List.mem_of_getElem? (i := 61) rfl)) (hw _ (List.mem_of_getElem? (i := 32) rfl)) (hw _ (List.mem_of_getElem? (i := 63) rfl)) 0 rfl (rmE l Z a0 hw rg cv ea (((List.replicate n (0 : Int32)).set V 1).set U 1) bl _)  rfl pd_6 rfl (by decide) rfl 0 (Nat.le_of_eq rfl) (by decide) (by decide) (by decide) (by decide) at_146 rfl (fun T v L hQ o => ?_)
      obtain ⟨rfl, rfl⟩ := hQ
      simp only [Option.toList_some, Option.toList_none, List.cons_append, List.nil_append]
      refine g_iload cx o (pc' := 151) at_149 rfl rfl ?_
      refine g_if_ne cx o (pc' := 158) (pc2 := 154) at_151 (by decide) (by decide) rfl (fun c151 => ?_) (fun c151 => absurd c151 (by decide))
      refine g_iconst cx o (pc' := 159) (0 : Int32) at_158 rfl rfl ?_
      refine g_icmp_ne cx o (pc' := 166) (pc2 := 162) at_159 (by decide) (by decide) rfl (fun c159 => absurd (if_neg (fun z => absurd (z 1 (List.mem_of_getElem? (i := U) (by rw [List.getElem?_set_self (by rw [List.length_set, List.length_replicate]; exact hU)]))) (by decide))) c159) (fun c159 => ?_)
      refine g_iconst cx o (pc' := 163) (1 : Int32) at_162 rfl rfl ?_
      refine g_goto cx o (pc' := 167) at_163 (by decide) (by decide) ?_
      exact g_ireturnZ cx o at_167 (by decide) (by decide) (by decide) rfl
    · have qV : ¬ q = V := fun z => c109 ((o_inj (by omega) (by omega)).mpr z)
      refine g_iload cx o (pc' := 114) at_112 rfl rfl ?_
      refine g_iconst cx o (pc' := 115) (2 : Int32) at_114 rfl rfl ?_
      refine g_icmp_lt cx o (pc' := 129) (pc2 := 118) at_115 (by decide) (by decide) rfl (fun c115 => absurd c115 (by decide)) (fun c115 => ?_)
      refine g_iload cx o (pc' := 120) at_118 rfl rfl ?_
      refine g_iload cx o (pc' := 122) at_120 rfl rfl ?_
      refine g_icmp_ne cx o (pc' := 129) (pc2 := 125) at_122 (by decide) (by decide) rfl (fun c122 => ?_) (fun c122 => ?_)
      · have qU : ¬ q = U := fun z => c122 ((o_inj (by omega) (by omega)).mpr z)
        refine g_iconst cx o (pc' := 130) (0 : Int32) at_129 rfl rfl ?_
        refine g_istore cx o (pc' := 132) (l' := #[.val (.int p0), .val (.int p1), .val (.int p2), .val (.int p3), .val (.int (Int32.ofNat n)), .val (.int (2 : Int32)), .val (.int (Int32.ofNat V)), .val (.int (Int32.ofNat U)), .val (.int (Int32.ofNat q)), .val (.ref bd), .val (.ref rg), .val (.int (0 : Int32))]) at_130 rfl rfl ?_
        refine g_aload cx o (pc' := 134) at_132 rfl rfl rfl ?_
        refine g_iload cx o (pc' := 136) at_134 rfl rfl ?_
        by_cases qn : q < n
        · refine g_virtual cx o (pc' := 139) (y := (⟨"com/example/dendrosite/dendrosite/tree/Region", "contains", "(I)Z"⟩ : MethodName)) (z := (⟨"com/example/dendrosite/dendrosite/tree/Region", "contains", "(I)Z"⟩ : MethodName)) (hw _ (List.mem_of_getElem? (i := 54) rfl)) (hw _ (List.mem_of_getElem? (i := 55) rfl)) (notFace_of_selects (args := #[]) (mvT cx.2.1 (hw _ (List.mem_of_getElem? (i := 57) rfl)))) (hw _ (List.mem_of_getElem? (i := 57) rfl)) (hw _ (List.mem_of_getElem? (i := 56) rfl)) (hw _ (List.mem_of_getElem? (i := 32) rfl)) (hw _ (List.mem_of_getElem? (i := 58) rfl)) 0 rfl (rmC1 l Z a0 hw rg cv ea (((List.replicate n (0 : Int32)).set V 1).set U 1) bl q 0 (by rw [List.getElem?_set_ne (fun z => qU z.symm), List.getElem?_set_ne (fun z => qV z.symm), List.getElem?_replicate, if_pos qn]) _)  rfl pd_5 rfl (by decide) rfl 0 (Nat.le_of_eq rfl) (by decide) (by decide) (by decide) (by decide) at_136 rfl (fun T v L hQ o => ?_)
          obtain ⟨rfl, rfl⟩ := hQ
          simp only [Option.toList_some, Option.toList_none, List.cons_append, List.nil_append]
          refine g_iload cx o (pc' := 141) at_139 rfl rfl ?_
          refine g_icmp_ne cx o (pc' := 166) (pc2 := 144) at_141 (by decide) (by decide) rfl (fun c141 => absurd (by decide) c141) (fun c141 => ?_)
          refine g_aload cx o (pc' := 146) at_144 rfl rfl rfl ?_
          refine g_virtual cx o (pc' := 149) (y := (⟨"com/example/dendrosite/dendrosite/tree/Region", "isEmpty", "()Z"⟩ : MethodName)) (z := (⟨"com/example/dendrosite/dendrosite/tree/Region", "isEmpty", "()Z"⟩ : MethodName)) (hw _ (List.mem_of_getElem? (i := 59) rfl)) (hw _ (List.mem_of_getElem? (i := 60) rfl)) (notFace_of_selects (args := #[]) (mvT cx.2.1 (hw _ (List.mem_of_getElem? (i := 62) rfl)))) (hw _ (List.mem_of_getElem? (i := 62) rfl)) (hw _ (List.mem_of_getElem? (i := 61) rfl)) (hw _ (List.mem_of_getElem? (i := 32) rfl)) (hw _ (List.mem_of_getElem? (i := 63) rfl)) 0 rfl (rmE l Z a0 hw rg cv ea (((List.replicate n (0 : Int32)).set V 1).set U 1) bl _)  rfl pd_6 rfl (by decide) rfl 0 (Nat.le_of_eq rfl) (by decide) (by decide) (by decide) (by decide) at_146 rfl (fun T v L hQ o => ?_)
          obtain ⟨rfl, rfl⟩ := hQ
          simp only [Option.toList_some, Option.toList_none, List.cons_append, List.nil_append]
          refine g_iload cx o (pc' := 151) at_149 rfl rfl ?_
          refine g_if_ne cx o (pc' := 158) (pc2 := 154) at_151 (by decide) (by decide) rfl (fun c151 => ?_) (fun c151 => absurd c151 (by decide))
          refine g_iconst cx o (pc' := 159) (0 : Int32) at_158 rfl rfl ?_
          refine g_icmp_ne cx o (pc' := 166) (pc2 := 162) at_159 (by decide) (by decide) rfl (fun c159 => absurd (if_neg (fun z => absurd (z 1 (List.mem_of_getElem? (i := U) (by rw [List.getElem?_set_self (by rw [List.length_set, List.length_replicate]; exact hU)]))) (by decide))) c159) (fun c159 => ?_)
          refine g_iconst cx o (pc' := 163) (1 : Int32) at_162 rfl rfl ?_
          refine g_goto cx o (pc' := 167) at_163 (by decide) (by decide) ?_
          exact g_ireturnZ cx o at_167 (by decide) (by decide) (by decide) rfl
        · refine g_virtual cx o (pc' := 139) (y := (⟨"com/example/dendrosite/dendrosite/tree/Region", "contains", "(I)Z"⟩ : MethodName)) (z := (⟨"com/example/dendrosite/dendrosite/tree/Region", "contains", "(I)Z"⟩ : MethodName)) (hw _ (List.mem_of_getElem? (i := 54) rfl)) (hw _ (List.mem_of_getElem? (i := 55) rfl)) (notFace_of_selects (args := #[]) (mvT cx.2.1 (hw _ (List.mem_of_getElem? (i := 57) rfl)))) (hw _ (List.mem_of_getElem? (i := 57) rfl)) (hw _ (List.mem_of_getElem? (i := 56) rfl)) (hw _ (List.mem_of_getElem? (i := 32) rfl)) (hw _ (List.mem_of_getElem? (i := 58) rfl)) 0 rfl (rmC0 l Z a0 hw rg cv ea (((List.replicate n (0 : Int32)).set V 1).set U 1) bl q (by omega) (by simp only [List.length_set, List.length_replicate]; omega) _)  rfl pd_5 rfl (by decide) rfl 0 (Nat.le_of_eq rfl) (by decide) (by decide) (by decide) (by decide) at_136 rfl (fun T v L hQ o => ?_)
          obtain ⟨rfl, rfl⟩ := hQ
          simp only [Option.toList_some, Option.toList_none, List.cons_append, List.nil_append]
          refine g_iload cx o (pc' := 141) at_139 rfl rfl ?_
          refine g_icmp_ne cx o (pc' := 166) (pc2 := 144) at_141 (by decide) (by decide) rfl (fun c141 => absurd rfl c141) (fun c141 => ?_)
          refine g_aload cx o (pc' := 146) at_144 rfl rfl rfl ?_
          refine g_virtual cx o (pc' := 149) (y := (⟨"com/example/dendrosite/dendrosite/tree/Region", "isEmpty", "()Z"⟩ : MethodName)) (z := (⟨"com/example/dendrosite/dendrosite/tree/Region", "isEmpty", "()Z"⟩ : MethodName)) (hw _ (List.mem_of_getElem? (i := 59) rfl)) (hw _ (List.mem_of_getElem? (i := 60) rfl)) (notFace_of_selects (args := #[]) (mvT cx.2.1 (hw _ (List.mem_of_getElem? (i := 62) rfl)))) (hw _ (List.mem_of_getElem? (i := 62) rfl)) (hw _ (List.mem_of_getElem? (i := 61) rfl)) (hw _ (List.mem_of_getElem? (i := 32) rfl)) (hw _ (List.mem_of_getElem? (i := 63) rfl)) 0 rfl (rmE l Z a0 hw rg cv ea (((List.replicate n (0 : Int32)).set V 1).set U 1) bl _)  rfl pd_6 rfl (by decide) rfl 0 (Nat.le_of_eq rfl) (by decide) (by decide) (by decide) (by decide) at_146 rfl (fun T v L hQ o => ?_)
          obtain ⟨rfl, rfl⟩ := hQ
          simp only [Option.toList_some, Option.toList_none, List.cons_append, List.nil_append]
          refine g_iload cx o (pc' := 151) at_149 rfl rfl ?_
          refine g_if_ne cx o (pc' := 158) (pc2 := 154) at_151 (by decide) (by decide) rfl (fun c151 => ?_) (fun c151 => absurd c151 (by decide))
          refine g_iconst cx o (pc' := 159) (0 : Int32) at_158 rfl rfl ?_
          refine g_icmp_ne cx o (pc' := 166) (pc2 := 162) at_159 (by decide) (by decide) rfl (fun c159 => absurd (if_neg (fun z => absurd (z 1 (List.mem_of_getElem? (i := U) (by rw [List.getElem?_set_self (by rw [List.length_set, List.length_replicate]; exact hU)]))) (by decide))) c159) (fun c159 => ?_)
          refine g_iconst cx o (pc' := 163) (1 : Int32) at_162 rfl rfl ?_
          refine g_goto cx o (pc' := 167) at_163 (by decide) (by decide) ?_
          exact g_ireturnZ cx o at_167 (by decide) (by decide) (by decide) rfl
      · have qU := (o_inj (by omega) (by omega)).mp c122
        have g1 : (((List.replicate n (0 : Int32)).set V 1).set U 1)[q]? = some 1 := by rw [qU]; exact List.getElem?_set_self (by rw [List.length_set, List.length_replicate]; exact hU)
        refine g_iconst cx o (pc' := 126) (1 : Int32) at_125 rfl rfl ?_
        refine g_goto cx o (pc' := 130) at_126 (by decide) (by decide) ?_
        refine g_istore cx o (pc' := 132) (l' := #[.val (.int p0), .val (.int p1), .val (.int p2), .val (.int p3), .val (.int (Int32.ofNat n)), .val (.int (2 : Int32)), .val (.int (Int32.ofNat V)), .val (.int (Int32.ofNat U)), .val (.int (Int32.ofNat q)), .val (.ref bd), .val (.ref rg), .val (.int (1 : Int32))]) at_130 rfl rfl ?_
        refine g_aload cx o (pc' := 134) at_132 rfl rfl rfl ?_
        refine g_iload cx o (pc' := 136) at_134 rfl rfl ?_
        refine g_virtual cx o (pc' := 139) (y := (⟨"com/example/dendrosite/dendrosite/tree/Region", "contains", "(I)Z"⟩ : MethodName)) (z := (⟨"com/example/dendrosite/dendrosite/tree/Region", "contains", "(I)Z"⟩ : MethodName)) (hw _ (List.mem_of_getElem? (i := 54) rfl)) (hw _ (List.mem_of_getElem? (i := 55) rfl)) (notFace_of_selects (args := #[]) (mvT cx.2.1 (hw _ (List.mem_of_getElem? (i := 57) rfl)))) (hw _ (List.mem_of_getElem? (i := 57) rfl)) (hw _ (List.mem_of_getElem? (i := 56) rfl)) (hw _ (List.mem_of_getElem? (i := 32) rfl)) (hw _ (List.mem_of_getElem? (i := 58) rfl)) 0 rfl (rmC1 l Z a0 hw rg cv ea (((List.replicate n (0 : Int32)).set V 1).set U 1) bl q 1 (by exact g1) _)  rfl pd_5 rfl (by decide) rfl 0 (Nat.le_of_eq rfl) (by decide) (by decide) (by decide) (by decide) at_136 rfl (fun T v L hQ o => ?_)
        obtain ⟨rfl, rfl⟩ := hQ
        simp only [Option.toList_some, Option.toList_none, List.cons_append, List.nil_append]
        refine g_iload cx o (pc' := 141) at_139 rfl rfl ?_
        refine g_icmp_ne cx o (pc' := 166) (pc2 := 144) at_141 (by decide) (by decide) rfl (fun c141 => absurd (by decide) c141) (fun c141 => ?_)
        refine g_aload cx o (pc' := 146) at_144 rfl rfl rfl ?_
        refine g_virtual cx o (pc' := 149) (y := (⟨"com/example/dendrosite/dendrosite/tree/Region", "isEmpty", "()Z"⟩ : MethodName)) (z := (⟨"com/example/dendrosite/dendrosite/tree/Region", "isEmpty", "()Z"⟩ : MethodName)) (hw _ (List.mem_of_getElem? (i := 59) rfl)) (hw _ (List.mem_of_getElem? (i := 60) rfl)) (notFace_of_selects (args := #[]) (mvT cx.2.1 (hw _ (List.mem_of_getElem? (i := 62) rfl)))) (hw _ (List.mem_of_getElem? (i := 62) rfl)) (hw _ (List.mem_of_getElem? (i := 61) rfl)) (hw _ (List.mem_of_getElem? (i := 32) rfl)) (hw _ (List.mem_of_getElem? (i := 63) rfl)) 0 rfl (rmE l Z a0 hw rg cv ea (((List.replicate n (0 : Int32)).set V 1).set U 1) bl _)  rfl pd_6 rfl (by decide) rfl 0 (Nat.le_of_eq rfl) (by decide) (by decide) (by decide) (by decide) at_146 rfl (fun T v L hQ o => ?_)
        obtain ⟨rfl, rfl⟩ := hQ
        simp only [Option.toList_some, Option.toList_none, List.cons_append, List.nil_append]
        refine g_iload cx o (pc' := 151) at_149 rfl rfl ?_
        refine g_if_ne cx o (pc' := 158) (pc2 := 154) at_151 (by decide) (by decide) rfl (fun c151 => ?_) (fun c151 => absurd c151 (by decide))
        refine g_iconst cx o (pc' := 159) (0 : Int32) at_158 rfl rfl ?_
        refine g_icmp_ne cx o (pc' := 166) (pc2 := 162) at_159 (by decide) (by decide) rfl (fun c159 => absurd (if_neg (fun z => absurd (z 1 (List.mem_of_getElem? (i := U) (by rw [List.getElem?_set_self (by rw [List.length_set, List.length_replicate]; exact hU)]))) (by decide))) c159) (fun c159 => ?_)
        refine g_iconst cx o (pc' := 163) (1 : Int32) at_162 rfl rfl ?_
        refine g_goto cx o (pc' := 167) at_163 (by decide) (by decide) ?_
        exact g_ireturnZ cx o at_167 (by decide) (by decide) (by decide) rfl
set_option maxHeartbeats 40000000 in
theorem comes_1 {Post : Tables → Env → Array Value → State → Outcome → State → Prop} (hpost : ∀ tb e args s v u, (limb_1_1.after args s (.returned v) u = true ∧ limb_1_2.after args s (.returned v) u = true ∧ True) → FrameEnd s (.returned v) u (Jvm.fieldLocs frame_1_writes args s ++ Jvm.arrayLocs frame_1_arrays args s ++ Jvm.staticLocs frame_1_statics s) 32 256 → Post tb e args s (.returned v) u) :
    ArmFor flags0 classFile x code maxLocals ret World_1 tables_1 room_1 Calls_1 rest_1 Pre_1 Post := by
  intro l hfl _ _ p e ha hc hk s m args below hf hA hF happ hP
  obtain ⟨hcalls, hrest, hpre⟩ := hP
  obtain ⟨-, -, -, hnamed, -, -, -, hat⟩ := (Spec.applies_iff hf).mp happ
  obtain ⟨hg, hn⟩ := and_e (Cond.before_iff.mp (show (Jvm.Cond.and given_1 narrow_1).before args s = true from hpre))
  obtain ⟨hg0, hg⟩ := and_e hg
  obtain ⟨w0, w1, w2, w3, rfl⟩ : ∃ w0 w1 w2 w3 : Value, args = #[w0, w1, w2, w3] := by
    have hs : args.size = 4 := by simpa [Cond.value, given_1] using hg0
    obtain ⟨L⟩ := args
    match L, hs with
    | [w0, w1, w2, w3], _ => exact ⟨w0, w1, w2, w3, rfl⟩
  have hw := fun d (hd : d ∈ tables_1) => atoms_spec (ws := Jvm.Cond.code x code maxLocals ret :: tables_1) hat d (List.mem_cons_of_mem _ hd)
  have hfit : Fit s := fun {y c} hc i hi => by
    obtain ⟨ha, rfl⟩ := Array.getElem?_eq_some_iff.mp hc
    have q := List.all_eq_true.mp ((Array.all_eq_true_iff_forall_mem.mp hF) _ (Array.getElem_mem ha)) i (List.mem_range.mpr hi)
    simpa [Array.getElem?_eq_getElem hi] using q
  obtain ⟨g0, hg⟩ := and_e hg
  obtain ⟨p0, e0⟩ := is_v g0
  obtain rfl : w0 = (.int p0) := Option.some.inj e0
  obtain ⟨g1, hg⟩ := and_e hg
  obtain ⟨p1, e1⟩ := is_v g1
  obtain rfl : w1 = (.int p1) := Option.some.inj e1
  obtain ⟨g2, hg⟩ := and_e hg
  obtain ⟨p2, e2⟩ := is_v g2
  obtain rfl : w2 = (.int p2) := Option.some.inj e2
  have g3 := hg
  obtain ⟨p3, e3⟩ := is_v g3
  obtain rfl : w3 = (.int p3) := Option.some.inj e3
  obtain ⟨n, o, h1, h2, h3, _, L, rfl, ⟨N, L', -, rfl⟩, hq⟩ := rm0 l s _ hw p0 p1 p2 p3 tables_1 s.heap ⟨⟨Nat.le_refl _, fun _ _ q => q⟩, List.nodup_nil, fun _ q => nomatch q⟩ p e ha hc hk s m _ below hf ((Spec.applies_iff_loose hf).mp happ).1 ⟨rfl, State.Warmed39.refl s, rfl⟩ trivial
  refine ⟨n, _, h1, h2, h3, hpost _ _ _ _ _ _ ⟨Cond.after_iff.mpr rfl, Cond.after_iff.mpr (eq_i res_at (Term.int_eval (1)) rfl), trivial⟩ ⟨hq.1, hq.2.1, (hq.2.2.sift fun y hy => Or.inr (N y hy)).mono (by decide) (by decide)⟩⟩
theorem main_1_1 : Claimed_1_1 := comes_1 fun _ _ _ _ _ _ h hF => ⟨h.1, hF⟩
theorem main_1_2 : Claimed_1_2 := comes_1 fun _ _ _ _ _ _ h hF => ⟨h.2.1, hF⟩
end Jvm.Pilot.@@N@@
namespace Jvm.Pilot.@@N@@
open Jvm Jvm.ClassFile Sem Op Lib Jvm.Free Jvm.Stand Jvm.Pilot.@@N@@.Jvm.D
/-! MADE BY PROGRAM (witnessworld.py) out of the Statement's table words and the real class files: 14 classes; the members and pool entries that the words name. The judged class is class 1, her method 1. -/
namespace start1
open Jvm.ClassFile
def u (s : String) : CpInfo := .utf8 (stringToUtf16 s)
/-- a pool by its gaps: so many unusable entries, then the entry; so many at the end -/
def gap : Nat → List CpInfo → List CpInfo
  | 0, r => r
  | n + 1, r => .unusable :: gap n r
def poolList (es : List (Nat × CpInfo)) (last : Nat) : List CpInfo := es.foldr (fun e r => gap e.1 (e.2 :: r)) (gap last [])
def pool (es : List (Nat × CpInfo)) (last : Nat) : Array CpInfo := ⟨poolList es last⟩
def fileOf (pool : Array CpInfo) (this : Nat) (attrs : Array Attribute := #[]) (ms : Array MethodInfo := #[]) (fl : Nat := 33) (sup : Nat := 0) (ifs : Array Nat := #[]) (fds : Array FieldInfo := #[]) : ClassFile where
  minorVersion := 0
  majorVersion := 65
  constantPool := pool
  accessFlags := fl
  thisClass := this
  superClass := sup
  interfaces := ifs
  fields := fds
  methods := ms
  attributes := attrs
def plain (name : String) (sup : Option ClassId) : Class where
  name := name
  kind := .ordinary
  loader := none
  accessFlags := 33
  super := sup
  interfaces := #[]
  cf := none
  fields := #[]
  methods := #[]
  instanceTypes := #[]
  staticTypes := #[]
  resolved := #[]
  callSites := []
  init := .initialized
  statics := none
  mirror := none

def pool0 : Array CpInfo := pool [(5, u "<init>"), (0, u "()V"), (1, .class_ 10), (1, u "java/lang/Object"), (85, u "clone"), (0, u "()Ljava/lang/Object;")] 26

def k0c0 : Code := { maxStack := 0, maxLocals := 1, code := object_method_1_code, exceptionTable := #[], attributes := #[] }
def k0m0 : Method := { name := "<init>", desc := "()V", sig := { parameters := [], returnType := none }, accessFlags := 1, code := some k0c0 }
def k0m1 : Method := { name := "clone", desc := "()Ljava/lang/Object;", sig := { parameters := [], returnType := some (.object "java/lang/Object") }, accessFlags := 260, code := none }
/-- java/lang/Object -/
def k0 : Class := { plain "java/lang/Object" none with
  accessFlags := 33
  interfaces := #[]
  cf := some (fileOf pool0 8 #[] #[{ accessFlags := 1, nameIndex := 5, descriptorIndex := 6, attributes := #[] }, { accessFlags := 260, nameIndex := 96, descriptorIndex := 97, attributes := #[] }] 33 0 #[] #[])
  fields := #[]
  methods := #[k0m0, k0m1]
  instanceTypes := #[]
  staticTypes := #[]
  resolved := Array.replicate 124 none
  statics := none }

def pool1 : Array CpInfo := pool [(2, .class_ 4), (1, u "java/lang/Object"), (0, u "<init>"), (0, u "()V"), (0, .integer 2147483647), (0, .class_ 9), (0, u "com/example/dendrosite/dendrosite/tree/Region$Builder"), (0, .methodref 8 11), (0, .nameAndType 5 12), (0, u "(I)V"), (0, .methodref 8 14), (0, .nameAndType 15 12), (0, u "addVertex"), (0, .methodref 8 17), (0, .nameAndType 18 19), (0, u "build"), (0, u "([I[I[D)Lcom/example/dendrosite/dendrosite/tree/Region;"), (0, .methodref 21 22), (0, .class_ 23), (0, .nameAndType 24 25), (0, u "com/example/dendrosite/dendrosite/tree/Region"), (0, u "contains"), (0, u "(I)Z"), (0, .methodref 21 27), (0, .nameAndType 28 29), (0, u "isEmpty"), (0, u "()Z"), (0, .class_ 31), (0, u "com/example/dendrosite/dendrosite/tree/BuilderAddVertexPinLaw"), (2, u "law"), (0, u "(IIII)Z")] 5

def k1m0 : Method := { name := "<init>", desc := "()V", sig := { parameters := [], returnType := none }, accessFlags := 2, code := none }
def k1c1 : Code := { maxStack := 4, maxLocals := 12, code := code, exceptionTable := #[], attributes := #[] }
def k1m1 : Method := { name := "law", desc := "(IIII)Z", sig := { parameters := [.int, .int, .int, .int], returnType := some .boolean }, accessFlags := 9, code := some k1c1 }
/-- com/example/dendrosite/dendrosite/tree/BuilderAddVertexPinLaw -/
def k1 : Class := { plain "com/example/dendrosite/dendrosite/tree/BuilderAddVertexPinLaw" (some 0) with
  accessFlags := 49
  interfaces := #[]
  cf := some (fileOf pool1 30 #[] #[{ accessFlags := 2, nameIndex := 5, descriptorIndex := 6, attributes := #[] }, { accessFlags := 9, nameIndex := 34, descriptorIndex := 35, attributes := #[] }] 49 2 #[] #[])
  fields := #[]
  methods := #[k1m0, k1m1]
  instanceTypes := #[]
  staticTypes := #[]
  resolved := Array.replicate 41 none
  statics := none }

def pool2 : Array CpInfo := pool [(1, .methodref 2 3), (0, .class_ 4), (0, .nameAndType 5 6), (0, u "java/lang/Object"), (0, u "<init>"), (0, u "()V"), (0, .fieldref 8 9), (0, .class_ 10), (0, .nameAndType 11 12), (0, u "com/example/dendrosite/dendrosite/tree/Region$Builder"), (0, u "vertices"), (0, u "[Z"), (0, .fieldref 8 14), (0, .nameAndType 15 16), (0, u "edges"), (0, u "[I"), (0, .fieldref 8 18), (0, .nameAndType 19 20), (0, u "starts"), (0, u "[D"), (0, .fieldref 8 22), (0, .nameAndType 23 20), (0, u "ends"), (0, .fieldref 8 25), (0, .nameAndType 26 27), (0, u "vertexCount"), (0, u "I"), (0, .fieldref 8 29), (0, .nameAndType 30 27), (0, u "count"), (9, .class_ 41), (0, u "com/example/dendrosite/dendrosite/tree/Region"), (0, .methodref 43 44), (0, .class_ 12), (0, .nameAndType 45 46), (0, u "clone"), (0, u "()Ljava/lang/Object;"), (0, .methodref 40 48), (0, .nameAndType 5 49), (0, u "([Z[I[D[D)V"), (43, u "(I)V"), (2, u "addVertex"), (3, u "build"), (0, u "([I[I[D)Lcom/example/dendrosite/dendrosite/tree/Region;")] 30

def k2c0 : Code := { maxStack := 2, maxLocals := 2, code := prog_38_method_1_code, exceptionTable := #[], attributes := #[] }
def k2m0 : Method := { name := "<init>", desc := "(I)V", sig := { parameters := [.int], returnType := none }, accessFlags := 0, code := some k2c0 }
def k2c1 : Code := { maxStack := 3, maxLocals := 2, code := prog_38_method_2_code, exceptionTable := #[], attributes := #[] }
def k2m1 : Method := { name := "addVertex", desc := "(I)V", sig := { parameters := [.int], returnType := none }, accessFlags := 0, code := some k2c1 }
def k2c2 : Code := { maxStack := 7, maxLocals := 17, code := prog_38_method_4_code, exceptionTable := #[], attributes := #[] }
def k2m2 : Method := { name := "build", desc := "([I[I[D)Lcom/example/dendrosite/dendrosite/tree/Region;", sig := { parameters := [(.array .int), (.array .int), (.array .double)], returnType := some (.object "com/example/dendrosite/dendrosite/tree/Region") }, accessFlags := 0, code := some k2c2 }
/-- com/example/dendrosite/dendrosite/tree/Region$Builder -/
def k2 : Class := { plain "com/example/dendrosite/dendrosite/tree/Region$Builder" (some 0) with
  accessFlags := 48
  interfaces := #[]
  cf := some (fileOf pool2 8 #[.nestHost 40] #[{ accessFlags := 0, nameIndex := 5, descriptorIndex := 93, attributes := #[] }, { accessFlags := 0, nameIndex := 96, descriptorIndex := 93, attributes := #[] }, { accessFlags := 0, nameIndex := 100, descriptorIndex := 101, attributes := #[] }] 48 2 #[] #[{ accessFlags := 18, nameIndex := 26, descriptorIndex := 27, attributes := #[] }, { accessFlags := 2, nameIndex := 11, descriptorIndex := 12, attributes := #[] }, { accessFlags := 2, nameIndex := 30, descriptorIndex := 27, attributes := #[] }, { accessFlags := 2, nameIndex := 15, descriptorIndex := 16, attributes := #[] }, { accessFlags := 2, nameIndex := 19, descriptorIndex := 20, attributes := #[] }, { accessFlags := 2, nameIndex := 23, descriptorIndex := 20, attributes := #[] }])
  fields := #[{ name := "vertexCount", type := .int, accessFlags := 18, slot := 0, constantValue := 0 }, { name := "vertices", type := (.array .boolean), accessFlags := 2, slot := 1, constantValue := 0 }, { name := "count", type := .int, accessFlags := 2, slot := 2, constantValue := 0 }, { name := "edges", type := (.array .int), accessFlags := 2, slot := 3, constantValue := 0 }, { name := "starts", type := (.array .double), accessFlags := 2, slot := 4, constantValue := 0 }, { name := "ends", type := (.array .double), accessFlags := 2, slot := 5, constantValue := 0 }]
  methods := #[k2m0, k2m1, k2m2]
  instanceTypes := #[.int, (.array .boolean), .int, (.array .int), (.array .double), (.array .double)]
  staticTypes := #[]
  resolved := Array.replicate 132 none
  statics := none }

def pool3 : Array CpInfo := pool [(1, .methodref 2 3), (0, .class_ 4), (0, .nameAndType 5 6), (0, u "java/lang/Object"), (0, u "<init>"), (0, u "()V"), (0, .fieldref 8 9), (0, .class_ 10), (0, .nameAndType 11 12), (0, u "com/example/dendrosite/dendrosite/tree/Region"), (0, u "vertices"), (0, u "[Z"), (0, .fieldref 8 14), (0, .nameAndType 15 16), (0, u "firstStretch"), (0, u "[I"), (0, .fieldref 8 18), (0, .nameAndType 19 20), (0, u "starts"), (0, u "[D"), (0, .fieldref 8 22), (0, .nameAndType 23 20), (0, u "ends"), (8, u "([Z[I[D[D)V"), (0, .class_ 34), (0, u "com/example/dendrosite/dendrosite/tree/Region$Builder"), (18, u "()Z"), (46, u "(I)Z"), (44, u "contains"), (41, .class_ 188), (0, u "com/example/dendrosite/dendrosite/tree/Region$Farthest"), (67, u "isEmpty")] 125

def k3c0 : Code := { maxStack := 2, maxLocals := 5, code := prog_37_method_1_code, exceptionTable := #[], attributes := #[] }
def k3m0 : Method := { name := "<init>", desc := "([Z[I[D[D)V", sig := { parameters := [(.array .boolean), (.array .int), (.array .double), (.array .double)], returnType := none }, accessFlags := 2, code := some k3c0 }
def k3c1 : Code := { maxStack := 2, maxLocals := 5, code := prog_37_method_5_code, exceptionTable := #[], attributes := #[] }
def k3m1 : Method := { name := "isEmpty", desc := "()Z", sig := { parameters := [], returnType := some .boolean }, accessFlags := 1, code := some k3c1 }
def k3c2 : Code := { maxStack := 2, maxLocals := 2, code := prog_37_method_7_code, exceptionTable := #[], attributes := #[] }
def k3m2 : Method := { name := "contains", desc := "(I)Z", sig := { parameters := [.int], returnType := some .boolean }, accessFlags := 1, code := some k3c2 }
/-- com/example/dendrosite/dendrosite/tree/Region -/
def k3 : Class := { plain "com/example/dendrosite/dendrosite/tree/Region" (some 0) with
  accessFlags := 49
  interfaces := #[]
  cf := some (fileOf pool3 8 #[.nestMembers #[33, 187]] #[{ accessFlags := 2, nameIndex := 5, descriptorIndex := 32, attributes := #[] }, { accessFlags := 1, nameIndex := 256, descriptorIndex := 53, attributes := #[] }, { accessFlags := 1, nameIndex := 145, descriptorIndex := 100, attributes := #[] }] 49 2 #[] #[{ accessFlags := 18, nameIndex := 11, descriptorIndex := 12, attributes := #[] }, { accessFlags := 18, nameIndex := 15, descriptorIndex := 16, attributes := #[] }, { accessFlags := 18, nameIndex := 19, descriptorIndex := 20, attributes := #[] }, { accessFlags := 18, nameIndex := 23, descriptorIndex := 20, attributes := #[] }])
  fields := #[{ name := "vertices", type := (.array .boolean), accessFlags := 18, slot := 0, constantValue := 0 }, { name := "firstStretch", type := (.array .int), accessFlags := 18, slot := 1, constantValue := 0 }, { name := "starts", type := (.array .double), accessFlags := 18, slot := 2, constantValue := 0 }, { name := "ends", type := (.array .double), accessFlags := 18, slot := 3, constantValue := 0 }]
  methods := #[k3m0, k3m1, k3m2]
  instanceTypes := #[(.array .boolean), (.array .int), (.array .double), (.array .double)]
  staticTypes := #[]
  resolved := Array.replicate 382 none
  statics := none }

def pool4 : Array CpInfo := pool [(1, .class_ 2), (0, u "java/lang/Cloneable"), (0, .class_ 4), (0, u "java/lang/Object")] 2

/-- java/lang/Cloneable -/
def k4 : Class := { plain "java/lang/Cloneable" (some 0) with
  accessFlags := 1537
  interfaces := #[]
  cf := some (fileOf pool4 1 #[] #[] 1537 3 #[] #[])
  fields := #[]
  methods := #[]
  instanceTypes := #[]
  staticTypes := #[]
  resolved := Array.replicate 7 none
  statics := none }

def pool5 : Array CpInfo := pool [(1, u "java/io/Serializable"), (0, .class_ 1), (0, u "java/lang/Object"), (0, .class_ 3)] 3

/-- java/io/Serializable -/
def k5 : Class := { plain "java/io/Serializable" (some 0) with
  accessFlags := 1537
  interfaces := #[]
  cf := some (fileOf pool5 2 #[] #[] 1537 4 #[] #[])
  fields := #[]
  methods := #[]
  instanceTypes := #[]
  staticTypes := #[]
  resolved := Array.replicate 8 none
  statics := none }

/-- the primitive boolean -/
def k6 : Class := { plain "boolean" none with kind := .primitive 'Z', accessFlags := 0x411 }
/-- [Z -/
def k7 : Class := { plain "[Z" (some 0) with kind := .array 6 .boolean, interfaces := #[4, 5], accessFlags := 1041 }

/-- the primitive byte -/
def k8 : Class := { plain "byte" none with kind := .primitive 'B', accessFlags := 0x411 }
/-- [B -/
def k9 : Class := { plain "[B" (some 0) with kind := .array 8 .byte, interfaces := #[4, 5], accessFlags := 1041 }

/-- the primitive double -/
def k10 : Class := { plain "double" none with kind := .primitive 'D', accessFlags := 0x411 }
/-- [D -/
def k11 : Class := { plain "[D" (some 0) with kind := .array 10 .double, interfaces := #[4, 5], accessFlags := 1041 }

/-- the primitive int -/
def k12 : Class := { plain "int" none with kind := .primitive 'I', accessFlags := 0x411 }
/-- [I -/
def k13 : Class := { plain "[I" (some 0) with kind := .array 12 .int, interfaces := #[4, 5], accessFlags := 1041 }

def heap : Heap := #[]
def classes : Array Class := #[k0, k1, k2, k3, k4, k5, k6, k7, k8, k9, k10, k11, k12, k13]
def interned : List (Array UInt16 × Addr) := []
def slotsUsed : Nat := 0
def theMethod : MethodId := ⟨1, 1⟩
def args0 : Array Value := #[.int 5, .int 2, .int 7, .int 1]
def aboutOver (below : List Frame) : State where
  vm := { classes := classes, interned := interned.toArray }
  heap := heap
  slotsUsed := slotsUsed
  threads := #[{ frames := .invoking theMethod args0 :: below }]
def below0 : List Frame := [.native { method := ⟨0, 0⟩, args := #[] }]
def about1 : State := aboutOver below0
def p0 : Program := .bare "" "" ""
def e0 : Env := launch0.env 0 0 0
theorem w_frames : about1.frames = Frame.invoking theMethod args0 :: below0 := rfl
set_option maxRecDepth 65536 in
theorem w_args : argsFit about1.vm theMethod args0 = true := by decide +kernel
set_option maxRecDepth 65536 in
theorem w_heap : heapFits about1 = true := by decide +kernel
set_option maxRecDepth 65536 in
theorem w_runnable : about1.curStatus? = some .runnable := by decide +kernel
set_option maxRecDepth 65536 in
theorem w_alone : about1.alone = true := by decide +kernel
set_option maxRecDepth 65536 in
theorem w_named : about1.methodNamed? x = some theMethod := by decide +kernel
set_option maxRecDepth 65536 in
theorem w_hears : about1.hears theMethod below0 = true := by decide +kernel
set_option maxRecDepth 65536 in
theorem w_ripe : about1.ripe theMethod args0 below0 = true := by decide +kernel
theorem w_running : about1.status = .running := rfl
set_option maxRecDepth 65536 in
theorem w_room : about1.hasRoom e0.platform room_1 = true :=
  launch0.hasRoom_least _ room_1 (by decide +kernel) (by decide +kernel) (by decide +kernel) (by decide +kernel) (by decide +kernel) (by decide +kernel)
theorem allAtoms_all (ts : List Jvm.Cond) (a : Array Jvm.Value) (st : Jvm.State) : (allAtoms ts).before a st = ts.all (fun c => c.before a st) := by
  induction ts with
  | nil => rfl
  | cons c t ih =>
    show (Jvm.Cond.and c (allAtoms t)).before a st = _
    rw [Jvm.Cond.before_and, ih, List.all_cons]
def words1 : List Jvm.Cond := Jvm.Cond.code x code maxLocals ret :: tables_1
/-- a 'code' word, met by the world's own term for the bytes: nothing is compared byte by byte -/
theorem code_word {y : MethodName} {bytes : ByteArray} {mx : Nat} {rt : Option FieldType} {a : Array Value} {s : State} {m : MethodId} {meth : Method} {c : Code} (h1 : s.methodNamed? y = some m) (h2 : s.vm.method? m = some meth) (h3 : meth.code = some c) (h4 : c.code = bytes)
    (h5 : (c.maxLocals == mx && c.exceptionTable.isEmpty && decide (c.maxStack ≤ mostOperands) && decide (meth.sig.returnType = rt) && !meth.locks && decide (parseMethodDescriptor y.desc = some meth.sig)) = true) : (Jvm.Cond.code y bytes mx rt).before a s = true := by
  simp only [Bool.and_eq_true, beq_iff_eq, Bool.not_eq_true', decide_eq_true_eq] at h5
  obtain ⟨⟨⟨⟨⟨g1, g2⟩, g3⟩, g4⟩, g5⟩, g6⟩ := h5
  simp [Cond.before, Cond.holds, Cond.value, h1, h2, h3, h4, g1, g2, g3, g4, g5, g6]
def isCode : Jvm.Cond → Bool
  | .code _ _ _ _ => true
  | _ => false
theorem all_split {L : List Jvm.Cond} {P : Jvm.Cond → Bool} (h1 : L.all (fun c => isCode c || P c) = true) (h2 : ∀ c ∈ L.filter isCode, P c = true) : L.all P = true := by
  refine List.all_eq_true.mpr fun c hc => ?_
  have h := List.all_eq_true.mp h1 c hc
  rcases Bool.eq_false_or_eq_true (isCode c) with hi | hi
  · exact h2 c (List.mem_filter.mpr ⟨hc, hi⟩)
  · simpa [hi] using h
set_option maxRecDepth 65536 in
theorem w_c0 : (Jvm.Cond.code x code maxLocals ret).before args0 about1 = true := code_word (m := ⟨1, 1⟩) (meth := k1m1) (c := k1c1) (by decide +kernel) rfl rfl rfl (by decide +kernel)
set_option maxRecDepth 65536 in
theorem w_c1 : (Jvm.Cond.code ({ cls := "com/example/dendrosite/dendrosite/tree/Region$Builder", name := "<init>", desc := "(I)V" } : Jvm.MethodName) prog_38_method_1_code (2 : Nat) (Option.none : Option Jvm.ClassFile.FieldType)).before args0 about1 = true := code_word (m := ⟨2, 0⟩) (meth := k2m0) (c := k2c0) (by decide +kernel) rfl rfl rfl (by decide +kernel)
set_option maxRecDepth 65536 in
theorem w_c2 : (Jvm.Cond.code ({ cls := "java/lang/Object", name := "<init>", desc := "()V" } : Jvm.MethodName) object_method_1_code (1 : Nat) (Option.none : Option Jvm.ClassFile.FieldType)).before args0 about1 = true := code_word (m := ⟨0, 0⟩) (meth := k0m0) (c := k0c0) (by decide +kernel) rfl rfl rfl (by decide +kernel)
set_option maxRecDepth 65536 in
theorem w_c3 : (Jvm.Cond.code ({ cls := "com/example/dendrosite/dendrosite/tree/Region$Builder", name := "build", desc := "([I[I[D)Lcom/example/dendrosite/dendrosite/tree/Region;" } : Jvm.MethodName) prog_38_method_4_code (17 : Nat) (Option.some (Jvm.ClassFile.FieldType.object "com/example/dendrosite/dendrosite/tree/Region"))).before args0 about1 = true := code_word (m := ⟨2, 2⟩) (meth := k2m2) (c := k2c2) (by decide +kernel) rfl rfl rfl (by decide +kernel)
set_option maxRecDepth 65536 in
theorem w_c4 : (Jvm.Cond.code ({ cls := "com/example/dendrosite/dendrosite/tree/Region", name := "<init>", desc := "([Z[I[D[D)V" } : Jvm.MethodName) prog_37_method_1_code (5 : Nat) (Option.none : Option Jvm.ClassFile.FieldType)).before args0 about1 = true := code_word (m := ⟨3, 0⟩) (meth := k3m0) (c := k3c0) (by decide +kernel) rfl rfl rfl (by decide +kernel)
set_option maxRecDepth 65536 in
theorem w_c5 : (Jvm.Cond.code ({ cls := "com/example/dendrosite/dendrosite/tree/Region", name := "contains", desc := "(I)Z" } : Jvm.MethodName) prog_37_method_7_code (2 : Nat) (Option.some Jvm.ClassFile.FieldType.boolean)).before args0 about1 = true := code_word (m := ⟨3, 2⟩) (meth := k3m2) (c := k3c2) (by decide +kernel) rfl rfl rfl (by decide +kernel)
set_option maxRecDepth 65536 in
theorem w_c6 : (Jvm.Cond.code ({ cls := "com/example/dendrosite/dendrosite/tree/Region", name := "isEmpty", desc := "()Z" } : Jvm.MethodName) prog_37_method_5_code (5 : Nat) (Option.some Jvm.ClassFile.FieldType.boolean)).before args0 about1 = true := code_word (m := ⟨3, 1⟩) (meth := k3m1) (c := k3c1) (by decide +kernel) rfl rfl rfl (by decide +kernel)
set_option maxRecDepth 65536 in
theorem w_c7 : (Jvm.Cond.code ({ cls := "com/example/dendrosite/dendrosite/tree/Region$Builder", name := "addVertex", desc := "(I)V" } : Jvm.MethodName) prog_38_method_2_code (2 : Nat) (Option.none : Option Jvm.ClassFile.FieldType)).before args0 about1 = true := code_word (m := ⟨2, 1⟩) (meth := k2m1) (c := k2c1) (by decide +kernel) rfl rfl rfl (by decide +kernel)
def codes1 : List Jvm.Cond := [Jvm.Cond.code x code maxLocals ret, Jvm.Cond.code ({ cls := "com/example/dendrosite/dendrosite/tree/Region$Builder", name := "<init>", desc := "(I)V" } : Jvm.MethodName) prog_38_method_1_code (2 : Nat) (Option.none : Option Jvm.ClassFile.FieldType), Jvm.Cond.code ({ cls := "java/lang/Object", name := "<init>", desc := "()V" } : Jvm.MethodName) object_method_1_code (1 : Nat) (Option.none : Option Jvm.ClassFile.FieldType), Jvm.Cond.code ({ cls := "com/example/dendrosite/dendrosite/tree/Region$Builder", name := "build", desc := "([I[I[D)Lcom/example/dendrosite/dendrosite/tree/Region;" } : Jvm.MethodName) prog_38_method_4_code (17 : Nat) (Option.some (Jvm.ClassFile.FieldType.object "com/example/dendrosite/dendrosite/tree/Region")), Jvm.Cond.code ({ cls := "com/example/dendrosite/dendrosite/tree/Region", name := "<init>", desc := "([Z[I[D[D)V" } : Jvm.MethodName) prog_37_method_1_code (5 : Nat) (Option.none : Option Jvm.ClassFile.FieldType), Jvm.Cond.code ({ cls := "com/example/dendrosite/dendrosite/tree/Region", name := "contains", desc := "(I)Z" } : Jvm.MethodName) prog_37_method_7_code (2 : Nat) (Option.some Jvm.ClassFile.FieldType.boolean), Jvm.Cond.code ({ cls := "com/example/dendrosite/dendrosite/tree/Region", name := "isEmpty", desc := "()Z" } : Jvm.MethodName) prog_37_method_5_code (5 : Nat) (Option.some Jvm.ClassFile.FieldType.boolean), Jvm.Cond.code ({ cls := "com/example/dendrosite/dendrosite/tree/Region$Builder", name := "addVertex", desc := "(I)V" } : Jvm.MethodName) prog_38_method_2_code (2 : Nat) (Option.none : Option Jvm.ClassFile.FieldType)]
set_option maxRecDepth 65536 in
theorem codes_eq : words1.filter isCode = codes1 := rfl
theorem w_codes : ∀ c ∈ words1.filter isCode, c.before args0 about1 = true := by
  rw [codes_eq]
  intro c hc
  simp only [codes1, List.mem_cons, List.not_mem_nil, or_false] at hc
  rcases hc with rfl | rfl | rfl | rfl | rfl | rfl | rfl | rfl
  · exact w_c0
  · exact w_c1
  · exact w_c2
  · exact w_c3
  · exact w_c4
  · exact w_c5
  · exact w_c6
  · exact w_c7
set_option maxRecDepth 65536 in
theorem w_t1 : (words1.take 24).all (fun c => isCode c || c.before args0 about1) = true := by decide +kernel
set_option maxRecDepth 65536 in
theorem w_t2 : ((words1.drop 24).take 24).all (fun c => isCode c || c.before args0 about1) = true := by decide +kernel
set_option maxRecDepth 65536 in
theorem w_t3 : ((words1.drop 24).drop 24).all (fun c => isCode c || c.before args0 about1) = true := by decide +kernel
theorem w_tables : (allAtoms (Jvm.Cond.code x code maxLocals ret :: tables_1)).before args0 about1 = true := by
  rw [allAtoms_all]
  show words1.all (fun c => c.before args0 about1) = true
  refine all_split ?_ w_codes
  rw [← List.take_append_drop 24 words1, List.all_append, w_t1, ← List.take_append_drop 24 (words1.drop 24), List.all_append, w_t2, w_t3]
  rfl
set_option maxRecDepth 65536 in
theorem w_case : (Jvm.Cond.and given_1 narrow_1).before args0 about1 = true := by decide +kernel
theorem w_applies : (headSpec (Jvm.Cond.code x code maxLocals ret :: tables_1) room_1).applies x e0.platform about1 = true :=
  (Spec.applies_iff w_frames).mpr ⟨w_running, w_runnable, w_alone, w_named, w_hears, w_ripe, w_room, w_tables⟩
theorem atStart : AtStart classFile x code maxLocals ret World_1 tables_1 room_1 Calls_1 rest_1 Pre_1 launch0 p0 e0 about1 theMethod args0 below0 :=
  ⟨lists_1, trivial, launch0.admits_env _ _ _, launch0.least_env, fairChoices_fair.cas, fairChoices_fair.clock, w_frames, w_args, w_heap, w_applies, trivial, trivial, w_case⟩
end start1
theorem witness_1 : WitnessClaimed_1 := ⟨start1.p0, start1.e0, start1.about1, start1.theMethod, start1.args0, start1.below0, start1.atStart⟩
end Jvm.Pilot.@@N@@
