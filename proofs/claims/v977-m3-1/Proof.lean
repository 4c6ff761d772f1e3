import JvmDerived
import JvmDerived.Pilot.@@N@@Statement
import JvmDerived.Pilot.@@N@@Code
set_option linter.unusedVariables false
set_option linter.unusedSimpArgs false
set_option maxRecDepth 65536
@@BLOCK:NumsL.lean.txt@@
namespace Jvm.Pilot.@@N@@
open Jvm Jvm.ClassFile Sem Op Lib Jvm.Free Jvm.Stand Jvm.LawKit Jvm.RoadKit Bundle Jvm.Pilot.@@N@@.Jvm.D Jvm.Free.Fl
/-! ## 1. what is known of a cell -/
abbrev oEnt := Addr × (Cell → Prop)
abbrev oFs := List (String × String × String × Value)
section OwnCells
variable {Z : State} {a0 : Array Value} {h h' : Heap} {L L' : List oEnt} {a : Addr} {P P' : Cell → Prop} {C O n d : String} {v w old : Value} {cell : Cell} {ty : FieldType} {vs : List Value} {sl i j k : Nat}
def oExa (Z : State) (C : String) (cell : Cell) : Prop := ∃ k : Class, Z.vm.findClass C = some cell.cls ∧ Z.vm.classes[cell.cls]? = some k ∧ cell.vm.isStatics = false ∧ (k.kind = .ordinary → cell.slots.size = k.instanceTypes.size)
def oFld (Z : State) (O n d : String) (v : Value) (cell : Cell) : Prop := ∃ (cf : ClassId) (k : Class) (i : Nat) (f : Field), Z.fieldFound? O n d = some (cf, k, i, f) ∧ f.isStatic = false ∧ cell.vm ≠ .unknown ∧ cell.vm.isStatics = false ∧ Z.vm.assignable cell.cls cf = true ∧ cell.slots[f.slot]? = some v
/-- an object of class C, with the values of the fields named (owner, name, descriptor, value) -/
def oObj (Z : State) (a0 : Array Value) (C : String) (fs : oFs) (cell : Cell) : Prop := oExa Z C cell ∧ ∀ t ∈ fs, Laid Z a0 C t.1 t.2.1 t.2.2.1 ∧ (∃ ty, parseFieldDescriptor t.2.2.1 = some ty) ∧ oFld Z t.1 t.2.1 t.2.2.1 t.2.2.2 cell
/-- an array of that kind with just these components -/
def oArr (Z : State) (ty : FieldType) (vs : List Value) (cell : Cell) : Prop := Z.isArrayOf cell ty ∧ cell.vm ≠ .unknown ∧ cell.slots.toList = vs ∧ vs.length < 2 ^ 31 ∧ ∀ v ∈ vs, fits ty v = true
theorem oExa.exa (E : oExa Z C cell) (hc : h[a]? = some cell) : Exa Z h a C := by obtain ⟨k, e1, e2, e3, e4⟩ := E; exact ⟨cell, k, hc, e1, e2, e3, e4⟩
theorem oExa.of (E : Exa Z h a C) (hc : h[a]? = some cell) : oExa Z C cell := by obtain ⟨c', k, h1, r⟩ := E; cases h1.symm.trans hc; exact ⟨k, r⟩
theorem oFld.fld (F : oFld Z O n d v cell) (hc : h[a]? = some cell) : Fld Z h a O n d v := by obtain ⟨cf, k, i, f, r1, r2, r3, r4, r5, r6⟩ := F; exact ⟨cell, cf, k, i, f, hc, r1, r2, r3, r4, r5, r6⟩
theorem oFld.of (F : Fld Z h a O n d v) (hc : h[a]? = some cell) : oFld Z O n d v cell := by obtain ⟨c', cf, k, i, f, h1, r1, r2, r3, r4, r5, r6⟩ := F; cases h1.symm.trans hc; exact ⟨cf, k, i, f, r1, r2, r3, r4, r5, r6⟩
theorem oExa.set (E : oExa Z C cell) : oExa Z C (cell.setSlot sl v) := by
  obtain ⟨k, e1, e2, e3, e4⟩ := E
  exact ⟨k, e1, e2, e3, fun q => by rw [sz_set]; exact e4 q⟩
theorem oFld.hit (F : oFld Z O n d old cell) : oFld Z O n d v (cell.setSlot (Jvm.RoadKit.slotOf Z O n d) v) := by
  obtain ⟨cf, k, i, f, r1, r2, r3, r4, r5, r6⟩ := F
  refine ⟨cf, k, i, f, r1, r2, r3, r4, r5, ?_⟩
  have e : Jvm.RoadKit.slotOf Z O n d = f.slot := by
    show ((Z.fieldFound? O n d).map (fun z => z.2.2.2.slot)).getD 0 = f.slot
    rw [r1]; rfl
  rw [e]
  show (cell.slots.setIfInBounds f.slot v)[f.slot]? = some v
  exact Array.getElem?_setIfInBounds_self_of_lt (Array.getElem?_eq_some_iff.mp r6).1
theorem oFld.miss (F : oFld Z O n d v cell) (q : Jvm.RoadKit.slotOf Z O n d ≠ sl) : oFld Z O n d v (cell.setSlot sl w) := by
  obtain ⟨cf, k, i, f, r1, r2, r3, r4, r5, r6⟩ := F
  have e : Jvm.RoadKit.slotOf Z O n d = f.slot := by
    show ((Z.fieldFound? O n d).map (fun z => z.2.2.2.slot)).getD 0 = f.slot
    rw [r1]; rfl
  rw [e] at q
  refine ⟨cf, k, i, f, r1, r2, r3, r4, r5, ?_⟩
  show (cell.slots.setIfInBounds sl w)[f.slot]? = some v
  rw [Array.getElem?_setIfInBounds_ne (Ne.symm q)]; exact r6
theorem oObj.put {fs : oFs} (B : oObj Z a0 C fs cell) (hj : fs[j]? = some (O, n, d, old)) (hnd : (fs.map fun t => t.2.1).Nodup) : oObj Z a0 C (fs.set j (O, n, d, v)) (cell.setSlot (Jvm.RoadKit.slotOf Z O n d) v) := by
  refine ⟨B.1.set, fun t ht => ?_⟩
  obtain ⟨i, hi⟩ := List.mem_iff_getElem?.mp ht
  obtain ⟨l0, ⟨t0, p0⟩, f0⟩ := B.2 _ (List.mem_of_getElem? hj)
  have hlt : j < fs.length := (List.getElem?_eq_some_iff.mp hj).1
  by_cases e : j = i
  · subst e
    rw [List.getElem?_set_self hlt] at hi
    cases hi
    exact ⟨l0, ⟨t0, p0⟩, f0.hit⟩
  · rw [List.getElem?_set_ne e] at hi
    obtain ⟨l1, ⟨t1, p1⟩, f1⟩ := B.2 t (List.mem_of_getElem? hi)
    refine ⟨l1, ⟨t1, p1⟩, f1.miss (slot_ne l1 l0 (fun q => ?_) p1 p0)⟩
    have hA : (fs.map fun t => t.2.1)[j]? = (fs.map fun t => t.2.1)[i]? := by simp only [List.getElem?_map, hi, hj, Option.map_some]; rw [q]
    exact e ((List.getElem?_inj (by simpa using hlt) hnd).mp hA)
theorem oArr.put (B : oArr Z ty vs cell) (hf : fits ty v = true) : oArr Z ty (vs.set k v) (cell.setSlot k v) := by
  obtain ⟨b1, b2, b3, b4, b5⟩ := B
  refine ⟨b1, b2, by show (cell.slots.setIfInBounds k v).toList = vs.set k v; rw [Array.toList_setIfInBounds, b3], by simpa using b4, fun u hu => ?_⟩
  rcases List.mem_or_eq_of_mem_set hu with q | q
  · exact b5 u q
  · rw [q]; exact hf
theorem oArr.size (B : oArr Z ty vs cell) : cell.slots.size = vs.length := by rw [← B.2.2.1]; simp
theorem oArr.get (B : oArr Z ty vs cell) (hk : vs[k]? = some v) : cell.slots[k]? = some v := by rw [← Array.getElem?_toList, B.2.2.1]; exact hk
theorem oArr.arr (B : oArr Z ty vs cell) (hc : h[a]? = some cell) : Arr Z h a cell ty := ⟨hc, B.1, B.2.1⟩
theorem o_clamp {k : Nat} (q : k < 2 ^ 31) : (Int32.ofNat k).toNatClampNeg = k ∧ ¬ (Int32.ofNat k) < 0 := by
  have e : (Int32.ofNat k).toInt = k := len_toInt q
  refine ⟨by simp only [Int32.toNatClampNeg, e]; rfl, ?_⟩
  rw [Int32.lt_iff_toInt_lt, e]; show ¬ (k : Int) < 0; omega
theorem oArr.inb (B : oArr Z ty vs cell) {x : Int32} (e : x = Int32.ofNat k) (hk : k < vs.length) : x.toNatClampNeg = k ∧ ¬ (x < 0 ∨ cell.slots.size ≤ x.toNatClampNeg) := by
  subst e
  have q := o_clamp (Nat.lt_trans hk B.2.2.2.1)
  refine ⟨q.1, fun z => z.elim q.2 fun y => ?_⟩
  rw [q.1, B.size] at y; omega
/-! ## 2. the heap: the cells that stood stand as they stood; the listed ones are new, no two alike -/
def oHp (Z : State) (h : Heap) (L : List oEnt) : Prop := (Z.heap.size ≤ h.size ∧ ∀ (a : Addr) (c : Cell), Z.heap[a]? = some c → h[a]? = some c) ∧ (L.map fun x => x.1).Nodup ∧ ∀ x ∈ L, Z.heap.size ≤ x.1 ∧ ∃ c : Cell, h[x.1]? = some c ∧ x.2 c
theorem oHp.at_ (H : oHp Z h L) (hi : L[i]? = some (a, P)) : Z.heap.size ≤ a ∧ ∃ c : Cell, h[a]? = some c ∧ P c := H.2.2 _ (List.mem_of_getElem? hi)
theorem oHp.ne {b : Addr} {P2 : Cell → Prop} (H : oHp Z h L) (hi : L[i]? = some (a, P)) (hj : L[j]? = some (b, P2)) (q : i ≠ j) : a ≠ b := fun e => by
  have hA : (L.map fun x => x.1)[i]? = (L.map fun x => x.1)[j]? := by simp only [List.getElem?_map, hi, hj, Option.map_some]; rw [e]
  exact q ((List.getElem?_inj (by have := (List.getElem?_eq_some_iff.mp hi).1; simpa using this) H.2.1).mp hA)
theorem oHp.new (H : oHp Z h L) (E : Ext h h') (hc : h'[h.size]? = some cell) (hP : P cell) : oHp Z h' ((h.size, P) :: L) := by
  refine ⟨⟨Nat.le_trans H.1.1 E.1, fun a c q => E.2 a c (H.1.2 a c q)⟩, ?_, ?_⟩
  · simp only [List.map_cons, List.nodup_cons]
    refine ⟨fun q => ?_, H.2.1⟩
    obtain ⟨x, hx, e⟩ := List.mem_map.mp q
    obtain ⟨-, c, hc', -⟩ := H.2.2 x hx
    have := (Array.getElem?_eq_some_iff.mp hc').1
    have e' : x.1 = h.size := e
    rw [e'] at this
    exact Nat.lt_irrefl _ this
  · intro x hx
    rcases List.mem_cons.mp hx with rfl | hx
    · exact ⟨H.1.1, cell, hc, hP⟩
    · obtain ⟨q, c, hc', hp⟩ := H.2.2 x hx
      exact ⟨q, c, E.2 _ _ hc', hp⟩
theorem oHp.wr (H : oHp Z h L) (hi : L[i]? = some (a, P)) (W : Wr h h' a sl v) (hP : ∀ c : Cell, P c → P' (c.setSlot sl v)) : oHp Z h' (L.set i (a, P')) := by
  obtain ⟨q, c, hc, hp⟩ := H.at_ hi
  have hlt : i < L.length := (List.getElem?_eq_some_iff.mp hi).1
  refine ⟨⟨by rw [W.size]; exact H.1.1, fun b c' hb => ?_⟩, ?_, ?_⟩
  · obtain ⟨cb', e1, -, -, -, e5, -⟩ := wr_at W (H.1.2 b c' hb)
    have ne : b ≠ a := Nat.ne_of_lt (Nat.lt_of_lt_of_le (Array.getElem?_eq_some_iff.mp hb).1 q)
    rw [← e5 ne]; exact e1
  · have : (L.set i (a, P')).map (fun x => x.1) = L.map (fun x => x.1) := by
      apply List.ext_getElem?
      intro k
      by_cases e : i = k
      · subst e; rw [List.getElem?_map, List.getElem?_set_self hlt, List.getElem?_map, hi]; rfl
      · rw [List.getElem?_map, List.getElem?_set_ne e, List.getElem?_map]
    rw [this]; exact H.2.1
  · intro x hx
    obtain ⟨k, hk⟩ := List.mem_iff_getElem?.mp hx
    by_cases e : i = k
    · subst e
      rw [List.getElem?_set_self hlt] at hk
      cases hk
      obtain ⟨c', e1, -, -, -, -, -, e7⟩ := wr_at W hc
      exact ⟨q, _, e1, (e7 rfl).1 ▸ hP c hp⟩
    · rw [List.getElem?_set_ne e] at hk
      obtain ⟨q', c', hc', hp'⟩ := H.2.2 x (List.mem_of_getElem? hk)
      obtain ⟨cb', e1, -, -, -, e5, -⟩ := wr_at W hc'
      have ne : x.1 ≠ a := H.ne (i := k) (j := i) (a := x.1) (P := x.2) hk hi (Ne.symm e)
      exact ⟨q', c', by rw [← e5 ne]; exact e1, hp'⟩
theorem oHp.perm (H : oHp Z h L) (q : L'.Perm L) : oHp Z h L' := ⟨H.1, (q.map _).nodup_iff.mpr H.2.1, fun x hx => H.2.2 x (q.mem_iff.mp hx)⟩
theorem oHp.weak (H : oHp Z h L) (hi : L[i]? = some (a, P)) (hP : ∀ c : Cell, P c → P' c) : oHp Z h (L.set i (a, P')) := by
  have hlt : i < L.length := (List.getElem?_eq_some_iff.mp hi).1
  refine ⟨H.1, ?_, fun x hx => ?_⟩
  · have : (L.set i (a, P')).map (fun x => x.1) = L.map (fun x => x.1) := by
      apply List.ext_getElem?
      intro k
      by_cases e : i = k
      · subst e; rw [List.getElem?_map, List.getElem?_set_self hlt, List.getElem?_map, hi]; rfl
      · rw [List.getElem?_map, List.getElem?_set_ne e, List.getElem?_map]
    rw [this]; exact H.2.1
  · obtain ⟨k, hk⟩ := List.mem_iff_getElem?.mp hx
    by_cases e : i = k
    · subst e
      rw [List.getElem?_set_self hlt] at hk
      cases hk
      obtain ⟨q, c, hc, hp⟩ := H.at_ hi
      exact ⟨q, c, hc, hP c hp⟩
    · rw [List.getElem?_set_ne e] at hk
      exact H.2.2 x (List.mem_of_getElem? hk)
end OwnCells
/-! ## 3. where the run stands; what is left to show -/
def oOn (p : Program) (l : Launch) (e : Env) (R : Room) (s : State) (m : MethodId) (args : Array Value) (below : List Frame) (meth : Method) (c : Code) (Z : State) (cells slots : Nat) (T : State) (L : List oEnt) : Prop := ∃ locs, Stand p l e R s m args below meth c T locs cells slots ∧ Fr Z.heap.size locs ∧ oHp Z T.heap L
def oCx (p : Program) (s : State) (m : MethodId) (meth : Method) (c : Code) (Z : State) (own nm : String) (code : ByteArray) (maxL : Nat) (ret : Option FieldType) : Prop := p.tables.exec = Jvm.exec ∧ Z.Warmed39 s.vm ∧ c.code = code ∧ c.maxLocals = maxL ∧ s.vm.findClass own = some m.cls ∧ meth.name = nm ∧ meth.sig.returnType = ret ∧ meth.locks = false
def oGo (p : Program) (e : Env) (below : List Frame) (K : State → Outcome → Prop) (u : State) : Prop := ∃ s₂ o, Steps p.tables e below u s₂ ∧ s₂.status = .running ∧ Ended s₂ below o ∧ K s₂ o
def oEnd (s Z : State) (Q : Option Value → List oEnt → Prop) (C S : Nat) (t : State) (o : Outcome) : Prop := ∃ v Lc, o = .returned v ∧ (Fr Z.heap.size Lc ∧ ∃ L', oHp Z t.heap L' ∧ Q v L') ∧ FrameEnd s o t Lc C S
/-- the contract of a body: from a heap of which L is known, with these arguments, it returns v and leaves a heap of which L' is known, Q v L' -/
def oMeets (l : Launch) (Z : State) (y : MethodName) (code : ByteArray) (maxL : Nat) (ret : Option FieldType) (rm : Room) (as : List Value) (L : List oEnt) (Q : Option Value → List oEnt → Prop) : Prop :=
  ∀ (ws : List Jvm.Cond) (h0 : Heap), oHp Z h0 L → MetFree l y (head1 (Jvm.Cond.code y code maxL ret :: ws) rm) (fun a U => a = as.toArray ∧ Z.Warmed39 U.vm ∧ U.heap = h0) (fun _ _ _ _ _ => True)
    (fun _ U o U' => ∃ v Lc, o = .returned v ∧ (Fr Z.heap.size Lc ∧ ∃ L', oHp Z U'.heap L' ∧ Q v L') ∧ FrameEnd U o U' Lc rm.cells rm.slots)
section OwnRules
variable {p : Program} {l : Launch} {e : Env} {R : Room} {s : State} {m : MethodId} {args : Array Value} {below : List Frame} {meth : Method} {c : Code} {Z : State} {a0 : Array Value} {cells slots : Nat} {T : State} {L L' : List oEnt}
variable {own nm : String} {code : ByteArray} {maxL : Nat} {ret : Option FieldType} {K : State → Outcome → Prop} {Ls : Array Slot} {st : List Value} {pc pc' pc2 : Nat} {i j k : Nat} {a : Addr} {vs : List Value} {v : Value}
theorem oGo.via {u u' : State} (h : ∀ t, Steps p.tables e below u' t → Steps p.tables e below u t) (g : oGo p e below K u') : oGo p e below K u := by
  obtain ⟨s₂, o, h1, h2⟩ := g; exact ⟨s₂, o, h _ h1, h2⟩
theorem oOn.here (o : oOn p l e R s m args below meth c Z cells slots T L) : At T m c below := by obtain ⟨_, X, -⟩ := o; exact X.here
theorem oOn.perm (o : oOn p l e R s m args below meth c Z cells slots T L) (q : L'.Perm L) : oOn p l e R s m args below meth c Z cells slots T L' := by obtain ⟨lc, X, N, H⟩ := o; exact ⟨lc, X, N, H.perm q⟩
theorem oOn.more (o : oOn p l e R s m args below meth c Z cells slots T L) {c' s' : Nat} (h1 : cells ≤ c') (h2 : slots ≤ s') : oOn p l e R s m args below meth c Z c' s' T L := by obtain ⟨lc, X, N, H⟩ := o; exact ⟨lc, X.more h1 h2, N, H⟩
theorem o_frontp {α : Type} : ∀ (L : List α) (i : Nat) {x : α}, L[i]? = some x → (x :: L.eraseIdx i).Perm L
  | [], i, x, h => by simp at h
  | a :: L, 0, x, h => by cases h; exact List.Perm.refl _
  | a :: L, i + 1, x, h => (List.Perm.swap a x (L.eraseIdx i)).trans ((o_frontp L i h).cons a)
/-- the i-th known cell comes to the front -/
theorem oOn.front (o : oOn p l e R s m args below meth c Z cells slots T L) (i : Nat) {x : oEnt} (hi : L[i]? = some x) : oOn p l e R s m args below meth c Z cells slots T (x :: L.eraseIdx i) := o.perm (o_frontp L i hi)
theorem oOn.weak (o : oOn p l e R s m args below meth c Z cells slots T L) (i : Nat) {P P' : Cell → Prop} (hi : L[i]? = some (a, P)) (hP : ∀ c : Cell, P c → P' c) : oOn p l e R s m args below meth c Z cells slots T (L.set i (a, P')) := by obtain ⟨lc, X, N, H⟩ := o; exact ⟨lc, X, N, H.weak hi hP⟩
theorem oOn.drop (o : oOn p l e R s m args below meth c Z cells slots T L) (q : List.Sublist L' L) : oOn p l e R s m args below meth c Z cells slots T L' := by
  obtain ⟨lc, X, N, H⟩ := o
  exact ⟨lc, X, N, H.1, (q.map _).nodup H.2.1, fun x hx => H.2.2 x (q.subset hx)⟩
theorem oOn.len {ty : FieldType} (o : oOn p l e R s m args below meth c Z cells slots T L) (hi : L[i]? = some (a, oArr Z ty vs)) : vs.length < 2 ^ 31 := by
  obtain ⟨lc, X, N, H⟩ := o
  obtain ⟨-, cl, -, A⟩ := H.at_ hi
  exact A.2.2.2.1
theorem oMeets.of {y : MethodName} {rm : Room} {as : List Value} {Q : Option Value → List oEnt → Prop} (pn : plainFor y = true)
    (body : ∀ p e s m below meth c T, oCx p s m meth c Z y.cls y.name code maxL ret → oOn p l e rm s m as.toArray below meth c Z 0 0 T L → oGo p e below (oEnd s Z Q rm.cells rm.slots) (T.setTop (entryFrame m as.toArray maxL))) : oMeets l Z y code maxL ret rm as L Q := by
  intro ws h0 H
  refine MetFree.of_bodySF pn hisR ?_
  intro p e s m args below meth c s₁ Bd hml0 hP hK
  obtain ⟨rfl, hZ, hh⟩ := hP
  have X0 : Stand p l e rm s m as.toArray below meth c s₁ [] 0 0 := Stand.of_body Bd
  have e0 : s₁.heap = h0 := by rw [← hh, Bd.state]; rfl
  exact body p e s m below meth c s₁ ⟨Bd.exec, hZ, Bd.bytes, hml0, findClass_of_methodNamed Bd.named, (name_of_methodNamed Bd.named Bd.method).1, Bd.returns, Bd.notSynchronized⟩ ⟨[], X0, Fr.nil _, by rw [e0]; exact H⟩
theorem oGo.top {g g' : JFrame} (q : g = g') (k : oGo p e below K (T.setTop g')) : oGo p e below K (T.setTop g) := q ▸ k
theorem g_iload (cx : oCx p s m meth c Z own nm code maxL ret) (o : oOn p l e R s m args below meth c Z cells slots T L) {v : Int32} (hd : decode code pc = .ok (.iload k, 2)) (hp : pc + 2 = pc') (hl : Ls[k]? = some (.val (.int v)))
    (kk : oGo p e below K (T.setTop (mkF m pc' Ls (.int v :: st)))) : oGo p e below K (T.setTop (mkF m pc Ls (st))) := by
  subst hp; exact kk.via fun t q => XS.iload o.here cx.1 rfl (hb cx.2.2.1 hd) hl q
theorem g_iloadN (cx : oCx p s m meth c Z own nm code maxL ret) (o : oOn p l e R s m args below meth c Z cells slots T L) {f : Fin 4} {v : Int32} (hd : decode code pc = .ok (.iload_n f, 1)) (hp : pc + 1 = pc') (hl : Ls[f.val]? = some (.val (.int v)))
    (kk : oGo p e below K (T.setTop (mkF m pc' Ls (.int v :: st)))) : oGo p e below K (T.setTop (mkF m pc Ls (st))) := by
  subst hp; exact kk.via fun t q => XS.iloadN o.here cx.1 rfl (hb cx.2.2.1 hd) hl q
theorem g_istore (cx : oCx p s m meth c Z own nm code maxL ret) (o : oOn p l e R s m args below meth c Z cells slots T L) {v : Int32} {l' : Array Slot} (hd : decode code pc = .ok (.istore k, 2)) (hp : pc + 2 = pc') (hl : storeLocals Ls k (.int v) = some l')
    (kk : oGo p e below K (T.setTop (mkF m pc' l' (st)))) : oGo p e below K (T.setTop (mkF m pc Ls (.int v :: st))) := by
  subst hp; exact kk.via fun t q => XS.istore o.here cx.1 rfl (hb cx.2.2.1 hd) rfl hl q
theorem g_istoreN (cx : oCx p s m meth c Z own nm code maxL ret) (o : oOn p l e R s m args below meth c Z cells slots T L) {f : Fin 4} {v : Int32} {l' : Array Slot} (hd : decode code pc = .ok (.istore_n f, 1)) (hp : pc + 1 = pc') (hl : storeLocals Ls f.val (.int v) = some l')
    (kk : oGo p e below K (T.setTop (mkF m pc' l' (st)))) : oGo p e below K (T.setTop (mkF m pc Ls (.int v :: st))) := by
  subst hp; exact kk.via fun t q => XS.istoreN o.here cx.1 rfl (hb cx.2.2.1 hd) rfl hl q
theorem g_istoreV (cx : oCx p s m meth c Z own nm code maxL ret) (o : oOn p l e R s m args below meth c Z cells slots T L) {v : Int32} (l' : Int32 → Array Slot) (hd : decode code pc = .ok (.istore k, 2)) (hp : pc + 2 = pc') (hl : ∀ w, storeLocals Ls k (.int w) = some (l' w))
    (kk : ∀ w, w = v → oGo p e below K (T.setTop (mkF m pc' (l' w) st))) : oGo p e below K (T.setTop (mkF m pc Ls (.int v :: st))) := by
  exact g_istore cx o hd hp (hl v) (kk v rfl)
theorem g_istoreNV (cx : oCx p s m meth c Z own nm code maxL ret) (o : oOn p l e R s m args below meth c Z cells slots T L) {f : Fin 4} {v : Int32} (l' : Int32 → Array Slot) (hd : decode code pc = .ok (.istore_n f, 1)) (hp : pc + 1 = pc') (hl : ∀ w, storeLocals Ls f.val (.int w) = some (l' w))
    (kk : ∀ w, w = v → oGo p e below K (T.setTop (mkF m pc' (l' w) st))) : oGo p e below K (T.setTop (mkF m pc Ls (.int v :: st))) := by
  exact g_istoreN cx o hd hp (hl v) (kk v rfl)
theorem g_lload (cx : oCx p s m meth c Z own nm code maxL ret) (o : oOn p l e R s m args below meth c Z cells slots T L) {v : Int64} (hd : decode code pc = .ok (.lload k, 2)) (hp : pc + 2 = pc') (hl : Ls[k]? = some (.val (.long v)))
    (kk : oGo p e below K (T.setTop (mkF m pc' Ls (.long v :: st)))) : oGo p e below K (T.setTop (mkF m pc Ls (st))) := by
  subst hp; exact kk.via fun t q => XT.lload o.here cx.1 rfl (hb cx.2.2.1 hd) hl q
theorem g_lloadN (cx : oCx p s m meth c Z own nm code maxL ret) (o : oOn p l e R s m args below meth c Z cells slots T L) {f : Fin 4} {v : Int64} (hd : decode code pc = .ok (.lload_n f, 1)) (hp : pc + 1 = pc') (hl : Ls[f.val]? = some (.val (.long v)))
    (kk : oGo p e below K (T.setTop (mkF m pc' Ls (.long v :: st)))) : oGo p e below K (T.setTop (mkF m pc Ls (st))) := by
  subst hp; exact kk.via fun t q => XT.lloadN o.here cx.1 rfl (hb cx.2.2.1 hd) hl q
theorem g_lstore (cx : oCx p s m meth c Z own nm code maxL ret) (o : oOn p l e R s m args below meth c Z cells slots T L) {v : Int64} {l' : Array Slot} (hd : decode code pc = .ok (.lstore k, 2)) (hp : pc + 2 = pc') (hl : storeLocals Ls k (.long v) = some l')
    (kk : oGo p e below K (T.setTop (mkF m pc' l' (st)))) : oGo p e below K (T.setTop (mkF m pc Ls (.long v :: st))) := by
  subst hp; exact kk.via fun t q => XT.lstore o.here cx.1 rfl (hb cx.2.2.1 hd) rfl hl q
theorem g_lstoreN (cx : oCx p s m meth c Z own nm code maxL ret) (o : oOn p l e R s m args below meth c Z cells slots T L) {f : Fin 4} {v : Int64} {l' : Array Slot} (hd : decode code pc = .ok (.lstore_n f, 1)) (hp : pc + 1 = pc') (hl : storeLocals Ls f.val (.long v) = some l')
    (kk : oGo p e below K (T.setTop (mkF m pc' l' (st)))) : oGo p e below K (T.setTop (mkF m pc Ls (.long v :: st))) := by
  subst hp; exact kk.via fun t q => XT.lstoreN o.here cx.1 rfl (hb cx.2.2.1 hd) rfl hl q
theorem g_lstoreV (cx : oCx p s m meth c Z own nm code maxL ret) (o : oOn p l e R s m args below meth c Z cells slots T L) {v : Int64} (l' : Int64 → Array Slot) (hd : decode code pc = .ok (.lstore k, 2)) (hp : pc + 2 = pc') (hl : ∀ w, storeLocals Ls k (.long w) = some (l' w))
    (kk : ∀ w, w = v → oGo p e below K (T.setTop (mkF m pc' (l' w) st))) : oGo p e below K (T.setTop (mkF m pc Ls (.long v :: st))) := by
  exact g_lstore cx o hd hp (hl v) (kk v rfl)
theorem g_lstoreNV (cx : oCx p s m meth c Z own nm code maxL ret) (o : oOn p l e R s m args below meth c Z cells slots T L) {f : Fin 4} {v : Int64} (l' : Int64 → Array Slot) (hd : decode code pc = .ok (.lstore_n f, 1)) (hp : pc + 1 = pc') (hl : ∀ w, storeLocals Ls f.val (.long w) = some (l' w))
    (kk : ∀ w, w = v → oGo p e below K (T.setTop (mkF m pc' (l' w) st))) : oGo p e below K (T.setTop (mkF m pc Ls (.long v :: st))) := by
  exact g_lstoreN cx o hd hp (hl v) (kk v rfl)
theorem g_dload (cx : oCx p s m meth c Z own nm code maxL ret) (o : oOn p l e R s m args below meth c Z cells slots T L) {v : UInt64} (hd : decode code pc = .ok (.dload k, 2)) (hp : pc + 2 = pc') (hl : Ls[k]? = some (.val (.double v)))
    (kk : oGo p e below K (T.setTop (mkF m pc' Ls (.double v :: st)))) : oGo p e below K (T.setTop (mkF m pc Ls (st))) := by
  subst hp; exact kk.via fun t q => XS.dload o.here cx.1 rfl (hb cx.2.2.1 hd) hl q
theorem g_dloadN (cx : oCx p s m meth c Z own nm code maxL ret) (o : oOn p l e R s m args below meth c Z cells slots T L) {f : Fin 4} {v : UInt64} (hd : decode code pc = .ok (.dload_n f, 1)) (hp : pc + 1 = pc') (hl : Ls[f.val]? = some (.val (.double v)))
    (kk : oGo p e below K (T.setTop (mkF m pc' Ls (.double v :: st)))) : oGo p e below K (T.setTop (mkF m pc Ls (st))) := by
  subst hp; exact kk.via fun t q => XS.dloadN o.here cx.1 rfl (hb cx.2.2.1 hd) hl q
theorem g_dstore (cx : oCx p s m meth c Z own nm code maxL ret) (o : oOn p l e R s m args below meth c Z cells slots T L) {v : UInt64} {l' : Array Slot} (hd : decode code pc = .ok (.dstore k, 2)) (hp : pc + 2 = pc') (hl : storeLocals Ls k (.double v) = some l')
    (kk : oGo p e below K (T.setTop (mkF m pc' l' (st)))) : oGo p e below K (T.setTop (mkF m pc Ls (.double v :: st))) := by
  subst hp; exact kk.via fun t q => XS.dstore o.here cx.1 rfl (hb cx.2.2.1 hd) rfl hl q
theorem g_dstoreN (cx : oCx p s m meth c Z own nm code maxL ret) (o : oOn p l e R s m args below meth c Z cells slots T L) {f : Fin 4} {v : UInt64} {l' : Array Slot} (hd : decode code pc = .ok (.dstore_n f, 1)) (hp : pc + 1 = pc') (hl : storeLocals Ls f.val (.double v) = some l')
    (kk : oGo p e below K (T.setTop (mkF m pc' l' (st)))) : oGo p e below K (T.setTop (mkF m pc Ls (.double v :: st))) := by
  subst hp; exact kk.via fun t q => XS.dstoreN o.here cx.1 rfl (hb cx.2.2.1 hd) rfl hl q
theorem g_dstoreV (cx : oCx p s m meth c Z own nm code maxL ret) (o : oOn p l e R s m args below meth c Z cells slots T L) {v : UInt64} (l' : UInt64 → Array Slot) (hd : decode code pc = .ok (.dstore k, 2)) (hp : pc + 2 = pc') (hl : ∀ w, storeLocals Ls k (.double w) = some (l' w))
    (kk : ∀ w, w = v → oGo p e below K (T.setTop (mkF m pc' (l' w) st))) : oGo p e below K (T.setTop (mkF m pc Ls (.double v :: st))) := by
  exact g_dstore cx o hd hp (hl v) (kk v rfl)
theorem g_dstoreNV (cx : oCx p s m meth c Z own nm code maxL ret) (o : oOn p l e R s m args below meth c Z cells slots T L) {f : Fin 4} {v : UInt64} (l' : UInt64 → Array Slot) (hd : decode code pc = .ok (.dstore_n f, 1)) (hp : pc + 1 = pc') (hl : ∀ w, storeLocals Ls f.val (.double w) = some (l' w))
    (kk : ∀ w, w = v → oGo p e below K (T.setTop (mkF m pc' (l' w) st))) : oGo p e below K (T.setTop (mkF m pc Ls (.double v :: st))) := by
  exact g_dstoreN cx o hd hp (hl v) (kk v rfl)
theorem g_aload (cx : oCx p s m meth c Z own nm code maxL ret) (o : oOn p l e R s m args below meth c Z cells slots T L) {v : Value} (hd : decode code pc = .ok (.aload k, 2)) (hp : pc + 2 = pc') (hl : Ls[k]? = some (.val v)) (hv : v.isRef = true)
    (kk : oGo p e below K (T.setTop (mkF m pc' Ls (v :: st)))) : oGo p e below K (T.setTop (mkF m pc Ls (st))) := by
  subst hp; exact kk.via fun t q => XS.aload o.here cx.1 rfl (hb cx.2.2.1 hd) hl hv q
theorem g_aloadN (cx : oCx p s m meth c Z own nm code maxL ret) (o : oOn p l e R s m args below meth c Z cells slots T L) {f : Fin 4} {v : Value} (hd : decode code pc = .ok (.aload_n f, 1)) (hp : pc + 1 = pc') (hl : Ls[f.val]? = some (.val v)) (hv : v.isRef = true)
    (kk : oGo p e below K (T.setTop (mkF m pc' Ls (v :: st)))) : oGo p e below K (T.setTop (mkF m pc Ls (st))) := by
  subst hp; exact kk.via fun t q => XS.aloadN o.here cx.1 rfl (hb cx.2.2.1 hd) hl hv q
theorem g_astore (cx : oCx p s m meth c Z own nm code maxL ret) (o : oOn p l e R s m args below meth c Z cells slots T L) {v : Value} {l' : Array Slot} (hd : decode code pc = .ok (.astore k, 2)) (hp : pc + 2 = pc') (hv : v.isRef = true) (hl : storeLocals Ls k v = some l')
    (kk : oGo p e below K (T.setTop (mkF m pc' l' (st)))) : oGo p e below K (T.setTop (mkF m pc Ls (v :: st))) := by
  subst hp; exact kk.via fun t q => XS.astore o.here cx.1 rfl (hb cx.2.2.1 hd) rfl hv hl q
theorem g_astoreN (cx : oCx p s m meth c Z own nm code maxL ret) (o : oOn p l e R s m args below meth c Z cells slots T L) {f : Fin 4} {v : Value} {l' : Array Slot} (hd : decode code pc = .ok (.astore_n f, 1)) (hp : pc + 1 = pc') (hv : v.isRef = true) (hl : storeLocals Ls f.val v = some l')
    (kk : oGo p e below K (T.setTop (mkF m pc' l' (st)))) : oGo p e below K (T.setTop (mkF m pc Ls (v :: st))) := by
  subst hp; exact kk.via fun t q => XS.astoreN o.here cx.1 rfl (hb cx.2.2.1 hd) rfl hv hl q
theorem g_iadd (cx : oCx p s m meth c Z own nm code maxL ret) (o : oOn p l e R s m args below meth c Z cells slots T L) {x y : Int32} (hd : decode code pc = .ok (.iadd, 1)) (hp : pc + 1 = pc') 
    (kk : oGo p e below K (T.setTop (mkF m pc' Ls (.int (x + y) :: st)))) : oGo p e below K (T.setTop (mkF m pc Ls (.int y :: .int x :: st))) := by
  subst hp; exact kk.via fun t q => XS.iadd o.here cx.1 rfl (hb cx.2.2.1 hd) rfl q
theorem g_isub (cx : oCx p s m meth c Z own nm code maxL ret) (o : oOn p l e R s m args below meth c Z cells slots T L) {x y : Int32} (hd : decode code pc = .ok (.isub, 1)) (hp : pc + 1 = pc') 
    (kk : oGo p e below K (T.setTop (mkF m pc' Ls (.int (x - y) :: st)))) : oGo p e below K (T.setTop (mkF m pc Ls (.int y :: .int x :: st))) := by
  subst hp; exact kk.via fun t q => XS.isub o.here cx.1 rfl (hb cx.2.2.1 hd) rfl q
theorem g_imul (cx : oCx p s m meth c Z own nm code maxL ret) (o : oOn p l e R s m args below meth c Z cells slots T L) {x y : Int32} (hd : decode code pc = .ok (.imul, 1)) (hp : pc + 1 = pc') 
    (kk : oGo p e below K (T.setTop (mkF m pc' Ls (.int (x * y) :: st)))) : oGo p e below K (T.setTop (mkF m pc Ls (.int y :: .int x :: st))) := by
  subst hp; exact kk.via fun t q => XS.imul o.here cx.1 rfl (hb cx.2.2.1 hd) rfl q
theorem g_iand (cx : oCx p s m meth c Z own nm code maxL ret) (o : oOn p l e R s m args below meth c Z cells slots T L) {x y : Int32} (hd : decode code pc = .ok (.iand, 1)) (hp : pc + 1 = pc') 
    (kk : oGo p e below K (T.setTop (mkF m pc' Ls (.int (x &&& y) :: st)))) : oGo p e below K (T.setTop (mkF m pc Ls (.int y :: .int x :: st))) := by
  subst hp; exact kk.via fun t q => XS.iand o.here cx.1 rfl (hb cx.2.2.1 hd) rfl q
theorem g_ior (cx : oCx p s m meth c Z own nm code maxL ret) (o : oOn p l e R s m args below meth c Z cells slots T L) {x y : Int32} (hd : decode code pc = .ok (.ior, 1)) (hp : pc + 1 = pc') 
    (kk : oGo p e below K (T.setTop (mkF m pc' Ls (.int (x ||| y) :: st)))) : oGo p e below K (T.setTop (mkF m pc Ls (.int y :: .int x :: st))) := by
  subst hp; exact kk.via fun t q => XT.ior o.here cx.1 rfl (hb cx.2.2.1 hd) rfl q
theorem g_ixor (cx : oCx p s m meth c Z own nm code maxL ret) (o : oOn p l e R s m args below meth c Z cells slots T L) {x y : Int32} (hd : decode code pc = .ok (.ixor, 1)) (hp : pc + 1 = pc') 
    (kk : oGo p e below K (T.setTop (mkF m pc' Ls (.int (x ^^^ y) :: st)))) : oGo p e below K (T.setTop (mkF m pc Ls (.int y :: .int x :: st))) := by
  subst hp; exact kk.via fun t q => XT.ixor o.here cx.1 rfl (hb cx.2.2.1 hd) rfl q
theorem g_ishl (cx : oCx p s m meth c Z own nm code maxL ret) (o : oOn p l e R s m args below meth c Z cells slots T L) {x y : Int32} (hd : decode code pc = .ok (.ishl, 1)) (hp : pc + 1 = pc') 
    (kk : oGo p e below K (T.setTop (mkF m pc' Ls (.int (x <<< (y &&& 31)) :: st)))) : oGo p e below K (T.setTop (mkF m pc Ls (.int y :: .int x :: st))) := by
  subst hp; exact kk.via fun t q => XT.ishl o.here cx.1 rfl (hb cx.2.2.1 hd) rfl q
theorem g_ishr (cx : oCx p s m meth c Z own nm code maxL ret) (o : oOn p l e R s m args below meth c Z cells slots T L) {x y : Int32} (hd : decode code pc = .ok (.ishr, 1)) (hp : pc + 1 = pc') 
    (kk : oGo p e below K (T.setTop (mkF m pc' Ls (.int (x >>> (y &&& 31)) :: st)))) : oGo p e below K (T.setTop (mkF m pc Ls (.int y :: .int x :: st))) := by
  subst hp; exact kk.via fun t q => XT.ishr o.here cx.1 rfl (hb cx.2.2.1 hd) rfl q
theorem g_iushr (cx : oCx p s m meth c Z own nm code maxL ret) (o : oOn p l e R s m args below meth c Z cells slots T L) {x y : Int32} (hd : decode code pc = .ok (.iushr, 1)) (hp : pc + 1 = pc') 
    (kk : oGo p e below K (T.setTop (mkF m pc' Ls (.int (XT.ushr x y) :: st)))) : oGo p e below K (T.setTop (mkF m pc Ls (.int y :: .int x :: st))) := by
  subst hp; exact kk.via fun t q => XT.iushr o.here cx.1 rfl (hb cx.2.2.1 hd) rfl q
theorem g_ladd (cx : oCx p s m meth c Z own nm code maxL ret) (o : oOn p l e R s m args below meth c Z cells slots T L) {x y : Int64} (hd : decode code pc = .ok (.ladd, 1)) (hp : pc + 1 = pc') 
    (kk : oGo p e below K (T.setTop (mkF m pc' Ls (.long (x + y) :: st)))) : oGo p e below K (T.setTop (mkF m pc Ls (.long y :: .long x :: st))) := by
  subst hp; exact kk.via fun t q => XT.ladd o.here cx.1 rfl (hb cx.2.2.1 hd) rfl q
theorem g_lsub (cx : oCx p s m meth c Z own nm code maxL ret) (o : oOn p l e R s m args below meth c Z cells slots T L) {x y : Int64} (hd : decode code pc = .ok (.lsub, 1)) (hp : pc + 1 = pc') 
    (kk : oGo p e below K (T.setTop (mkF m pc' Ls (.long (x - y) :: st)))) : oGo p e below K (T.setTop (mkF m pc Ls (.long y :: .long x :: st))) := by
  subst hp; exact kk.via fun t q => XT.lsub o.here cx.1 rfl (hb cx.2.2.1 hd) rfl q
theorem g_lmul (cx : oCx p s m meth c Z own nm code maxL ret) (o : oOn p l e R s m args below meth c Z cells slots T L) {x y : Int64} (hd : decode code pc = .ok (.lmul, 1)) (hp : pc + 1 = pc') 
    (kk : oGo p e below K (T.setTop (mkF m pc' Ls (.long (x * y) :: st)))) : oGo p e below K (T.setTop (mkF m pc Ls (.long y :: .long x :: st))) := by
  subst hp; exact kk.via fun t q => XT.lmul o.here cx.1 rfl (hb cx.2.2.1 hd) rfl q
theorem g_land (cx : oCx p s m meth c Z own nm code maxL ret) (o : oOn p l e R s m args below meth c Z cells slots T L) {x y : Int64} (hd : decode code pc = .ok (.land, 1)) (hp : pc + 1 = pc') 
    (kk : oGo p e below K (T.setTop (mkF m pc' Ls (.long (x &&& y) :: st)))) : oGo p e below K (T.setTop (mkF m pc Ls (.long y :: .long x :: st))) := by
  subst hp; exact kk.via fun t q => XT.land o.here cx.1 rfl (hb cx.2.2.1 hd) rfl q
theorem g_lor (cx : oCx p s m meth c Z own nm code maxL ret) (o : oOn p l e R s m args below meth c Z cells slots T L) {x y : Int64} (hd : decode code pc = .ok (.lor, 1)) (hp : pc + 1 = pc') 
    (kk : oGo p e below K (T.setTop (mkF m pc' Ls (.long (x ||| y) :: st)))) : oGo p e below K (T.setTop (mkF m pc Ls (.long y :: .long x :: st))) := by
  subst hp; exact kk.via fun t q => XT.lor o.here cx.1 rfl (hb cx.2.2.1 hd) rfl q
theorem g_lxor (cx : oCx p s m meth c Z own nm code maxL ret) (o : oOn p l e R s m args below meth c Z cells slots T L) {x y : Int64} (hd : decode code pc = .ok (.lxor, 1)) (hp : pc + 1 = pc') 
    (kk : oGo p e below K (T.setTop (mkF m pc' Ls (.long (x ^^^ y) :: st)))) : oGo p e below K (T.setTop (mkF m pc Ls (.long y :: .long x :: st))) := by
  subst hp; exact kk.via fun t q => XT.lxor o.here cx.1 rfl (hb cx.2.2.1 hd) rfl q
theorem g_idiv (cx : oCx p s m meth c Z own nm code maxL ret) (o : oOn p l e R s m args below meth c Z cells slots T L) {x y : Int32} (hd : decode code pc = .ok (.idiv, 1)) (hp : pc + 1 = pc') (hy : y ≠ 0)
    (kk : oGo p e below K (T.setTop (mkF m pc' Ls (.int (x / y) :: st)))) : oGo p e below K (T.setTop (mkF m pc Ls (.int y :: .int x :: st))) := by
  subst hp; exact kk.via fun t q => XS.idiv o.here cx.1 rfl (hb cx.2.2.1 hd) rfl hy q
theorem g_irem (cx : oCx p s m meth c Z own nm code maxL ret) (o : oOn p l e R s m args below meth c Z cells slots T L) {x y : Int32} (hd : decode code pc = .ok (.irem, 1)) (hp : pc + 1 = pc') (hy : y ≠ 0)
    (kk : oGo p e below K (T.setTop (mkF m pc' Ls (.int (x % y) :: st)))) : oGo p e below K (T.setTop (mkF m pc Ls (.int y :: .int x :: st))) := by
  subst hp; obtain ⟨_, X, -⟩ := o; exact kk.via fun t q => iremM X cx.1 rfl (hb cx.2.2.1 hd) rfl hy q
theorem g_ldiv (cx : oCx p s m meth c Z own nm code maxL ret) (o : oOn p l e R s m args below meth c Z cells slots T L) {x y : Int64} (hd : decode code pc = .ok (.ldiv, 1)) (hp : pc + 1 = pc') (hy : y ≠ 0)
    (kk : oGo p e below K (T.setTop (mkF m pc' Ls (.long (x / y) :: st)))) : oGo p e below K (T.setTop (mkF m pc Ls (.long y :: .long x :: st))) := by
  subst hp; exact kk.via fun t q => XT.ldiv o.here cx.1 rfl (hb cx.2.2.1 hd) rfl hy q
theorem g_lrem (cx : oCx p s m meth c Z own nm code maxL ret) (o : oOn p l e R s m args below meth c Z cells slots T L) {x y : Int64} (hd : decode code pc = .ok (.lrem, 1)) (hp : pc + 1 = pc') (hy : y ≠ 0)
    (kk : oGo p e below K (T.setTop (mkF m pc' Ls (.long (x - (x / y) * y) :: st)))) : oGo p e below K (T.setTop (mkF m pc Ls (.long y :: .long x :: st))) := by
  subst hp; exact kk.via fun t q => XT.lrem o.here cx.1 rfl (hb cx.2.2.1 hd) rfl hy q
theorem g_ineg (cx : oCx p s m meth c Z own nm code maxL ret) (o : oOn p l e R s m args below meth c Z cells slots T L) {x : Int32} (hd : decode code pc = .ok (.ineg, 1)) (hp : pc + 1 = pc') 
    (kk : oGo p e below K (T.setTop (mkF m pc' Ls (.int (-x) :: st)))) : oGo p e below K (T.setTop (mkF m pc Ls (.int x :: st))) := by
  subst hp; exact kk.via fun t q => XS.ineg o.here cx.1 rfl (hb cx.2.2.1 hd) rfl q
theorem g_lneg (cx : oCx p s m meth c Z own nm code maxL ret) (o : oOn p l e R s m args below meth c Z cells slots T L) {x : Int64} (hd : decode code pc = .ok (.lneg, 1)) (hp : pc + 1 = pc') 
    (kk : oGo p e below K (T.setTop (mkF m pc' Ls (.long (-x) :: st)))) : oGo p e below K (T.setTop (mkF m pc Ls (.long x :: st))) := by
  subst hp; exact kk.via fun t q => XT.lneg o.here cx.1 rfl (hb cx.2.2.1 hd) rfl q
theorem g_i2l (cx : oCx p s m meth c Z own nm code maxL ret) (o : oOn p l e R s m args below meth c Z cells slots T L) {x : Int32} (hd : decode code pc = .ok (.i2l, 1)) (hp : pc + 1 = pc') 
    (kk : oGo p e below K (T.setTop (mkF m pc' Ls (.long x.toInt64 :: st)))) : oGo p e below K (T.setTop (mkF m pc Ls (.int x :: st))) := by
  subst hp; exact kk.via fun t q => XT.i2l o.here cx.1 rfl (hb cx.2.2.1 hd) rfl q
theorem g_l2i (cx : oCx p s m meth c Z own nm code maxL ret) (o : oOn p l e R s m args below meth c Z cells slots T L) {x : Int64} (hd : decode code pc = .ok (.l2i, 1)) (hp : pc + 1 = pc') 
    (kk : oGo p e below K (T.setTop (mkF m pc' Ls (.int x.toInt32 :: st)))) : oGo p e below K (T.setTop (mkF m pc Ls (.long x :: st))) := by
  subst hp; exact kk.via fun t q => XT.l2i o.here cx.1 rfl (hb cx.2.2.1 hd) rfl q
theorem g_lcmp (cx : oCx p s m meth c Z own nm code maxL ret) (o : oOn p l e R s m args below meth c Z cells slots T L) {x y : Int64} (hd : decode code pc = .ok (.lcmp, 1)) (hp : pc + 1 = pc') 
    (kk : oGo p e below K (T.setTop (mkF m pc' Ls (.int (XT.cmpL x y) :: st)))) : oGo p e below K (T.setTop (mkF m pc Ls (.long y :: .long x :: st))) := by
  subst hp; exact kk.via fun t q => XT.lcmp o.here cx.1 rfl (hb cx.2.2.1 hd) rfl q
theorem g_iconst (cx : oCx p s m meth c Z own nm code maxL ret) (o : oOn p l e R s m args below meth c Z cells slots T L) {q : Int} (z : Int32) (hd : decode code pc = .ok (.iconst q, 1)) (hp : pc + 1 = pc') (hz : Int32.ofInt q = z)
    (kk : oGo p e below K (T.setTop (mkF m pc' Ls (.int z :: st)))) : oGo p e below K (T.setTop (mkF m pc Ls st)) := by
  subst hp hz; exact kk.via fun t r => XS.iconst o.here cx.1 rfl (hb cx.2.2.1 hd) r
theorem g_bipush (cx : oCx p s m meth c Z own nm code maxL ret) (o : oOn p l e R s m args below meth c Z cells slots T L) {q : Int} (z : Int32) (hd : decode code pc = .ok (.bipush q, 2)) (hp : pc + 2 = pc') (hz : (Int8.ofInt q).toInt32 = z)
    (kk : oGo p e below K (T.setTop (mkF m pc' Ls (.int z :: st)))) : oGo p e below K (T.setTop (mkF m pc Ls st)) := by
  subst hp hz; exact kk.via fun t r => XS.bipush o.here cx.1 rfl (hb cx.2.2.1 hd) r
theorem g_sipush (cx : oCx p s m meth c Z own nm code maxL ret) (o : oOn p l e R s m args below meth c Z cells slots T L) {q : Int} (z : Int32) (hd : decode code pc = .ok (.sipush q, 3)) (hp : pc + 3 = pc') (hz : (Int16.ofInt q).toInt32 = z)
    (kk : oGo p e below K (T.setTop (mkF m pc' Ls (.int z :: st)))) : oGo p e below K (T.setTop (mkF m pc Ls st)) := by
  subst hp hz; exact kk.via fun t r => XS.sipush o.here cx.1 rfl (hb cx.2.2.1 hd) r
theorem g_lconst (cx : oCx p s m meth c Z own nm code maxL ret) (o : oOn p l e R s m args below meth c Z cells slots T L) {f : Fin 2} (z : Int64) (hd : decode code pc = .ok (.lconst f, 1)) (hp : pc + 1 = pc') (hz : Int64.ofNat f = z)
    (kk : oGo p e below K (T.setTop (mkF m pc' Ls (.long z :: st)))) : oGo p e below K (T.setTop (mkF m pc Ls st)) := by
  subst hp hz; exact kk.via fun t r => XT.lconst o.here cx.1 rfl (hb cx.2.2.1 hd) r
theorem g_dconst0 (cx : oCx p s m meth c Z own nm code maxL ret) (o : oOn p l e R s m args below meth c Z cells slots T L) (hd : decode code pc = .ok (.dconst 0, 1)) (hp : pc + 1 = pc')
    (kk : oGo p e below K (T.setTop (mkF m pc' Ls (.double FP.dconst0 :: st)))) : oGo p e below K (T.setTop (mkF m pc Ls st)) := by
  subst hp; exact kk.via fun t r => XS.dconst0 o.here cx.1 rfl (hb cx.2.2.1 hd) rfl r
theorem g_dconst1 (cx : oCx p s m meth c Z own nm code maxL ret) (o : oOn p l e R s m args below meth c Z cells slots T L) (hd : decode code pc = .ok (.dconst 1, 1)) (hp : pc + 1 = pc')
    (kk : oGo p e below K (T.setTop (mkF m pc' Ls (.double FP.dconst1 :: st)))) : oGo p e below K (T.setTop (mkF m pc Ls st)) := by
  subst hp; exact kk.via fun t r => XS.dconst1 o.here cx.1 rfl (hb cx.2.2.1 hd) rfl r
theorem g_aconst_null (cx : oCx p s m meth c Z own nm code maxL ret) (o : oOn p l e R s m args below meth c Z cells slots T L)  (hd : decode code pc = .ok (.aconst_null, 1)) (hp : pc + 1 = pc') 
    (kk : oGo p e below K (T.setTop (mkF m pc' Ls (.null :: st)))) : oGo p e below K (T.setTop (mkF m pc Ls (st))) := by
  subst hp; exact kk.via fun t q => XS.aconstNull o.here cx.1 rfl (hb cx.2.2.1 hd)  q
theorem g_dup (cx : oCx p s m meth c Z own nm code maxL ret) (o : oOn p l e R s m args below meth c Z cells slots T L) {v : Value} (hd : decode code pc = .ok (.dup, 1)) (hp : pc + 1 = pc') (hc : v.category = 1)
    (kk : oGo p e below K (T.setTop (mkF m pc' Ls (v :: v :: st)))) : oGo p e below K (T.setTop (mkF m pc Ls (v :: st))) := by
  subst hp; exact kk.via fun t q => XS.dup o.here cx.1 rfl (hb cx.2.2.1 hd) rfl hc q
theorem g_pop (cx : oCx p s m meth c Z own nm code maxL ret) (o : oOn p l e R s m args below meth c Z cells slots T L) {v : Value} (hd : decode code pc = .ok (.pop, 1)) (hp : pc + 1 = pc') (hc : v.category = 1)
    (kk : oGo p e below K (T.setTop (mkF m pc' Ls (st)))) : oGo p e below K (T.setTop (mkF m pc Ls (v :: st))) := by
  subst hp; exact kk.via fun t q => XT.pop o.here cx.1 rfl (hb cx.2.2.1 hd) rfl hc q
theorem g_dup_x1 (cx : oCx p s m meth c Z own nm code maxL ret) (o : oOn p l e R s m args below meth c Z cells slots T L) {v w : Value} (hd : decode code pc = .ok (.dup_x1, 1)) (hp : pc + 1 = pc') (hc : v.category = 1) (hc' : w.category = 1)
    (kk : oGo p e below K (T.setTop (mkF m pc' Ls (v :: w :: v :: st)))) : oGo p e below K (T.setTop (mkF m pc Ls (v :: w :: st))) := by
  subst hp; exact kk.via fun t q => XT.dupX1 o.here cx.1 rfl (hb cx.2.2.1 hd) rfl hc hc' q
theorem g_dup2 (cx : oCx p s m meth c Z own nm code maxL ret) (o : oOn p l e R s m args below meth c Z cells slots T L) {v w : Value} (hd : decode code pc = .ok (.dup2, 1)) (hp : pc + 1 = pc') (hc : v.category = 1) (hc' : w.category = 1)
    (kk : oGo p e below K (T.setTop (mkF m pc' Ls (v :: w :: v :: w :: st)))) : oGo p e below K (T.setTop (mkF m pc Ls (v :: w :: st))) := by
  subst hp; exact kk.via fun t q => XT.dup2 o.here cx.1 rfl (hb cx.2.2.1 hd) rfl hc hc' q
theorem g_dup2L (cx : oCx p s m meth c Z own nm code maxL ret) (o : oOn p l e R s m args below meth c Z cells slots T L) {x : Int64} (hd : decode code pc = .ok (.dup2, 1)) (hp : pc + 1 = pc') 
    (kk : oGo p e below K (T.setTop (mkF m pc' Ls (.long x :: .long x :: st)))) : oGo p e below K (T.setTop (mkF m pc Ls (.long x :: st))) := by
  subst hp; exact kk.via fun t q => XT.dup2L o.here cx.1 rfl (hb cx.2.2.1 hd) rfl q
theorem g_i2d (cx : oCx p s m meth c Z own nm code maxL ret) (o : oOn p l e R s m args below meth c Z cells slots T L) {x : Int32} (hd : decode code pc = .ok (.i2d, 1)) (hp : pc + 1 = pc') 
    (kk : oGo p e below K (T.setTop (mkF m pc' Ls (.double (FP.i2d x) :: st)))) : oGo p e below K (T.setTop (mkF m pc Ls (.int x :: st))) := by
  subst hp; exact kk.via fun t q => XS.i2dS o.here cx.1 rfl (hb cx.2.2.1 hd) rfl rfl q
theorem g_l2d (cx : oCx p s m meth c Z own nm code maxL ret) (o : oOn p l e R s m args below meth c Z cells slots T L) {x : Int64} (hd : decode code pc = .ok (.l2d, 1)) (hp : pc + 1 = pc') 
    (kk : oGo p e below K (T.setTop (mkF m pc' Ls (.double (FP.l2d x) :: st)))) : oGo p e below K (T.setTop (mkF m pc Ls (.long x :: st))) := by
  subst hp; exact kk.via fun t q => XS.l2dS o.here cx.1 rfl (hb cx.2.2.1 hd) rfl rfl q
theorem g_d2l (cx : oCx p s m meth c Z own nm code maxL ret) (o : oOn p l e R s m args below meth c Z cells slots T L) {x : UInt64} (hd : decode code pc = .ok (.d2l, 1)) (hp : pc + 1 = pc') 
    (kk : oGo p e below K (T.setTop (mkF m pc' Ls (.long (FP.d2l x) :: st)))) : oGo p e below K (T.setTop (mkF m pc Ls (.double x :: st))) := by
  subst hp; exact kk.via fun t q => XS.d2lS o.here cx.1 rfl (hb cx.2.2.1 hd) rfl rfl q
theorem g_d2i (cx : oCx p s m meth c Z own nm code maxL ret) (o : oOn p l e R s m args below meth c Z cells slots T L) {x : UInt64} (hd : decode code pc = .ok (.d2i, 1)) (hp : pc + 1 = pc') 
    (kk : oGo p e below K (T.setTop (mkF m pc' Ls (.int (FP.d2i x) :: st)))) : oGo p e below K (T.setTop (mkF m pc Ls (.double x :: st))) := by
  subst hp; exact kk.via fun t q => XS.d2iS o.here cx.1 rfl (hb cx.2.2.1 hd) rfl rfl q
theorem g_dneg (cx : oCx p s m meth c Z own nm code maxL ret) (o : oOn p l e R s m args below meth c Z cells slots T L) {x : UInt64} (hd : decode code pc = .ok (.dneg, 1)) (hp : pc + 1 = pc') 
    (kk : oGo p e below K (T.setTop (mkF m pc' Ls (.double (FP.dneg x) :: st)))) : oGo p e below K (T.setTop (mkF m pc Ls (.double x :: st))) := by
  subst hp; exact kk.via fun t q => XS.dnegS o.here cx.1 rfl (hb cx.2.2.1 hd) rfl rfl q
theorem g_dcmp (cx : oCx p s m meth c Z own nm code maxL ret) (o : oOn p l e R s m args below meth c Z cells slots T L) {f : CmpOp} {x y : UInt64} (hd : decode code pc = .ok (.dcmp f, 1)) (hp : pc + 1 = pc') 
    (kk : oGo p e below K (T.setTop (mkF m pc' Ls (.int (cmpValue (FP.dcmp x y) f) :: st)))) : oGo p e below K (T.setTop (mkF m pc Ls (.double y :: .double x :: st))) := by
  subst hp; exact kk.via fun t q => XS.dcmpS o.here cx.1 rfl (hb cx.2.2.1 hd) rfl rfl q
theorem g_dadd (cx : oCx p s m meth c Z own nm code maxL ret) (o : oOn p l e R s m args below meth c Z cells slots T L) {x y : UInt64} (hd : decode code pc = .ok (.dadd, 1)) (hp : pc + 1 = pc') (hn : NoNaN64 (FP.dadd x y))
    (kk : oGo p e below K (T.setTop (mkF m pc' Ls (.double (FP.dadd x y) :: st)))) : oGo p e below K (T.setTop (mkF m pc Ls (.double y :: .double x :: st))) := by
  subst hp; exact kk.via fun t q => XS.daddS o.here cx.1 rfl (hb cx.2.2.1 hd) rfl hn rfl q
theorem g_dsub (cx : oCx p s m meth c Z own nm code maxL ret) (o : oOn p l e R s m args below meth c Z cells slots T L) {x y : UInt64} (hd : decode code pc = .ok (.dsub, 1)) (hp : pc + 1 = pc') (hn : NoNaN64 (FP.dsub x y))
    (kk : oGo p e below K (T.setTop (mkF m pc' Ls (.double (FP.dsub x y) :: st)))) : oGo p e below K (T.setTop (mkF m pc Ls (.double y :: .double x :: st))) := by
  subst hp; exact kk.via fun t q => XS.dsubS o.here cx.1 rfl (hb cx.2.2.1 hd) rfl hn rfl q
theorem g_dmul (cx : oCx p s m meth c Z own nm code maxL ret) (o : oOn p l e R s m args below meth c Z cells slots T L) {x y : UInt64} (hd : decode code pc = .ok (.dmul, 1)) (hp : pc + 1 = pc') (hn : NoNaN64 (FP.dmul x y))
    (kk : oGo p e below K (T.setTop (mkF m pc' Ls (.double (FP.dmul x y) :: st)))) : oGo p e below K (T.setTop (mkF m pc Ls (.double y :: .double x :: st))) := by
  subst hp; exact kk.via fun t q => XS.dmulS o.here cx.1 rfl (hb cx.2.2.1 hd) rfl hn rfl q
theorem g_ddiv (cx : oCx p s m meth c Z own nm code maxL ret) (o : oOn p l e R s m args below meth c Z cells slots T L) {x y : UInt64} (hd : decode code pc = .ok (.ddiv, 1)) (hp : pc + 1 = pc') (hn : NoNaN64 (FP.ddiv x y))
    (kk : oGo p e below K (T.setTop (mkF m pc' Ls (.double (FP.ddiv x y) :: st)))) : oGo p e below K (T.setTop (mkF m pc Ls (.double y :: .double x :: st))) := by
  subst hp; exact kk.via fun t q => XS.ddivS o.here cx.1 rfl (hb cx.2.2.1 hd) rfl hn rfl q
theorem g_iinc (cx : oCx p s m meth c Z own nm code maxL ret) (o : oOn p l e R s m args below meth c Z cells slots T L) {cst : Int} {x : Int32} (z : Int32) {l' : Array Slot} (hd : decode code pc = .ok (.iinc k cst, 3)) (hp : pc + 3 = pc') (hl : Ls[k]? = some (.val (.int x))) (hz : x + Int32.ofInt cst = z) (hl' : storeLocals Ls k (.int z) = some l')
    (kk : oGo p e below K (T.setTop (mkF m pc' l' st))) : oGo p e below K (T.setTop (mkF m pc Ls st)) := by
  subst hp hz; exact kk.via fun t r => XS.iinc o.here cx.1 rfl (hb cx.2.2.1 hd) hl hl' r
theorem g_lshl (cx : oCx p s m meth c Z own nm code maxL ret) (o : oOn p l e R s m args below meth c Z cells slots T L) {x : Int64} {y : Int32} (hd : decode code pc = .ok (.lshl, 1)) (hp : pc + 1 = pc') 
    (kk : oGo p e below K (T.setTop (mkF m pc' Ls (.long (x <<< (y.toInt64 &&& 63)) :: st)))) : oGo p e below K (T.setTop (mkF m pc Ls (.int y :: .long x :: st))) := by
  subst hp; exact kk.via fun t q => XT.lshl o.here cx.1 rfl (hb cx.2.2.1 hd) rfl q
theorem g_lshr (cx : oCx p s m meth c Z own nm code maxL ret) (o : oOn p l e R s m args below meth c Z cells slots T L) {x : Int64} {y : Int32} (hd : decode code pc = .ok (.lshr, 1)) (hp : pc + 1 = pc') 
    (kk : oGo p e below K (T.setTop (mkF m pc' Ls (.long (x >>> (y.toInt64 &&& 63)) :: st)))) : oGo p e below K (T.setTop (mkF m pc Ls (.int y :: .long x :: st))) := by
  subst hp; exact kk.via fun t q => XT.lshr o.here cx.1 rfl (hb cx.2.2.1 hd) rfl q
theorem g_lushr (cx : oCx p s m meth c Z own nm code maxL ret) (o : oOn p l e R s m args below meth c Z cells slots T L) {x : Int64} {y : Int32} (hd : decode code pc = .ok (.lushr, 1)) (hp : pc + 1 = pc') 
    (kk : oGo p e below K (T.setTop (mkF m pc' Ls (.long (XT.ushrL x y) :: st)))) : oGo p e below K (T.setTop (mkF m pc Ls (.int y :: .long x :: st))) := by
  subst hp; exact kk.via fun t q => XT.lushr o.here cx.1 rfl (hb cx.2.2.1 hd) rfl q
theorem g_i2b (cx : oCx p s m meth c Z own nm code maxL ret) (o : oOn p l e R s m args below meth c Z cells slots T L) {x : Int32} (hd : decode code pc = .ok (.i2b, 1)) (hp : pc + 1 = pc') 
    (kk : oGo p e below K (T.setTop (mkF m pc' Ls (.int (x.toInt8.toInt32) :: st)))) : oGo p e below K (T.setTop (mkF m pc Ls (.int x :: st))) := by
  subst hp; exact kk.via fun t q => XT.i2b o.here cx.1 rfl (hb cx.2.2.1 hd) rfl q
theorem g_i2s (cx : oCx p s m meth c Z own nm code maxL ret) (o : oOn p l e R s m args below meth c Z cells slots T L) {x : Int32} (hd : decode code pc = .ok (.i2s, 1)) (hp : pc + 1 = pc') 
    (kk : oGo p e below K (T.setTop (mkF m pc' Ls (.int (x.toInt16.toInt32) :: st)))) : oGo p e below K (T.setTop (mkF m pc Ls (.int x :: st))) := by
  subst hp; exact kk.via fun t q => XT.i2s o.here cx.1 rfl (hb cx.2.2.1 hd) rfl q
theorem g_goto (cx : oCx p s m meth c Z own nm code maxL ret) (o : oOn p l e R s m args below meth c Z cells slots T L) {off : Int} (hd : decode code pc = .ok (.goto off, 3)) (ho : 0 ≤ (pc : Int) + off) (hp : ((pc : Int) + off).toNat = pc')
    (kk : oGo p e below K (T.setTop (mkF m pc' Ls st))) : oGo p e below K (T.setTop (mkF m pc Ls st)) := by
  exact kk.via fun t q => XS.goto o.here cx.1 rfl rfl (hb cx.2.2.1 hd) ho hp q
theorem g_if_eq (cx : oCx p s m meth c Z own nm code maxL ret) (o : oOn p l e R s m args below meth c Z cells slots T L) {x : Int32} {off : Int} (hd : decode code pc = .ok (.ifCond .eq off, 3)) (ho : 0 ≤ (pc : Int) + off) (hp' : ((pc : Int) + off).toNat = pc') (hp : pc + 3 = pc2)
    (ky : x = 0 → oGo p e below K (T.setTop (mkF m pc' Ls st))) (kn : ¬ (x = 0) → oGo p e below K (T.setTop (mkF m pc2 Ls st))) : oGo p e below K (T.setTop (mkF m pc Ls (.int x :: st))) := by
  by_cases q : x = 0
  · exact (ky q).via fun t r => XS.ifYes o.here cx.1 rfl rfl (hb cx.2.2.1 hd) rfl ((if0 _ _).trans (teq q).1) ho hp' r
  · subst hp; exact (kn q).via fun t r => XS.ifNo o.here cx.1 rfl (hb cx.2.2.1 hd) rfl ((if0 _ _).trans (feq q).1) r
theorem g_icmp_eq (cx : oCx p s m meth c Z own nm code maxL ret) (o : oOn p l e R s m args below meth c Z cells slots T L) {x y : Int32} {off : Int} (hd : decode code pc = .ok (.if_icmp .eq off, 3)) (ho : 0 ≤ (pc : Int) + off) (hp' : ((pc : Int) + off).toNat = pc') (hp : pc + 3 = pc2)
    (ky : x = y → oGo p e below K (T.setTop (mkF m pc' Ls st))) (kn : ¬ (x = y) → oGo p e below K (T.setTop (mkF m pc2 Ls st))) : oGo p e below K (T.setTop (mkF m pc Ls (.int y :: .int x :: st))) := by
  by_cases q : x = y
  · exact (ky q).via fun t r => XS.icmpYes o.here cx.1 rfl rfl (hb cx.2.2.1 hd) rfl (teq q).1 ho hp' r
  · subst hp; exact (kn q).via fun t r => XS.icmpNo o.here cx.1 rfl (hb cx.2.2.1 hd) rfl (feq q).1 r
theorem g_if_ne (cx : oCx p s m meth c Z own nm code maxL ret) (o : oOn p l e R s m args below meth c Z cells slots T L) {x : Int32} {off : Int} (hd : decode code pc = .ok (.ifCond .ne off, 3)) (ho : 0 ≤ (pc : Int) + off) (hp' : ((pc : Int) + off).toNat = pc') (hp : pc + 3 = pc2)
    (ky : ¬ (x = 0) → oGo p e below K (T.setTop (mkF m pc' Ls st))) (kn : x = 0 → oGo p e below K (T.setTop (mkF m pc2 Ls st))) : oGo p e below K (T.setTop (mkF m pc Ls (.int x :: st))) := by
  by_cases q : ¬ (x = 0)
  · exact (ky q).via fun t r => XS.ifYes o.here cx.1 rfl rfl (hb cx.2.2.1 hd) rfl ((if0 _ _).trans (feq q).2) ho hp' r
  · subst hp; exact (kn (Decidable.not_not.mp q)).via fun t r => XS.ifNo o.here cx.1 rfl (hb cx.2.2.1 hd) rfl ((if0 _ _).trans (teq (Decidable.not_not.mp q)).2) r
theorem g_icmp_ne (cx : oCx p s m meth c Z own nm code maxL ret) (o : oOn p l e R s m args below meth c Z cells slots T L) {x y : Int32} {off : Int} (hd : decode code pc = .ok (.if_icmp .ne off, 3)) (ho : 0 ≤ (pc : Int) + off) (hp' : ((pc : Int) + off).toNat = pc') (hp : pc + 3 = pc2)
    (ky : ¬ (x = y) → oGo p e below K (T.setTop (mkF m pc' Ls st))) (kn : x = y → oGo p e below K (T.setTop (mkF m pc2 Ls st))) : oGo p e below K (T.setTop (mkF m pc Ls (.int y :: .int x :: st))) := by
  by_cases q : ¬ (x = y)
  · exact (ky q).via fun t r => XS.icmpYes o.here cx.1 rfl rfl (hb cx.2.2.1 hd) rfl (feq q).2 ho hp' r
  · subst hp; exact (kn (Decidable.not_not.mp q)).via fun t r => XS.icmpNo o.here cx.1 rfl (hb cx.2.2.1 hd) rfl (teq (Decidable.not_not.mp q)).2 r
theorem g_if_lt (cx : oCx p s m meth c Z own nm code maxL ret) (o : oOn p l e R s m args below meth c Z cells slots T L) {x : Int32} {off : Int} (hd : decode code pc = .ok (.ifCond .lt off, 3)) (ho : 0 ≤ (pc : Int) + off) (hp' : ((pc : Int) + off).toNat = pc') (hp : pc + 3 = pc2)
    (ky : x < 0 → oGo p e below K (T.setTop (mkF m pc' Ls st))) (kn : ¬ (x < 0) → oGo p e below K (T.setTop (mkF m pc2 Ls st))) : oGo p e below K (T.setTop (mkF m pc Ls (.int x :: st))) := by
  by_cases q : x < 0
  · exact (ky q).via fun t r => XS.ifYes o.here cx.1 rfl rfl (hb cx.2.2.1 hd) rfl ((if0 _ _).trans (tlt q).1) ho hp' r
  · subst hp; exact (kn q).via fun t r => XS.ifNo o.here cx.1 rfl (hb cx.2.2.1 hd) rfl ((if0 _ _).trans (flt q).1) r
theorem g_icmp_lt (cx : oCx p s m meth c Z own nm code maxL ret) (o : oOn p l e R s m args below meth c Z cells slots T L) {x y : Int32} {off : Int} (hd : decode code pc = .ok (.if_icmp .lt off, 3)) (ho : 0 ≤ (pc : Int) + off) (hp' : ((pc : Int) + off).toNat = pc') (hp : pc + 3 = pc2)
    (ky : x < y → oGo p e below K (T.setTop (mkF m pc' Ls st))) (kn : ¬ (x < y) → oGo p e below K (T.setTop (mkF m pc2 Ls st))) : oGo p e below K (T.setTop (mkF m pc Ls (.int y :: .int x :: st))) := by
  by_cases q : x < y
  · exact (ky q).via fun t r => XS.icmpYes o.here cx.1 rfl rfl (hb cx.2.2.1 hd) rfl (tlt q).1 ho hp' r
  · subst hp; exact (kn q).via fun t r => XS.icmpNo o.here cx.1 rfl (hb cx.2.2.1 hd) rfl (flt q).1 r
theorem g_if_ge (cx : oCx p s m meth c Z own nm code maxL ret) (o : oOn p l e R s m args below meth c Z cells slots T L) {x : Int32} {off : Int} (hd : decode code pc = .ok (.ifCond .ge off, 3)) (ho : 0 ≤ (pc : Int) + off) (hp' : ((pc : Int) + off).toNat = pc') (hp : pc + 3 = pc2)
    (ky : ¬ (x < 0) → oGo p e below K (T.setTop (mkF m pc' Ls st))) (kn : x < 0 → oGo p e below K (T.setTop (mkF m pc2 Ls st))) : oGo p e below K (T.setTop (mkF m pc Ls (.int x :: st))) := by
  by_cases q : ¬ (x < 0)
  · exact (ky q).via fun t r => XS.ifYes o.here cx.1 rfl rfl (hb cx.2.2.1 hd) rfl ((if0 _ _).trans (flt q).2.1) ho hp' r
  · subst hp; exact (kn (Decidable.not_not.mp q)).via fun t r => XS.ifNo o.here cx.1 rfl (hb cx.2.2.1 hd) rfl ((if0 _ _).trans (tlt (Decidable.not_not.mp q)).2.1) r
theorem g_icmp_ge (cx : oCx p s m meth c Z own nm code maxL ret) (o : oOn p l e R s m args below meth c Z cells slots T L) {x y : Int32} {off : Int} (hd : decode code pc = .ok (.if_icmp .ge off, 3)) (ho : 0 ≤ (pc : Int) + off) (hp' : ((pc : Int) + off).toNat = pc') (hp : pc + 3 = pc2)
    (ky : ¬ (x < y) → oGo p e below K (T.setTop (mkF m pc' Ls st))) (kn : x < y → oGo p e below K (T.setTop (mkF m pc2 Ls st))) : oGo p e below K (T.setTop (mkF m pc Ls (.int y :: .int x :: st))) := by
  by_cases q : ¬ (x < y)
  · exact (ky q).via fun t r => XS.icmpYes o.here cx.1 rfl rfl (hb cx.2.2.1 hd) rfl (flt q).2.1 ho hp' r
  · subst hp; exact (kn (Decidable.not_not.mp q)).via fun t r => XS.icmpNo o.here cx.1 rfl (hb cx.2.2.1 hd) rfl (tlt (Decidable.not_not.mp q)).2.1 r
theorem g_if_gt (cx : oCx p s m meth c Z own nm code maxL ret) (o : oOn p l e R s m args below meth c Z cells slots T L) {x : Int32} {off : Int} (hd : decode code pc = .ok (.ifCond .gt off, 3)) (ho : 0 ≤ (pc : Int) + off) (hp' : ((pc : Int) + off).toNat = pc') (hp : pc + 3 = pc2)
    (ky : 0 < x → oGo p e below K (T.setTop (mkF m pc' Ls st))) (kn : ¬ (0 < x) → oGo p e below K (T.setTop (mkF m pc2 Ls st))) : oGo p e below K (T.setTop (mkF m pc Ls (.int x :: st))) := by
  by_cases q : 0 < x
  · exact (ky q).via fun t r => XS.ifYes o.here cx.1 rfl rfl (hb cx.2.2.1 hd) rfl ((if0 _ _).trans (tlt q).2.2.1) ho hp' r
  · subst hp; exact (kn q).via fun t r => XS.ifNo o.here cx.1 rfl (hb cx.2.2.1 hd) rfl ((if0 _ _).trans (flt q).2.2.1) r
theorem g_icmp_gt (cx : oCx p s m meth c Z own nm code maxL ret) (o : oOn p l e R s m args below meth c Z cells slots T L) {x y : Int32} {off : Int} (hd : decode code pc = .ok (.if_icmp .gt off, 3)) (ho : 0 ≤ (pc : Int) + off) (hp' : ((pc : Int) + off).toNat = pc') (hp : pc + 3 = pc2)
    (ky : y < x → oGo p e below K (T.setTop (mkF m pc' Ls st))) (kn : ¬ (y < x) → oGo p e below K (T.setTop (mkF m pc2 Ls st))) : oGo p e below K (T.setTop (mkF m pc Ls (.int y :: .int x :: st))) := by
  by_cases q : y < x
  · exact (ky q).via fun t r => XS.icmpYes o.here cx.1 rfl rfl (hb cx.2.2.1 hd) rfl (tlt q).2.2.1 ho hp' r
  · subst hp; exact (kn q).via fun t r => XS.icmpNo o.here cx.1 rfl (hb cx.2.2.1 hd) rfl (flt q).2.2.1 r
theorem g_if_le (cx : oCx p s m meth c Z own nm code maxL ret) (o : oOn p l e R s m args below meth c Z cells slots T L) {x : Int32} {off : Int} (hd : decode code pc = .ok (.ifCond .le off, 3)) (ho : 0 ≤ (pc : Int) + off) (hp' : ((pc : Int) + off).toNat = pc') (hp : pc + 3 = pc2)
    (ky : ¬ (0 < x) → oGo p e below K (T.setTop (mkF m pc' Ls st))) (kn : 0 < x → oGo p e below K (T.setTop (mkF m pc2 Ls st))) : oGo p e below K (T.setTop (mkF m pc Ls (.int x :: st))) := by
  by_cases q : ¬ (0 < x)
  · exact (ky q).via fun t r => XS.ifYes o.here cx.1 rfl rfl (hb cx.2.2.1 hd) rfl ((if0 _ _).trans (flt q).2.2.2) ho hp' r
  · subst hp; exact (kn (Decidable.not_not.mp q)).via fun t r => XS.ifNo o.here cx.1 rfl (hb cx.2.2.1 hd) rfl ((if0 _ _).trans (tlt (Decidable.not_not.mp q)).2.2.2) r
theorem g_icmp_le (cx : oCx p s m meth c Z own nm code maxL ret) (o : oOn p l e R s m args below meth c Z cells slots T L) {x y : Int32} {off : Int} (hd : decode code pc = .ok (.if_icmp .le off, 3)) (ho : 0 ≤ (pc : Int) + off) (hp' : ((pc : Int) + off).toNat = pc') (hp : pc + 3 = pc2)
    (ky : ¬ (y < x) → oGo p e below K (T.setTop (mkF m pc' Ls st))) (kn : y < x → oGo p e below K (T.setTop (mkF m pc2 Ls st))) : oGo p e below K (T.setTop (mkF m pc Ls (.int y :: .int x :: st))) := by
  by_cases q : ¬ (y < x)
  · exact (ky q).via fun t r => XS.icmpYes o.here cx.1 rfl rfl (hb cx.2.2.1 hd) rfl (flt q).2.2.2 ho hp' r
  · subst hp; exact (kn (Decidable.not_not.mp q)).via fun t r => XS.icmpNo o.here cx.1 rfl (hb cx.2.2.1 hd) rfl (tlt (Decidable.not_not.mp q)).2.2.2 r
theorem g_ldc (cx : oCx p s m meth c Z own nm code maxL ret) (o : oOn p l e R s m args below meth c Z cells slots T L) {index : Nat} {z : Int32} (w : (Jvm.Cond.constant own index z).before a0 Z = true) (hd : decode code pc = .ok (.ldc index, 2)) (hp : pc + 2 = pc')
    (kk : oGo p e below K (T.setTop (mkF m pc' Ls (.int z :: st)))) : oGo p e below K (T.setTop (mkF m pc Ls st)) := by
  subst hp; obtain ⟨_, X, -⟩ := o
  exact kk.via fun t q => X.ldcInt cx.1 cx.2.2.2.2.1 (mvT cx.2.1 w) (g := mkF m pc Ls st) rfl (hb cx.2.2.1 hd) t q
theorem g_ldc2L (cx : oCx p s m meth c Z own nm code maxL ret) (o : oOn p l e R s m args below meth c Z cells slots T L) {index : Nat} {z : Int64} (w : (Jvm.Cond.constantLong own index z).before a0 Z = true) (hd : decode code pc = .ok (.ldc2_w index, 3)) (hp : pc + 3 = pc')
    (kk : oGo p e below K (T.setTop (mkF m pc' Ls (.long z :: st)))) : oGo p e below K (T.setTop (mkF m pc Ls st)) := by
  subst hp; obtain ⟨_, X, -⟩ := o
  exact kk.via fun t q => X.ldc2Long cx.1 cx.2.2.2.2.1 (mvT cx.2.1 w) (g := mkF m pc Ls st) rfl (hb cx.2.2.1 hd) t q
theorem g_ldc2D (cx : oCx p s m meth c Z own nm code maxL ret) (o : oOn p l e R s m args below meth c Z cells slots T L) {index : Nat} {z : UInt64} (w : (Jvm.Cond.constantDouble own index z).before a0 Z = true) (hd : decode code pc = .ok (.ldc2_w index, 3)) (hp : pc + 3 = pc')
    (kk : oGo p e below K (T.setTop (mkF m pc' Ls (.double z :: st)))) : oGo p e below K (T.setTop (mkF m pc Ls st)) := by
  subst hp; obtain ⟨_, X, -⟩ := o
  exact kk.via fun t q => X.ldc2DoubleC cx.1 cx.2.2.2.2.1 (mvT cx.2.1 w) (g := mkF m pc Ls st) rfl (hb cx.2.2.1 hd) t q
theorem g_getfield (cx : oCx p s m meth c Z own nm code maxL ret) (o : oOn p l e R s m args below meth c Z cells slots T L) {index : Nat} {C O n d : String} {fs : oFs} (w : (Jvm.Cond.fieldLink own index O n d).before a0 Z = true) (i j : Nat) (hi : L[i]? = some (a, oObj Z a0 C fs)) (hj : fs[j]? = some (O, n, d, v)) (hd : decode code pc = .ok (.getfield index, 3)) (hp : pc + 3 = pc')
    (kk : ∀ T', oOn p l e R s m args below meth c Z cells slots T' L → oGo p e below K (T'.setTop (mkF m pc' Ls (v :: st)))) : oGo p e below K (T.setTop (mkF m pc Ls (.ref a :: st))) := by
  subst hp; obtain ⟨lc, X, N, H⟩ := o
  obtain ⟨-, cl, hc, B⟩ := H.at_ hi
  obtain ⟨T', X', e', stp⟩ := getF X cx.1 cx.2.1 cx.2.2.2.2.1 (host := "") (Or.inl w) Via.refl rfl ((B.2 _ (List.mem_of_getElem? hj)).2.2.fld hc) (g := mkF m pc Ls (.ref a :: st)) rfl rfl (hb cx.2.2.1 hd)
  exact (kk T' ⟨lc, X', N, e' ▸ H⟩).via stp
theorem g_getfieldN (cx : oCx p s m meth c Z own nm code maxL ret) (o : oOn p l e R s m args below meth c Z cells slots T L) {index : Nat} {C O n d host : String} {fs : oFs} (w : (Jvm.Cond.fieldLinkNest own index O n d host).before a0 Z = true) (i j : Nat) (hi : L[i]? = some (a, oObj Z a0 C fs)) (hj : fs[j]? = some (O, n, d, v)) (hd : decode code pc = .ok (.getfield index, 3)) (hp : pc + 3 = pc')
    (kk : ∀ T', oOn p l e R s m args below meth c Z cells slots T' L → oGo p e below K (T'.setTop (mkF m pc' Ls (v :: st)))) : oGo p e below K (T.setTop (mkF m pc Ls (.ref a :: st))) := by
  subst hp; obtain ⟨lc, X, N, H⟩ := o
  obtain ⟨-, cl, hc, B⟩ := H.at_ hi
  obtain ⟨T', X', e', stp⟩ := getF X cx.1 cx.2.1 cx.2.2.2.2.1 (host := host) (Or.inr w) Via.refl rfl ((B.2 _ (List.mem_of_getElem? hj)).2.2.fld hc) (g := mkF m pc Ls (.ref a :: st)) rfl rfl (hb cx.2.2.1 hd)
  exact (kk T' ⟨lc, X', N, e' ▸ H⟩).via stp
theorem g_putfield (cx : oCx p s m meth c Z own nm code maxL ret) (o : oOn p l e R s m args below meth c Z cells slots T L) {index kk0 : Nat} {C O n d : String} {fs : oFs} {old : Value} {ty : FieldType} (w : (Jvm.Cond.fieldLink own index O n d).before a0 Z = true) (wl : (Jvm.Cond.lays C O n d).before a0 Z = true ∨ ((Jvm.Cond.laysFinal C O n d).before a0 Z = true ∧ own = O ∧ nm = "<init>")) (wi : (Jvm.Cond.instantiable C kk0).before a0 Z = true)
    (i j : Nat) (hi : L[i]? = some (a, oObj Z a0 C fs)) (hj : fs[j]? = some (O, n, d, old)) (ns : List String) (hns : fs.map (fun t => t.2.1) = ns) (hnd : ns.Nodup) (hty : parseFieldDescriptor d = some ty) (hn : narrow ty v = v) (hf : fits ty v = true) (hd : decode code pc = .ok (.putfield index, 3)) (hp : pc + 3 = pc')
    (kk : ∀ T', oOn p l e R s m args below meth c Z cells slots T' (L.set i (a, oObj Z a0 C (fs.set j (O, n, d, v)))) → oGo p e below K (T'.setTop (mkF m pc' Ls st))) : oGo p e below K (T.setTop (mkF m pc Ls (v :: .ref a :: st))) := by
  subst hp; obtain ⟨lc, X, N, H⟩ := o
  obtain ⟨q, cl, hc, B⟩ := H.at_ hi
  obtain ⟨T', h', X', e', Wd, stp⟩ := putF X cx.1 cx.2.1 cx.2.2.2.2.1 (host := "") (Or.inl w) Via.refl rfl ((B.2 _ (List.mem_of_getElem? hj)).2.2.fld hc) (B.1.exa hc) (wl.imp id fun z => ⟨z.1, z.2.1, cx.2.2.2.2.2.1.trans z.2.2⟩) wi hty hn hf (g := mkF m pc Ls (v :: .ref a :: st)) rfl rfl (hb cx.2.2.1 hd)
  subst e'
  exact (kk T' ⟨_, X', Fr.snoc X' N q, H.wr hi Wd fun c' hc' => hc'.put hj (hns ▸ hnd)⟩).via stp
theorem g_putfieldN (cx : oCx p s m meth c Z own nm code maxL ret) (o : oOn p l e R s m args below meth c Z cells slots T L) {index kk0 : Nat} {C O n d : String} {fs : oFs} {old v' : Value} {ty : FieldType} (w : (Jvm.Cond.fieldLink own index O n d).before a0 Z = true) (wl : (Jvm.Cond.lays C O n d).before a0 Z = true ∨ ((Jvm.Cond.laysFinal C O n d).before a0 Z = true ∧ own = O ∧ nm = "<init>")) (wi : (Jvm.Cond.instantiable C kk0).before a0 Z = true)
    (i j : Nat) (hi : L[i]? = some (a, oObj Z a0 C fs)) (hj : fs[j]? = some (O, n, d, old)) (ns : List String) (hns : fs.map (fun t => t.2.1) = ns) (hnd : ns.Nodup) (hty : parseFieldDescriptor d = some ty) (hn : narrow ty v = v') (hf : fits ty v' = true) (hd : decode code pc = .ok (.putfield index, 3)) (hp : pc + 3 = pc')
    (kk : ∀ T', oOn p l e R s m args below meth c Z cells slots T' (L.set i (a, oObj Z a0 C (fs.set j (O, n, d, v')))) → oGo p e below K (T'.setTop (mkF m pc' Ls st))) : oGo p e below K (T.setTop (mkF m pc Ls (v :: .ref a :: st))) := by
  subst hp; obtain ⟨lc, X, N, H⟩ := o
  obtain ⟨q, cl, hc, B⟩ := H.at_ hi
  obtain ⟨T', h', X', e', Wd, stp⟩ := putFN X cx.1 cx.2.1 cx.2.2.2.2.1 w Via.refl rfl ((B.2 _ (List.mem_of_getElem? hj)).2.2.fld hc) (B.1.exa hc) (wl.imp id fun z => ⟨z.1, z.2.1, cx.2.2.2.2.2.1.trans z.2.2⟩) wi hty hn hf (g := mkF m pc Ls (v :: .ref a :: st)) rfl rfl (hb cx.2.2.1 hd)
  subst e'
  exact (kk T' ⟨_, X', Fr.snoc X' N q, H.wr hi Wd fun c' hc' => hc'.put hj (hns ▸ hnd)⟩).via stp
theorem g_new (cx : oCx p s m meth c Z own nm code maxL ret) (o : oOn p l e R s m args below meth c Z cells slots T L) {index n : Nat} {C : String} {fs : oFs} (w : (Jvm.Cond.classLink own index C).before a0 Z = true) (wi : (Jvm.Cond.instantiable C n).before a0 Z = true) (wz : (Jvm.Cond.initialized C).before a0 Z = true) (hfs : ∀ t ∈ fs, Laid Z a0 C t.1 t.2.1 t.2.2.1 ∧ ∃ ty, parseFieldDescriptor t.2.2.1 = some ty ∧ defaultValue ty = t.2.2.2)
    (hc : cells + 1 ≤ R.cells) (hl : slots + n ≤ R.slots) (hd : decode code pc = .ok (.new index, 3)) (hp : pc + 3 = pc')
    (kk : ∀ T' b, oOn p l e R s m args below meth c Z (cells + 1) (slots + n) T' ((b, oObj Z a0 C fs) :: L) → oGo p e below K (T'.setTop (mkF m pc' Ls (.ref b :: st)))) : oGo p e below K (T.setTop (mkF m pc Ls st)) := by
  subst hp; obtain ⟨lc, X, N, H⟩ := o
  obtain ⟨T', h', X', e', E, A, D, ⟨cl, hcl, -, -⟩, stp⟩ := newO X cx.1 cx.2.1 cx.2.2.2.2.1 w wi wz rfl (g := mkF m pc Ls st) rfl (hb cx.2.2.1 hd) hc hl
  subst e'
  refine (kk T' _ ⟨_, X', N, H.new E hcl ⟨oExa.of A hcl, fun t ht => ?_⟩⟩).via stp
  obtain ⟨h1, ty, h2, h3⟩ := hfs t ht
  exact ⟨h1, ⟨ty, h2⟩, h3 ▸ oFld.of (D h1 h2) hcl⟩
theorem g_newarray (cx : oCx p s m meth c Z own nm code maxL ret) (o : oOn p l e R s m args below meth c Z cells slots T L) {aty : ArrayType} {x : Int32} {ty : FieldType} {vs : List Value} (w : (Jvm.Cond.arrayClass ty).before a0 Z = true) (hty : newarray.typeOf aty = ty) (k cap : Nat) (hk : x = Int32.ofNat k) (hvs : List.replicate k (defaultValue ty) = vs) (hcap : k ≤ cap) (hcb : cap * 8 ≤ 536870912) (hc : cells + 1 ≤ R.cells) (hl : slots + cap ≤ R.slots) (hd : decode code pc = .ok (.newarray aty, 2)) (hp : pc + 2 = pc')
    (kk : ∀ T' b, oOn p l e R s m args below meth c Z (cells + 1) (slots + cap) T' ((b, oArr Z ty vs) :: L) → oGo p e below K (T'.setTop (mkF m pc' Ls (.ref b :: st)))) : oGo p e below K (T.setTop (mkF m pc Ls (.int x :: st))) := by
  subst hp hk hty hvs; obtain ⟨lc, X, N, H⟩ := o
  have hk2 : k < 2 ^ 31 := by omega
  obtain ⟨q1, q2⟩ := o_clamp hk2
  obtain ⟨T', h', cA, X', e', E, A, stp⟩ := newP X cx.1 cx.2.1 w rfl (g := mkF m pc Ls (.int (Int32.ofNat k) :: st)) rfl (hb cx.2.2.1 hd) rfl q2 (cap := cap) (by rw [q1]; exact hcap) hcb hc hl
  subst e'
  refine (kk T' _ ⟨_, X', N, H.new E A.1 ⟨A.2.1, A.2.2, ?_, by simpa using hk2, fun u hu => ?_⟩⟩).via stp
  · show (Array.replicate (Int32.ofNat k).toNatClampNeg (defaultValue (newarray.typeOf aty))).toList = _; rw [q1, Array.toList_replicate]
  · rw [(List.mem_replicate.mp hu).2]; cases aty <;> rfl
theorem g_arraylength (cx : oCx p s m meth c Z own nm code maxL ret) (o : oOn p l e R s m args below meth c Z cells slots T L) {ty : FieldType} (i : Nat) (z : Int32) (hi : L[i]? = some (a, oArr Z ty vs)) (hz : Int32.ofNat vs.length = z) (hd : decode code pc = .ok (.arraylength, 1)) (hp : pc + 1 = pc')
    (kk : oGo p e below K (T.setTop (mkF m pc' Ls (.int z :: st)))) : oGo p e below K (T.setTop (mkF m pc Ls (.ref a :: st))) := by
  subst hp hz; obtain ⟨lc, X, N, H⟩ := o
  obtain ⟨-, cl, hc, B⟩ := H.at_ hi
  refine kk.via fun t q => X.arraylength cx.1 hc (State.isArrayOf_alike cx.2.1.alike B.1) (g := mkF m pc Ls (.ref a :: st)) rfl rfl (hb cx.2.2.1 hd) t ?_
  rw [B.size]; exact q
theorem g_getfieldO (cx : oCx p s m meth c Z own nm code maxL ret) (o : oOn p l e R s m args below meth c Z cells slots T L) {index : Nat} {O n d : String} (w : (Jvm.Cond.fieldLink own index O n d).before a0 Z = true) (F : Fld Z Z.heap a O n d v) (hd : decode code pc = .ok (.getfield index, 3)) (hp : pc + 3 = pc')
    (kk : ∀ T', oOn p l e R s m args below meth c Z cells slots T' L → oGo p e below K (T'.setTop (mkF m pc' Ls (v :: st)))) : oGo p e below K (T.setTop (mkF m pc Ls (.ref a :: st))) := by
  subst hp; obtain ⟨lc, X, N, H⟩ := o
  obtain ⟨T', X', e', stp⟩ := getF X cx.1 cx.2.1 cx.2.2.2.2.1 (host := "") (Or.inl w) Via.refl rfl (F.ext H.1) (g := mkF m pc Ls (.ref a :: st)) rfl rfl (hb cx.2.2.1 hd)
  exact (kk T' ⟨lc, X', N, e' ▸ H⟩).via stp
/-- an array of references to C's objects, with just these components -/
def oArrR (Z : State) (C : String) (vs : List Value) (cell : Cell) : Prop := oArr Z (.object C) vs cell ∧ Ovr Z cell.cls C
theorem oOn.lenR {C : String} (o : oOn p l e R s m args below meth c Z cells slots T L) (hi : L[i]? = some (a, oArrR Z C vs)) : vs.length < 2 ^ 31 := by
  obtain ⟨lc, X, N, H⟩ := o
  obtain ⟨-, cl, -, A⟩ := H.at_ hi
  exact A.1.2.2.2.1
theorem g_anewarray (cx : oCx p s m meth c Z own nm code maxL ret) (o : oOn p l e R s m args below meth c Z cells slots T L) {x : Int32} {index : Nat} {C : String} {vs : List Value} (w1 : (Jvm.Cond.classLink own index C).before a0 Z = true) (w2 : (Jvm.Cond.arrayOver (.object C)).before a0 Z = true) (k cap : Nat) (hk : x = Int32.ofNat k) (hvs : List.replicate k .null = vs) (hcap : k ≤ cap) (hcb : cap * 8 ≤ 536870912) (hc : cells + 1 ≤ R.cells) (hl : slots + cap ≤ R.slots) (hd : decode code pc = .ok (.anewarray index, 3)) (hp : pc + 3 = pc')
    (kk : ∀ T' b, oOn p l e R s m args below meth c Z (cells + 1) (slots + cap) T' ((b, oArrR Z C vs) :: L) → oGo p e below K (T'.setTop (mkF m pc' Ls (.ref b :: st)))) : oGo p e below K (T.setTop (mkF m pc Ls (.int x :: st))) := by
  subst hp hk hvs; obtain ⟨lc, X, N, H⟩ := o
  have hk2 : k < 2 ^ 31 := by omega
  obtain ⟨q1, q2⟩ := o_clamp hk2
  obtain ⟨T', h', cA, X', e', E, A, O, stp⟩ := newR X cx.1 cx.2.1 cx.2.2.2.2.1 w1 w2 rfl (g := mkF m pc Ls (.int (Int32.ofNat k) :: st)) rfl (hb cx.2.2.1 hd) rfl q2 (cap := cap) (by rw [q1]; exact hcap) hcb hc hl
  subst e'
  refine (kk T' _ ⟨_, X', N, H.new E A.1 ⟨⟨A.2.1, A.2.2, ?_, by simpa using hk2, fun u hu => ?_⟩, O⟩⟩).via stp
  · show (Array.replicate (Int32.ofNat k).toNatClampNeg Value.null).toList = _; rw [q1, Array.toList_replicate]
  · rw [(List.mem_replicate.mp hu).2]; rfl
theorem g_aastoreO (cx : oCx p s m meth c Z own nm code maxL ret) (o : oOn p l e R s m args below meth c Z cells slots T L) {x : Int32} {C : String} {y : Addr} (i k : Nat) (hi : L[i]? = some (a, oArrR Z C vs)) (hk : x = Int32.ofNat k) (hlt : k < vs.length) (I : Ins Z Z.heap y C true) (hd : decode code pc = .ok (.aastore, 1)) (hp : pc + 1 = pc')
    (kk : ∀ T', oOn p l e R s m args below meth c Z cells slots T' (L.set i (a, oArrR Z C (vs.set k (.ref y)))) → oGo p e below K (T'.setTop (mkF m pc' Ls st))) : oGo p e below K (T.setTop (mkF m pc Ls (.ref y :: .int x :: .ref a :: st))) := by
  subst hp; obtain ⟨lc, X, N, H⟩ := o
  obtain ⟨q0, cl, hc, B⟩ := H.at_ hi
  obtain ⟨q1, q2⟩ := B.1.inb hk hlt
  obtain ⟨T', h', X', e', Wd, stp⟩ := stR X cx.1 cx.2.1 rfl (B.1.arr hc) q2 rfl (Sto.of (B.1.arr hc) B.2 (I.ext H.1)) (g := mkF m pc Ls (.ref y :: .int x :: .ref a :: st)) rfl rfl (hb cx.2.2.1 hd)
  subst e'
  rw [q1] at Wd X'
  exact (kk T' ⟨_, X', Fr.snoc X' N q0, H.wr hi Wd fun c' hc' => ⟨hc'.1.put rfl, hc'.2⟩⟩).via stp
theorem g_aaloadR (cx : oCx p s m meth c Z own nm code maxL ret) (o : oOn p l e R s m args below meth c Z cells slots T L) {x : Int32} {C : String} (i k : Nat) (hi : L[i]? = some (a, oArrR Z C vs)) (hk : x = Int32.ofNat k) (hv : vs[k]? = some v) (hd : decode code pc = .ok (.aaload, 1)) (hp : pc + 1 = pc')
    (kk : oGo p e below K (T.setTop (mkF m pc' Ls (v :: st)))) : oGo p e below K (T.setTop (mkF m pc Ls (.int x :: .ref a :: st))) := by
  subst hp; obtain ⟨lc, X, N, H⟩ := o
  obtain ⟨-, cl, hc, B⟩ := H.at_ hi
  obtain ⟨q1, q2⟩ := B.1.inb hk (List.getElem?_eq_some_iff.mp hv).1
  exact kk.via fun t q => X.aaload cx.1 hc (State.isArrayOf_alike cx.2.1.alike B.1.1) rfl B.1.2.1 q2 (by rw [q1]; exact B.1.get hv) (g := mkF m pc Ls (.int x :: .ref a :: st)) rfl rfl (hb cx.2.2.1 hd) t q
theorem g_acmp_ne (cx : oCx p s m meth c Z own nm code maxL ret) (o : oOn p l e R s m args below meth c Z cells slots T L) {x y : Value} {off : Int} (hx : x.isRef = true) (hy : y.isRef = true) (hd : decode code pc = .ok (.if_acmp .ne off, 3)) (ho : 0 ≤ (pc : Int) + off) (hp' : ((pc : Int) + off).toNat = pc') (hp : pc + 3 = pc2)
    (ky : ¬ x = y → oGo p e below K (T.setTop (mkF m pc' Ls st))) (kn : x = y → oGo p e below K (T.setTop (mkF m pc2 Ls st))) : oGo p e below K (T.setTop (mkF m pc Ls (y :: x :: st))) := by
  by_cases q : x = y
  · subst hp; exact (kn q).via fun t r => XT.acmpNo o.here cx.1 rfl (hb cx.2.2.1 hd) rfl hx hy (show decide (x ≠ y) = false from decide_eq_false fun z => z q) r
  · exact (ky q).via fun t r => XT.acmpYes o.here cx.1 rfl rfl (hb cx.2.2.1 hd) rfl hx hy (show decide (x ≠ y) = true from decide_eq_true q) ho hp' r
theorem g_acmp_eq (cx : oCx p s m meth c Z own nm code maxL ret) (o : oOn p l e R s m args below meth c Z cells slots T L) {x y : Value} {off : Int} (hx : x.isRef = true) (hy : y.isRef = true) (hd : decode code pc = .ok (.if_acmp .eq off, 3)) (ho : 0 ≤ (pc : Int) + off) (hp' : ((pc : Int) + off).toNat = pc') (hp : pc + 3 = pc2)
    (ky : x = y → oGo p e below K (T.setTop (mkF m pc' Ls st))) (kn : ¬ x = y → oGo p e below K (T.setTop (mkF m pc2 Ls st))) : oGo p e below K (T.setTop (mkF m pc Ls (y :: x :: st))) := by
  by_cases q : x = y
  · exact (ky q).via fun t r => XT.acmpYes o.here cx.1 rfl rfl (hb cx.2.2.1 hd) rfl hx hy (show decide (x = y) = true from decide_eq_true q) ho hp' r
  · subst hp; exact (kn q).via fun t r => XT.acmpNo o.here cx.1 rfl (hb cx.2.2.1 hd) rfl hx hy (show decide (x = y) = false from decide_eq_false q) r
theorem g_ifnull0 (cx : oCx p s m meth c Z own nm code maxL ret) (o : oOn p l e R s m args below meth c Z cells slots T L) {off : Int} (hd : decode code pc = .ok (.ifnull off, 3)) (ho : 0 ≤ (pc : Int) + off) (hp' : ((pc : Int) + off).toNat = pc')
    (kk : oGo p e below K (T.setTop (mkF m pc' Ls st))) : oGo p e below K (T.setTop (mkF m pc Ls (.null :: st))) := kk.via fun t r => XS.ifnullYes o.here cx.1 rfl rfl (hb cx.2.2.1 hd) rfl ho hp' r
theorem g_ifnull1 (cx : oCx p s m meth c Z own nm code maxL ret) (o : oOn p l e R s m args below meth c Z cells slots T L) {off : Int} {b : Addr} (hd : decode code pc = .ok (.ifnull off, 3)) (hp : pc + 3 = pc')
    (kk : oGo p e below K (T.setTop (mkF m pc' Ls st))) : oGo p e below K (T.setTop (mkF m pc Ls (.ref b :: st))) := by subst hp; exact kk.via fun t r => XS.ifnullNo o.here cx.1 rfl (hb cx.2.2.1 hd) rfl r
theorem g_ifnonnull1 (cx : oCx p s m meth c Z own nm code maxL ret) (o : oOn p l e R s m args below meth c Z cells slots T L) {off : Int} {b : Addr} (hd : decode code pc = .ok (.ifnonnull off, 3)) (ho : 0 ≤ (pc : Int) + off) (hp' : ((pc : Int) + off).toNat = pc')
    (kk : oGo p e below K (T.setTop (mkF m pc' Ls st))) : oGo p e below K (T.setTop (mkF m pc Ls (.ref b :: st))) := kk.via fun t r => XT.ifnonnullYes o.here cx.1 rfl rfl (hb cx.2.2.1 hd) rfl ho hp' r
theorem g_ifnonnull0 (cx : oCx p s m meth c Z own nm code maxL ret) (o : oOn p l e R s m args below meth c Z cells slots T L) {off : Int} (hd : decode code pc = .ok (.ifnonnull off, 3)) (hp : pc + 3 = pc')
    (kk : oGo p e below K (T.setTop (mkF m pc' Ls st))) : oGo p e below K (T.setTop (mkF m pc Ls (.null :: st))) := by subst hp; exact kk.via fun t r => XT.ifnonnullNo o.here cx.1 rfl (hb cx.2.2.1 hd) rfl r
theorem g_getstatic (cx : oCx p s m meth c Z own nm code maxL ret) (o : oOn p l e R s m args below meth c Z cells slots T L) {index : Nat} {O n d : String} (w : (Jvm.Cond.fieldLink own index O n d).before a0 Z = true) (hS : Sta Z Z.heap O n d v) (hd : decode code pc = .ok (.getstatic index, 3)) (hp : pc + 3 = pc')
    (kk : ∀ T', oOn p l e R s m args below meth c Z cells slots T' L → oGo p e below K (T'.setTop (mkF m pc' Ls (v :: st)))) : oGo p e below K (T.setTop (mkF m pc Ls st)) := by
  subst hp; obtain ⟨lc, X, N, H⟩ := o
  obtain ⟨T', X', e', stp⟩ := getS (host := "") X cx.1 cx.2.1 cx.2.2.2.2.1 w Via.refl rfl (hS.ext H.1) (g := mkF m pc Ls st) rfl (hb cx.2.2.1 hd)
  exact (kk T' ⟨lc, X', N, e' ▸ H⟩).via stp
theorem g_iaload (cx : oCx p s m meth c Z own nm code maxL ret) (o : oOn p l e R s m args below meth c Z cells slots T L) {x : Int32} (i k : Nat) (hi : L[i]? = some (a, oArr Z .int vs)) (hk : x = Int32.ofNat k) (hv : vs[k]? = some v) (hd : decode code pc = .ok (.iaload, 1)) (hp : pc + 1 = pc')
    (kk : oGo p e below K (T.setTop (mkF m pc' Ls (v :: st)))) : oGo p e below K (T.setTop (mkF m pc Ls (.int x :: .ref a :: st))) := by
  subst hp; obtain ⟨lc, X, N, H⟩ := o
  obtain ⟨-, cl, hc, B⟩ := H.at_ hi
  obtain ⟨q1, q2⟩ := B.inb hk (List.getElem?_eq_some_iff.mp hv).1
  exact kk.via fun t q => X.iaload cx.1 hc (State.isArrayOf_alike cx.2.1.alike B.1) B.2.1 q2 (by rw [q1]; exact B.get hv) (g := mkF m pc Ls (.int x :: .ref a :: st)) rfl rfl (hb cx.2.2.1 hd) t q
theorem g_laload (cx : oCx p s m meth c Z own nm code maxL ret) (o : oOn p l e R s m args below meth c Z cells slots T L) {x : Int32} (i k : Nat) (hi : L[i]? = some (a, oArr Z .long vs)) (hk : x = Int32.ofNat k) (hv : vs[k]? = some v) (hd : decode code pc = .ok (.laload, 1)) (hp : pc + 1 = pc')
    (kk : oGo p e below K (T.setTop (mkF m pc' Ls (v :: st)))) : oGo p e below K (T.setTop (mkF m pc Ls (.int x :: .ref a :: st))) := by
  subst hp; obtain ⟨lc, X, N, H⟩ := o
  obtain ⟨-, cl, hc, B⟩ := H.at_ hi
  obtain ⟨q1, q2⟩ := B.inb hk (List.getElem?_eq_some_iff.mp hv).1
  exact kk.via fun t q => X.laload cx.1 hc (State.isArrayOf_alike cx.2.1.alike B.1) B.2.1 q2 (by rw [q1]; exact B.get hv) (g := mkF m pc Ls (.int x :: .ref a :: st)) rfl rfl (hb cx.2.2.1 hd) t q
theorem g_daload (cx : oCx p s m meth c Z own nm code maxL ret) (o : oOn p l e R s m args below meth c Z cells slots T L) {x : Int32} (i k : Nat) (hi : L[i]? = some (a, oArr Z .double vs)) (hk : x = Int32.ofNat k) (hv : vs[k]? = some v) (hd : decode code pc = .ok (.daload, 1)) (hp : pc + 1 = pc')
    (kk : oGo p e below K (T.setTop (mkF m pc' Ls (v :: st)))) : oGo p e below K (T.setTop (mkF m pc Ls (.int x :: .ref a :: st))) := by
  subst hp; obtain ⟨lc, X, N, H⟩ := o
  obtain ⟨-, cl, hc, B⟩ := H.at_ hi
  obtain ⟨q1, q2⟩ := B.inb hk (List.getElem?_eq_some_iff.mp hv).1
  exact kk.via fun t q => X.daload cx.1 hc (State.isArrayOf_alike cx.2.1.alike B.1) B.2.1 q2 (by rw [q1]; exact B.get hv) (g := mkF m pc Ls (.int x :: .ref a :: st)) rfl rfl (hb cx.2.2.1 hd) t q
theorem g_zaload (cx : oCx p s m meth c Z own nm code maxL ret) (o : oOn p l e R s m args below meth c Z cells slots T L) {x : Int32} (i k : Nat) (hi : L[i]? = some (a, oArr Z .boolean vs)) (hk : x = Int32.ofNat k) (hv : vs[k]? = some v) (hd : decode code pc = .ok (.baload, 1)) (hp : pc + 1 = pc')
    (kk : oGo p e below K (T.setTop (mkF m pc' Ls (v :: st)))) : oGo p e below K (T.setTop (mkF m pc Ls (.int x :: .ref a :: st))) := by
  subst hp; obtain ⟨lc, X, N, H⟩ := o
  obtain ⟨-, cl, hc, B⟩ := H.at_ hi
  obtain ⟨q1, q2⟩ := B.inb hk (List.getElem?_eq_some_iff.mp hv).1
  exact kk.via fun t q => X.baloadBooleans cx.1 hc (State.isArrayOf_alike cx.2.1.alike B.1) B.2.1 q2 (by rw [q1]; exact B.get hv) (g := mkF m pc Ls (.int x :: .ref a :: st)) rfl rfl (hb cx.2.2.1 hd) t q
theorem g_aaload (cx : oCx p s m meth c Z own nm code maxL ret) (o : oOn p l e R s m args below meth c Z cells slots T L) {x : Int32} {ty : FieldType} (hty : ty.isReference = true) (i k : Nat) (hi : L[i]? = some (a, oArr Z ty vs)) (hk : x = Int32.ofNat k) (hv : vs[k]? = some v) (hd : decode code pc = .ok (.aaload, 1)) (hp : pc + 1 = pc')
    (kk : oGo p e below K (T.setTop (mkF m pc' Ls (v :: st)))) : oGo p e below K (T.setTop (mkF m pc Ls (.int x :: .ref a :: st))) := by
  subst hp; obtain ⟨lc, X, N, H⟩ := o
  obtain ⟨-, cl, hc, B⟩ := H.at_ hi
  obtain ⟨q1, q2⟩ := B.inb hk (List.getElem?_eq_some_iff.mp hv).1
  exact kk.via fun t q => X.aaload cx.1 hc (State.isArrayOf_alike cx.2.1.alike B.1) hty B.2.1 q2 (by rw [q1]; exact B.get hv) (g := mkF m pc Ls (.int x :: .ref a :: st)) rfl rfl (hb cx.2.2.1 hd) t q
theorem g_iastore (cx : oCx p s m meth c Z own nm code maxL ret) (o : oOn p l e R s m args below meth c Z cells slots T L) {x : Int32} {y : Int32} (i k : Nat) (hi : L[i]? = some (a, oArr Z .int vs)) (hk : x = Int32.ofNat k) (hlt : k < vs.length) (hd : decode code pc = .ok (.iastore, 1)) (hp : pc + 1 = pc')
    (kk : ∀ T', oOn p l e R s m args below meth c Z cells slots T' (L.set i (a, oArr Z .int (vs.set k (.int y)))) → oGo p e below K (T'.setTop (mkF m pc' Ls st))) : oGo p e below K (T.setTop (mkF m pc Ls (.int y :: .int x :: .ref a :: st))) := by
  subst hp; obtain ⟨lc, X, N, H⟩ := o
  obtain ⟨q0, cl, hc, B⟩ := H.at_ hi
  obtain ⟨q1, q2⟩ := B.inb hk hlt
  obtain ⟨T', h', X', e', Wd, stp⟩ := stI X cx.1 cx.2.1 rfl (B.arr hc) q2 (g := mkF m pc Ls (.int y :: .int x :: .ref a :: st)) rfl rfl (hb cx.2.2.1 hd)
  subst e'
  rw [q1] at Wd X'
  exact (kk T' ⟨_, X', Fr.snoc X' N q0, H.wr hi Wd fun c' hc' => hc'.put rfl⟩).via stp
theorem g_lastore (cx : oCx p s m meth c Z own nm code maxL ret) (o : oOn p l e R s m args below meth c Z cells slots T L) {x : Int32} {y : Int64} (i k : Nat) (hi : L[i]? = some (a, oArr Z .long vs)) (hk : x = Int32.ofNat k) (hlt : k < vs.length) (hd : decode code pc = .ok (.lastore, 1)) (hp : pc + 1 = pc')
    (kk : ∀ T', oOn p l e R s m args below meth c Z cells slots T' (L.set i (a, oArr Z .long (vs.set k (.long y)))) → oGo p e below K (T'.setTop (mkF m pc' Ls st))) : oGo p e below K (T.setTop (mkF m pc Ls (.long y :: .int x :: .ref a :: st))) := by
  subst hp; obtain ⟨lc, X, N, H⟩ := o
  obtain ⟨q0, cl, hc, B⟩ := H.at_ hi
  obtain ⟨q1, q2⟩ := B.inb hk hlt
  obtain ⟨T', h', X', e', Wd, stp⟩ := stJ X cx.1 cx.2.1 rfl (B.arr hc) q2 (g := mkF m pc Ls (.long y :: .int x :: .ref a :: st)) rfl rfl (hb cx.2.2.1 hd)
  subst e'
  rw [q1] at Wd X'
  exact (kk T' ⟨_, X', Fr.snoc X' N q0, H.wr hi Wd fun c' hc' => hc'.put rfl⟩).via stp
theorem g_dastore (cx : oCx p s m meth c Z own nm code maxL ret) (o : oOn p l e R s m args below meth c Z cells slots T L) {x : Int32} {y : UInt64} (i k : Nat) (hi : L[i]? = some (a, oArr Z .double vs)) (hk : x = Int32.ofNat k) (hlt : k < vs.length) (hd : decode code pc = .ok (.dastore, 1)) (hp : pc + 1 = pc')
    (kk : ∀ T', oOn p l e R s m args below meth c Z cells slots T' (L.set i (a, oArr Z .double (vs.set k (.double y)))) → oGo p e below K (T'.setTop (mkF m pc' Ls st))) : oGo p e below K (T.setTop (mkF m pc Ls (.double y :: .int x :: .ref a :: st))) := by
  subst hp; obtain ⟨lc, X, N, H⟩ := o
  obtain ⟨q0, cl, hc, B⟩ := H.at_ hi
  obtain ⟨q1, q2⟩ := B.inb hk hlt
  obtain ⟨T', h', X', e', Wd, stp⟩ := stD X cx.1 cx.2.1 rfl (B.arr hc) q2 (g := mkF m pc Ls (.double y :: .int x :: .ref a :: st)) rfl rfl (hb cx.2.2.1 hd)
  subst e'
  rw [q1] at Wd X'
  exact (kk T' ⟨_, X', Fr.snoc X' N q0, H.wr hi Wd fun c' hc' => hc'.put rfl⟩).via stp
theorem g_zastore (cx : oCx p s m meth c Z own nm code maxL ret) (o : oOn p l e R s m args below meth c Z cells slots T L) {x : Int32} {y : Int32} (i k : Nat) (hi : L[i]? = some (a, oArr Z .boolean vs)) (hk : x = Int32.ofNat k) (hlt : k < vs.length) (hd : decode code pc = .ok (.bastore, 1)) (hp : pc + 1 = pc')
    (kk : ∀ T', oOn p l e R s m args below meth c Z cells slots T' (L.set i (a, oArr Z .boolean (vs.set k (.int (nar .boolean y))))) → oGo p e below K (T'.setTop (mkF m pc' Ls st))) : oGo p e below K (T.setTop (mkF m pc Ls (.int y :: .int x :: .ref a :: st))) := by
  subst hp; obtain ⟨lc, X, N, H⟩ := o
  obtain ⟨q0, cl, hc, B⟩ := H.at_ hi
  obtain ⟨q1, q2⟩ := B.inb hk hlt
  obtain ⟨T', h', X', e', Wd, stp⟩ := stZ X cx.1 cx.2.1 rfl (B.arr hc) q2 (g := mkF m pc Ls (.int y :: .int x :: .ref a :: st)) rfl rfl (hb cx.2.2.1 hd)
  subst e'
  rw [q1] at Wd X'
  exact (kk T' ⟨_, X', Fr.snoc X' N q0, H.wr hi Wd fun c' hc' => hc'.put (fits_nar_bool y)⟩).via stp
theorem g_static (cx : oCx p s m meth c Z own nm code maxL ret) (o : oOn p l e R s m args below meth c Z cells slots T L) {index : Nat} {y : MethodName} {code' : ByteArray} {maxL' : Nat} {ret' : Option FieldType} {rm : Room} {Q : Option Value → List oEnt → Prop} {as : List Value} (w1 : (Jvm.Cond.methodLink own index y).before a0 Z = true) (w2 : (Jvm.Cond.static y).before a0 Z = true) (w3 : (Jvm.Cond.initialized y.cls).before a0 Z = true) (w4 : (Jvm.Cond.code y code' maxL' ret').before a0 Z = true)
    (hM : oMeets l Z y code' maxL' ret' rm as L Q) {st0 rest : List Value} (hst : st0 = as.reverse ++ rest) {ps : List FieldType} {rr : Option FieldType} (pd : parseMethodDescriptor y.desc = some ⟨ps, rr⟩) (hln : as.length = ps.length) (hy : y.cls ≠ "java/lang/invoke/MethodHandle" ∧ y.cls ≠ "java/lang/invoke/VarHandle")
    (hsz : Ls.size = maxL) (W : Nat) (hW : (rest.map fun v => v.category).sum ≤ W) (hf : rm.frames + 1 ≤ R.frames) (hl : W + (maxL' + 11) + rm.locals ≤ R.locals) (hc : cells + rm.cells ≤ R.cells) (hs : slots + rm.slots ≤ R.slots) (hd : decode code pc = .ok (.invokestatic index, 3)) (hp : pc + 3 = pc')
    (kk : ∀ T' v L', Q v L' → oOn p l e R s m args below meth c Z (cells + rm.cells) (slots + rm.slots) T' L' → oGo p e below K (T'.setTop (mkF m pc' Ls (v.toList ++ rest)))) : oGo p e below K (T.setTop (mkF m pc Ls st0)) := by
  subst hp hst; obtain ⟨lc, X, N, H⟩ := o
  obtain ⟨v, _, ⟨T', lc', k', n'⟩, -, X', ⟨Lc, hQ, l', y', z'⟩, stp⟩ := Jvm.LawKit.callS X cx.1 (y := y) cx.2.2.2.2.1 (mvT cx.2.1 w1) (mvT cx.2.1 w2) (mvT cx.2.1 w3) (mvT cx.2.1 w4) hy (backOf (W := W) (Q := fun v hp Lc => Fr Z.heap.size Lc ∧ ∃ L', oHp Z hp L' ∧ Q v L') (hM [] T.heap H) cx.2.1 w4 w3 hf hl) (g := mkF m pc Ls (as.reverse ++ rest)) rfl (hsz.trans cx.2.2.2.1.symm) (argsL := as) (rest := rest) (lenOf pd hln) rfl (by show 2 * 0 + _ ≤ _; omega) (hb cx.2.2.1 hd) (fun _ _ => ⟨rfl, rfl, hc, hs⟩)
  dsimp only [Pt.U, Pt.locs, Pt.cells, Pt.slots] at X' l' y' z' stp hQ
  subst l' y' z'
  obtain ⟨N', L', H', q⟩ := hQ
  exact (kk T' v L' q ⟨_, X', Fr.app N N', H'⟩).via stp
theorem g_special (cx : oCx p s m meth c Z own nm code maxL ret) (o : oOn p l e R s m args below meth c Z cells slots T L) {index : Nat} {y : MethodName} {code' : ByteArray} {maxL' : Nat} {rm : Room} {Q : Option Value → List oEnt → Prop} {as : List Value} (hy1 : y.name = "<init>") (w1 : (Jvm.Cond.methodLink own index y).before a0 Z = true) (w2 : (Jvm.Cond.instanceMethod y).before a0 Z = true) (w3 : (Jvm.Cond.initialized y.cls).before a0 Z = true) (w4 : (Jvm.Cond.code y code' maxL' none).before a0 Z = true)
    (hM : oMeets l Z y code' maxL' none rm (.ref a :: as) L Q) {st0 rest : List Value} (hst : st0 = as.reverse ++ .ref a :: rest) {ps : List FieldType} {rr : Option FieldType} (pd : parseMethodDescriptor y.desc = some ⟨ps, rr⟩) (hln : as.length = ps.length) (hy : y.cls ≠ "java/lang/invoke/MethodHandle" ∧ y.cls ≠ "java/lang/invoke/VarHandle")
    (hsz : Ls.size = maxL) (W : Nat) (hW : (rest.map fun v => v.category).sum ≤ W) (hf : rm.frames + 1 ≤ R.frames) (hl : W + (maxL' + 11) + rm.locals ≤ R.locals) (hc : cells + rm.cells ≤ R.cells) (hs : slots + rm.slots ≤ R.slots) (hd : decode code pc = .ok (.invokespecial index, 3)) (hp : pc + 3 = pc')
    (kk : ∀ T' v L', Q v L' → oOn p l e R s m args below meth c Z (cells + rm.cells) (slots + rm.slots) T' L' → oGo p e below K (T'.setTop (mkF m pc' Ls (v.toList ++ rest)))) : oGo p e below K (T.setTop (mkF m pc Ls st0)) := by
  subst hp hst; obtain ⟨lc, X, N, H⟩ := o
  obtain ⟨v, _, ⟨T', lc', k', n'⟩, -, X', ⟨Lc, hQ, l', y', z'⟩, stp⟩ := X.specialBack cx.1 (y := y) hy1 cx.2.2.2.2.1 (mvT cx.2.1 w1) (mvT cx.2.1 w2) (mvT cx.2.1 w4) hy (backOf (W := W) (Q := fun v hp Lc => Fr Z.heap.size Lc ∧ ∃ L', oHp Z hp L' ∧ Q v L') (hM [] T.heap H) cx.2.1 w4 w3 hf hl) (g := mkF m pc Ls (as.reverse ++ .ref a :: rest)) rfl (hsz.trans cx.2.2.2.1.symm) (Steps.refl _) (a := a) (argsL := as) (rest := rest) (lenOf pd hln) rfl (by show 2 * 0 + _ ≤ _; omega) (hb cx.2.2.1 hd) (fun _ _ => ⟨rfl, rfl, hc, hs⟩)
  dsimp only [Pt.U, Pt.locs, Pt.cells, Pt.slots] at X' l' y' z' stp hQ
  subst l' y' z'
  obtain ⟨N', L', H', q⟩ := hQ
  exact (kk T' v L' q ⟨_, X', Fr.app N N', H'⟩).via fun t r => stp.trans r
theorem g_virtual (cx : oCx p s m meth c Z own nm code maxL ret) (o : oOn p l e R s m args below meth c Z cells slots T L) {index : Nat} {C : String} {y z : MethodName} {code' : ByteArray} {maxL' : Nat} {ret' : Option FieldType} {rm : Room} {Q : Option Value → List oEnt → Prop} {as : List Value} {fs : oFs} (w1 : (Jvm.Cond.methodLink own index y).before a0 Z = true) (w2 : (Jvm.Cond.declares y).before a0 Z = true) (hnf : NotFace s y) (w5 : (Jvm.Cond.selects C y z).before a0 Z = true) (w6 : (Jvm.Cond.instanceMethod z).before a0 Z = true) (w3 : (Jvm.Cond.initialized z.cls).before a0 Z = true) (w4 : (Jvm.Cond.code z code' maxL' ret').before a0 Z = true)
    (i : Nat) (hi : L[i]? = some (a, oObj Z a0 C fs)) (hM : oMeets l Z z code' maxL' ret' rm (.ref a :: as) L Q) {st0 rest : List Value} (hst : st0 = as.reverse ++ .ref a :: rest) {ps : List FieldType} {rr : Option FieldType} (pd : parseMethodDescriptor y.desc = some ⟨ps, rr⟩) (hln : as.length = ps.length) (hy : y.cls ≠ "java/lang/invoke/MethodHandle" ∧ y.cls ≠ "java/lang/invoke/VarHandle")
    (hsz : Ls.size = maxL) (W : Nat) (hW : (rest.map fun v => v.category).sum ≤ W) (hf : rm.frames + 1 ≤ R.frames) (hl : W + (maxL' + 11) + rm.locals ≤ R.locals) (hc : cells + rm.cells ≤ R.cells) (hs : slots + rm.slots ≤ R.slots) (hd : decode code pc = .ok (.invokevirtual index, 3)) (hp : pc + 3 = pc')
    (kk : ∀ T' v L', Q v L' → oOn p l e R s m args below meth c Z (cells + rm.cells) (slots + rm.slots) T' L' → oGo p e below K (T'.setTop (mkF m pc' Ls (v.toList ++ rest)))) : oGo p e below K (T.setTop (mkF m pc Ls st0)) := by
  subst hp hst; obtain ⟨lc, X, N, H⟩ := o
  obtain ⟨-, cl, hcl, B⟩ := H.at_ hi
  obtain ⟨cq, kq, qa, qb, qc⟩ := isOf cx.2.1 (T := T) rfl (B.1.exa hcl)
  obtain ⟨v, _, ⟨T', lc', k', n'⟩, -, X', ⟨Lc, hQ, l', y', z'⟩, stp⟩ := X.virtualBack cx.1 (y := y) (z := z) cx.2.2.2.2.1 (mvT cx.2.1 w1) (mvT cx.2.1 w2) hnf (mvT cx.2.1 w5) (mvT cx.2.1 w6) hy (backOf (W := W) (Q := fun v hp Lc => Fr Z.heap.size Lc ∧ ∃ L', oHp Z hp L' ∧ Q v L') (hM [] T.heap H) cx.2.1 w4 w3 hf hl) qa qc (g := mkF m pc Ls (as.reverse ++ .ref a :: rest)) rfl (hsz.trans cx.2.2.2.1.symm) (Steps.refl _) (argsL := as) (rest := rest) (lenOf pd hln) rfl (by show 2 * 0 + _ ≤ _; omega) (hb cx.2.2.1 hd) (fun _ _ => ⟨rfl, rfl, hc, hs⟩)
  dsimp only [Pt.U, Pt.locs, Pt.cells, Pt.slots] at X' l' y' z' stp hQ
  subst l' y' z'
  obtain ⟨N', L', H', q⟩ := hQ
  exact (kk T' v L' q ⟨_, X', Fr.app N N', H'⟩).via fun t r => stp.trans r
theorem g_private (cx : oCx p s m meth c Z own nm code maxL ret) (o : oOn p l e R s m args below meth c Z cells slots T L) {index : Nat} {C : String} {y y0 z0 : MethodName} {code' : ByteArray} {maxL' : Nat} {ret' : Option FieldType} {rm : Room} {Q : Option Value → List oEnt → Prop} {as : List Value} {fs : oFs} (w1 : (Jvm.Cond.methodLink own index y).before a0 Z = true) (w5 : (Jvm.Cond.selects C y0 z0).before a0 Z = true) (hzc : z0.cls = y.cls) (w6 : (Jvm.Cond.instanceMethod y).before a0 Z = true) (w7 : (Jvm.Cond.privateMethod y).before a0 Z = true) (w3 : (Jvm.Cond.initialized y.cls).before a0 Z = true) (w4 : (Jvm.Cond.code y code' maxL' ret').before a0 Z = true)
    (i : Nat) (hi : L[i]? = some (a, oObj Z a0 C fs)) (hM : oMeets l Z y code' maxL' ret' rm (.ref a :: as) L Q) {st0 rest : List Value} (hst : st0 = as.reverse ++ .ref a :: rest) {ps : List FieldType} {rr : Option FieldType} (pd : parseMethodDescriptor y.desc = some ⟨ps, rr⟩) (hln : as.length = ps.length) (hy : y.cls ≠ "java/lang/invoke/MethodHandle" ∧ y.cls ≠ "java/lang/invoke/VarHandle")
    (hsz : Ls.size = maxL) (W : Nat) (hW : (rest.map fun v => v.category).sum ≤ W) (hf : rm.frames + 1 ≤ R.frames) (hl : W + (maxL' + 11) + rm.locals ≤ R.locals) (hc : cells + rm.cells ≤ R.cells) (hs : slots + rm.slots ≤ R.slots) (hd : decode code pc = .ok (.invokevirtual index, 3)) (hp : pc + 3 = pc')
    (kk : ∀ T' v L', Q v L' → oOn p l e R s m args below meth c Z (cells + rm.cells) (slots + rm.slots) T' L' → oGo p e below K (T'.setTop (mkF m pc' Ls (v.toList ++ rest)))) : oGo p e below K (T.setTop (mkF m pc Ls st0)) := by
  subst hp hst; obtain ⟨lc, X, N, H⟩ := o
  obtain ⟨-, cl, hcl, B⟩ := H.at_ hi
  obtain ⟨cc, hcc, hob⟩ := (B.1.exa hcl).cell
  have hsel : (Jvm.Cond.selects y.cls y y).before args s = true := by
    obtain ⟨c2, r2, m2, -, -, q3, -, kP, hkP, hkPi⟩ := Cond.selects_spec (show (Jvm.Cond.selects C y0 z0).before args s = true from mvT cx.2.1 w5)
    exact selects_self_of_private (hzc ▸ findClass_of_methodNamed q3) hkP hkPi (Cond.privateMethod_at (args := args) (mvP cx.2.1 w7)) (mvT cx.2.1 w6) hy
  obtain ⟨v, _, ⟨T', lc', k', n'⟩, -, X', ⟨Lc, hQ, l', y', z'⟩, stp⟩ := X.privateBack cx.1 (y := y) cx.2.2.2.2.1 (mvT cx.2.1 w1) (mvT cx.2.1 w6) hsel (Cond.privateMethod_at (args := args) (mvP cx.2.1 w7)) (mvT cx.2.1 w4) hy (backOf (W := W) (Q := fun v hp Lc => Fr Z.heap.size Lc ∧ ∃ L', oHp Z hp L' ∧ Q v L') (hM [] T.heap H) cx.2.1 w4 w3 hf hl) (g := mkF m pc Ls (as.reverse ++ .ref a :: rest)) rfl (hsz.trans cx.2.2.2.1.symm) (Steps.refl _) hcc hob (argsL := as) (rest := rest) (lenOf pd hln) rfl (by show 2 * 0 + _ ≤ _; omega) (hb cx.2.2.1 hd) (fun _ _ => ⟨rfl, rfl, hc, hs⟩)
  dsimp only [Pt.U, Pt.locs, Pt.cells, Pt.slots] at X' l' y' z' stp hQ
  subst l' y' z'
  obtain ⟨N', L', H', q⟩ := hQ
  exact (kk T' v L' q ⟨_, X', Fr.app N N', H'⟩).via fun t r => stp.trans r
theorem g_virtualO (cx : oCx p s m meth c Z own nm code maxL ret) (o : oOn p l e R s m args below meth c Z cells slots T L) {index : Nat} {C : String} {y z : MethodName} {code' : ByteArray} {maxL' : Nat} {ret' : Option FieldType} {rm : Room} {Q : Option Value → List oEnt → Prop} {as : List Value} (w1 : (Jvm.Cond.methodLink own index y).before a0 Z = true) (w2 : (Jvm.Cond.declares y).before a0 Z = true) (hnf : NotFace s y) (w5 : (Jvm.Cond.selects C y z).before a0 Z = true) (w6 : (Jvm.Cond.instanceMethod z).before a0 Z = true) (w3 : (Jvm.Cond.initialized z.cls).before a0 Z = true) (w4 : (Jvm.Cond.code z code' maxL' ret').before a0 Z = true)
    (E : Exa Z Z.heap a C) (hM : oMeets l Z z code' maxL' ret' rm (.ref a :: as) L Q) {st0 rest : List Value} (hst : st0 = as.reverse ++ .ref a :: rest) {ps : List FieldType} {rr : Option FieldType} (pd : parseMethodDescriptor y.desc = some ⟨ps, rr⟩) (hln : as.length = ps.length) (hy : y.cls ≠ "java/lang/invoke/MethodHandle" ∧ y.cls ≠ "java/lang/invoke/VarHandle")
    (hsz : Ls.size = maxL) (W : Nat) (hW : (rest.map fun v => v.category).sum ≤ W) (hf : rm.frames + 1 ≤ R.frames) (hl : W + (maxL' + 11) + rm.locals ≤ R.locals) (hc : cells + rm.cells ≤ R.cells) (hs : slots + rm.slots ≤ R.slots) (hd : decode code pc = .ok (.invokevirtual index, 3)) (hp : pc + 3 = pc')
    (kk : ∀ T' v L', Q v L' → oOn p l e R s m args below meth c Z (cells + rm.cells) (slots + rm.slots) T' L' → oGo p e below K (T'.setTop (mkF m pc' Ls (v.toList ++ rest)))) : oGo p e below K (T.setTop (mkF m pc Ls st0)) := by
  subst hp hst; obtain ⟨lc, X, N, H⟩ := o
  obtain ⟨cq, kq, qa, qb, qc⟩ := isOf cx.2.1 (T := T) rfl (E.ext H.1)
  obtain ⟨v, _, ⟨T', lc', k', n'⟩, -, X', ⟨Lc, hQ, l', y', z'⟩, stp⟩ := X.virtualBack cx.1 (y := y) (z := z) cx.2.2.2.2.1 (mvT cx.2.1 w1) (mvT cx.2.1 w2) hnf (mvT cx.2.1 w5) (mvT cx.2.1 w6) hy (backOf (W := W) (Q := fun v hp Lc => Fr Z.heap.size Lc ∧ ∃ L', oHp Z hp L' ∧ Q v L') (hM [] T.heap H) cx.2.1 w4 w3 hf hl) qa qc (g := mkF m pc Ls (as.reverse ++ .ref a :: rest)) rfl (hsz.trans cx.2.2.2.1.symm) (Steps.refl _) (argsL := as) (rest := rest) (lenOf pd hln) rfl (by show 2 * 0 + _ ≤ _; omega) (hb cx.2.2.1 hd) (fun _ _ => ⟨rfl, rfl, hc, hs⟩)
  dsimp only [Pt.U, Pt.locs, Pt.cells, Pt.slots] at X' l' y' z' stp hQ
  subst l' y' z'
  obtain ⟨N', L', H', q⟩ := hQ
  exact (kk T' v L' q ⟨_, X', Fr.app N N', H'⟩).via fun t r => stp.trans r
theorem g_ret {ty : FieldType} (cx : oCx p s m meth c Z own nm code maxL (some ty)) (o : oOn p l e R s m args below meth c Z cells slots T L) {w : Value} {ins : Instr} {Q : Option Value → List oEnt → Prop} {C S : Nat} (hn : narrow ty w = w)
    (hi : (ins = .ireturn ∧ (ty = .int ∨ ty = .boolean ∨ ty = .byte ∨ ty = .char ∨ ty = .short) ∧ ∃ z, w = .int z) ∨ (ins = .lreturn ∧ ty = .long ∧ ∃ z, w = .long z) ∨ (ins = .dreturn ∧ ty = .double ∧ ∃ z, w = .double z) ∨ (ins = .freturn ∧ ty = .float ∧ ∃ z, w = .float z) ∨ (ins = .areturn ∧ ty.isReference = true ∧ w.isRef = true))
    (hd : decode code pc = .ok (ins, 1)) (hc : cells ≤ C) (hs : slots ≤ S) (hQ : Q (some w) L) : oGo p e below (oEnd s Z Q C S) (T.setTop (mkF m pc Ls (w :: st))) := by
  obtain ⟨lc, X, N, H⟩ := o
  have hlk := cx.2.2.2.2.2.2.2
  obtain ⟨fs, hr, hrun, hended, hW, hsame⟩ := X.leave (v := some w) (fun h => by rw [cx.2.2.2.2.2.2.1] at h; cases h) hlk
  exact ⟨_, _, retOut X cx.1 cx.2.2.2.2.2.2.1 hn hi (hb cx.2.2.1 hd) hr, hrun, hended, _, _, rfl, ⟨N, L, H, hQ⟩, ⟨_, rfl⟩, hW, hsame.mono hc hs⟩
theorem g_ireturn (cx : oCx p s m meth c Z own nm code maxL (some .int)) (o : oOn p l e R s m args below meth c Z cells slots T L) {z : Int32} {Q : Option Value → List oEnt → Prop} {C S : Nat} (hd : decode code pc = .ok (.ireturn, 1)) (hc : cells ≤ C) (hs : slots ≤ S) (hQ : Q (some (.int z)) L) : oGo p e below (oEnd s Z Q C S) (T.setTop (mkF m pc Ls (.int z :: st))) :=
  g_ret cx o rfl (Or.inl ⟨rfl, Or.inl rfl, z, rfl⟩) hd hc hs hQ
theorem g_ireturnZ (cx : oCx p s m meth c Z own nm code maxL (some .boolean)) (o : oOn p l e R s m args below meth c Z cells slots T L) {z : Int32} {Q : Option Value → List oEnt → Prop} {C S : Nat} (hd : decode code pc = .ok (.ireturn, 1)) (hz : z &&& 1 = z) (hc : cells ≤ C) (hs : slots ≤ S) (hQ : Q (some (.int z)) L) : oGo p e below (oEnd s Z Q C S) (T.setTop (mkF m pc Ls (.int z :: st))) :=
  g_ret cx o (show narrow .boolean (.int z) = .int z from congrArg Value.int hz) (Or.inl ⟨rfl, Or.inr (Or.inl rfl), z, rfl⟩) hd hc hs hQ
theorem g_dreturn (cx : oCx p s m meth c Z own nm code maxL (some .double)) (o : oOn p l e R s m args below meth c Z cells slots T L) {z : UInt64} {Q : Option Value → List oEnt → Prop} {C S : Nat} (hd : decode code pc = .ok (.dreturn, 1)) (hc : cells ≤ C) (hs : slots ≤ S) (hQ : Q (some (.double z)) L) : oGo p e below (oEnd s Z Q C S) (T.setTop (mkF m pc Ls (.double z :: st))) :=
  g_ret cx o rfl (Or.inr (Or.inr (Or.inl ⟨rfl, rfl, z, rfl⟩))) hd hc hs hQ
theorem g_lreturn (cx : oCx p s m meth c Z own nm code maxL (some .long)) (o : oOn p l e R s m args below meth c Z cells slots T L) {z : Int64} {Q : Option Value → List oEnt → Prop} {C S : Nat} (hd : decode code pc = .ok (.lreturn, 1)) (hc : cells ≤ C) (hs : slots ≤ S) (hQ : Q (some (.long z)) L) : oGo p e below (oEnd s Z Q C S) (T.setTop (mkF m pc Ls (.long z :: st))) :=
  g_ret cx o rfl (Or.inr (Or.inl ⟨rfl, rfl, z, rfl⟩)) hd hc hs hQ
theorem g_areturn {cn : String} (cx : oCx p s m meth c Z own nm code maxL (some (.object cn))) (o : oOn p l e R s m args below meth c Z cells slots T L) {w : Value} {Q : Option Value → List oEnt → Prop} {C S : Nat} (hw : w.isRef = true) (hd : decode code pc = .ok (.areturn, 1)) (hc : cells ≤ C) (hs : slots ≤ S) (hQ : Q (some w) L) : oGo p e below (oEnd s Z Q C S) (T.setTop (mkF m pc Ls (w :: st))) :=
  g_ret cx o (by rcases ref_cases hw with rfl | ⟨x, rfl⟩ <;> rfl) (Or.inr (Or.inr (Or.inr (Or.inr ⟨rfl, rfl, hw⟩)))) hd hc hs hQ
theorem g_return (cx : oCx p s m meth c Z own nm code maxL none) (o : oOn p l e R s m args below meth c Z cells slots T L) {Q : Option Value → List oEnt → Prop} {C S : Nat} (hd : decode code pc = .ok (.return_, 1)) (hc : cells ≤ C) (hs : slots ≤ S) (hQ : Q none L) : oGo p e below (oEnd s Z Q C S) (T.setTop (mkF m pc Ls [])) := by
  obtain ⟨lc, X, N, H⟩ := o
  have hlk := cx.2.2.2.2.2.2.2
  obtain ⟨fs, hr, hrun, hended, hW, hsame⟩ := X.leave (v := none) (fun _ => rfl) hlk
  exact ⟨_, _, X.returnOut cx.1 cx.2.2.2.2.2.2.1 (hb cx.2.2.1 hd) hr, hrun, hended, _, _, rfl, ⟨N, L, H, hQ⟩, ⟨_, rfl⟩, hW, hsame.mono hc hs⟩
end OwnRules

section OwnFP
open Jvm.FP
/-- a double's value, in units of 2^-1074 -/
abbrev oz (a : UInt64) : Int := Core.zval Core.b64 (Core.val64 a)
theorem o_sgT (c : Nat) : Core.signed true c = -(c : Int) := rfl
theorem o_sgF (c : Nat) : Core.signed false c = (c : Int) := rfl
theorem o_qmin : Core.b64.qmin = -1074 := Core.qmin_b64
theorem o_qmax : Core.b64.qmax = 971 := by decide
/-- N units are the value of some double -/
def oRep (N : Int) : Prop := ∃ V : Core.Datum, Core.fits Core.b64 V ∧ (∃ s c q, V = .fin s c q) ∧ Core.zval Core.b64 V = N
theorem oRep.ofC {N : Int} {c t : Nat} (h : N.natAbs = c * 2 ^ t) (hc : c < 2 ^ 53) (ht : t ≤ 2045) : oRep N := by
  have q1 := o_qmin
  have q2 := o_qmax
  obtain ⟨c', q', e1, e2⟩ := Core.round_exact Core.good_b64 (decide (N < 0)) (c := c) (q := (t : Int) + Core.b64.qmin) hc (by omega) (by omega)
  refine ⟨_, Core.round_fits Core.good_b64 (.fin (decide (N < 0)) c ((t : Int) + Core.b64.qmin)), ⟨_, c', q', e1⟩, ?_⟩
  rw [e1]
  show Core.signed (decide (N < 0)) (Core.inUnits c' q' Core.b64.qmin) = N
  rw [e2]
  have e3 : Core.inUnits c ((t : Int) + Core.b64.qmin) Core.b64.qmin = c * 2 ^ t := by
    show c * 2 ^ ((t : Int) + Core.b64.qmin - Core.b64.qmin).toNat = c * 2 ^ t
    rw [show ((t : Int) + Core.b64.qmin - Core.b64.qmin).toNat = t by omega]
  rw [e3, ← h]
  by_cases hn : N < 0
  · rw [decide_eq_true hn]; show -(N.natAbs : Int) = N; omega
  · rw [decide_eq_false hn]; show (N.natAbs : Int) = N; omega
theorem oRep.of {N : Int} {c t : Nat} (h : N.natAbs = c * 2 ^ t) (hc : c ≤ 2 ^ 53) (ht : t ≤ 2044) : oRep N := by
  rcases Nat.lt_or_eq_of_le hc with q | q
  · exact oRep.ofC h q (by omega)
  · exact oRep.ofC (c := 2 ^ 52) (t := t + 1) (by rw [h, q, Nat.pow_succ 2 t, ← Nat.mul_assoc, Nat.mul_right_comm]) (by decide) (by omega)
theorem o_val_fin {D V : Core.Datum} (hn : D ≠ .nan) (hV : Core.fits Core.b64 V) (hv : ∃ s c q, V = .fin s c q) (e : Core.zval Core.b64 D = Core.zval Core.b64 V) : ∃ s c q, D = .fin s c q := by
  cases D with
  | nan => exact absurd rfl hn
  | fin s c q => exact ⟨s, c, q, rfl⟩
  | inf s =>
    obtain ⟨s', c, q, rfl⟩ := hv
    have h1 := Core.zmag_lt_top Core.good_b64 hV
    have h2 : (Core.signed s (Core.zmag Core.b64 (.inf s))).natAbs = (Core.signed s' (Core.zmag Core.b64 (.fin s' c q))).natAbs := congrArg Int.natAbs e
    rw [Core.natAbs_signed, Core.natAbs_signed] at h2
    exact absurd h2 (Nat.ne_of_gt h1)
theorem o_fin_nn {a : UInt64} (h : Core.DFin a) : NoNaN64 a := val64_no.mpr fun q => by
  obtain ⟨s, c, q', e⟩ := h; rw [q] at e; cases e
theorem o_fin_ne {a : UInt64} (h : Core.DFin a) : Core.val64 a ≠ .nan := val64_no.mp (o_fin_nn h)
theorem o_ne_of_fin {V : Core.Datum} (h : ∃ s c q, V = Core.Datum.fin s c q) : V ≠ .nan := by obtain ⟨_, _, _, rfl⟩ := h; exact Core.Datum.noConfusion
theorem o_sum_ne {x y : Core.Datum} (hx : ∃ s c q, x = Core.Datum.fin s c q) (hy : ∃ s c q, y = Core.Datum.fin s c q) : Core.round Core.b64 (Core.exactSum x y) ≠ .nan := by
  obtain ⟨s, c, q, rfl⟩ := hx; obtain ⟨t, d, r, rfl⟩ := hy; exact Core.roundRatio_ne_nan _ _ _ _ _
theorem o_dadd {a b : UInt64} (ha : Core.DFin a) (hb : Core.DFin b) (h : oRep (oz a + oz b)) : Core.DFin (FP.dadd a b) ∧ oz (FP.dadd a b) = oz a + oz b := by
  obtain ⟨V, fV, vV, eV⟩ := h
  have e : Core.val64 (FP.dadd a b) = Core.round Core.b64 (Core.exactSum (Core.val64 a) (Core.val64 b)) := Core.val64_dadd a b
  have l := Core.sum_le Core.good_b64 ha hb (Core.val64_fits a) (Core.val64_fits b) fV (o_ne_of_fin vV) (by rw [eV]; exact Int.le_refl _)
  have g := Core.sum_ge Core.good_b64 ha hb (Core.val64_fits a) (Core.val64_fits b) fV (o_ne_of_fin vV) (by rw [eV]; exact Int.le_refl _)
  have ez := Int.le_antisymm l g
  refine ⟨?_, ?_⟩
  · show ∃ s c q, Core.val64 (FP.dadd a b) = .fin s c q
    rw [e]; exact o_val_fin (o_sum_ne ha hb) fV vV ez
  · show Core.zval Core.b64 (Core.val64 (FP.dadd a b)) = _
    rw [e, ez, eV]
theorem o_neg_fin {x : Core.Datum} (h : ∃ s c q, x = Core.Datum.fin s c q) : ∃ s c q, Core.negate x = Core.Datum.fin s c q := by obtain ⟨s, c, q, rfl⟩ := h; exact ⟨_, _, _, rfl⟩
theorem o_dsub {a b : UInt64} (ha : Core.DFin a) (hb : Core.DFin b) (h : oRep (oz a - oz b)) : Core.DFin (FP.dsub a b) ∧ oz (FP.dsub a b) = oz a - oz b := by
  obtain ⟨V, fV, vV, eV⟩ := h
  have e : Core.val64 (FP.dsub a b) = Core.round Core.b64 (Core.exactSum (Core.val64 a) (Core.negate (Core.val64 b))) := Core.val64_dsub a b
  have hb' := o_neg_fin hb
  have zb : Core.zval Core.b64 (Core.val64 a) + Core.zval Core.b64 (Core.negate (Core.val64 b)) = Core.zval Core.b64 V := by rw [Core.zval_negate, eV]; exact (Int.sub_eq_add_neg).symm
  have l := Core.sum_le Core.good_b64 ha hb' (Core.val64_fits a) (Core.negate_fits (Core.val64_fits b)) fV (o_ne_of_fin vV) (Int.le_of_eq zb)
  have g := Core.sum_ge Core.good_b64 ha hb' (Core.val64_fits a) (Core.negate_fits (Core.val64_fits b)) fV (o_ne_of_fin vV) (Int.le_of_eq zb.symm)
  have ez := Int.le_antisymm l g
  refine ⟨?_, ?_⟩
  · show ∃ s c q, Core.val64 (FP.dsub a b) = .fin s c q
    rw [e]; exact o_val_fin (o_sum_ne ha hb') fV vV ez
  · show Core.zval Core.b64 (Core.val64 (FP.dsub a b)) = _
    rw [e, ez, eV]
theorem o_two : ((2 ^ (Core.b64.qmin - 2 * Core.b64.qmin).toNat : Nat) : Int) = (Core.one64 : Int) := by
  rw [show (Core.b64.qmin - 2 * Core.b64.qmin) = -Core.b64.qmin by omega, Core.pow_qmin64]
theorem o_dmul {a b : UInt64} {N : Int} (ha : Core.DFin a) (hb : Core.DFin b) (hN : oz a * oz b = N * (Core.one64 : Int)) (h : oRep N) : Core.DFin (FP.dmul a b) ∧ oz (FP.dmul a b) = N := by
  obtain ⟨V, fV, vV, eV⟩ := h
  have e : Core.val64 (FP.dmul a b) = Core.round Core.b64 (Core.exactProduct (Core.val64 a) (Core.val64 b)) := Core.val64_dmul a b
  have fa := Core.val64_fits a
  have fb := Core.val64_fits b
  obtain ⟨s, c, q, h1⟩ := ha
  obtain ⟨t, d, r, h2⟩ := hb
  have hN' : Core.zval Core.b64 (Core.val64 a) * Core.zval Core.b64 (Core.val64 b) = N * (Core.one64 : Int) := hN
  rw [h1] at fa hN' e
  rw [h2] at fb hN' e
  obtain ⟨p1, p2, p3⟩ := Core.product_units fa fb
  rw [p1] at e
  have key : Core.signed (s != t) (Core.inUnits (c * d) (q + r) (2 * Core.b64.qmin)) = Core.zval Core.b64 V * ((2 ^ (Core.b64.qmin - 2 * Core.b64.qmin).toNat : Nat) : Int) := by
    rw [p3, Core.signed_xor, o_two, eV]; exact hN'
  have q0 := Core.qmin_neg Core.good_b64
  have l := Core.zval_round_le Core.good_b64 fV (o_ne_of_fin vV) (e0 := 2 * Core.b64.qmin) (by omega) p2 (Int.le_of_eq key)
  have g := Core.zval_round_ge Core.good_b64 fV (o_ne_of_fin vV) (e0 := 2 * Core.b64.qmin) (by omega) p2 (Int.le_of_eq key.symm)
  have ez := Int.le_antisymm l g
  refine ⟨?_, ?_⟩
  · show ∃ s c q, Core.val64 (FP.dmul a b) = .fin s c q
    rw [e]; exact o_val_fin (Core.roundRatio_ne_nan _ _ _ _ _) fV vV ez
  · show Core.zval Core.b64 (Core.val64 (FP.dmul a b)) = _
    rw [e, ez, eV]
/-! the quotient, by magnitudes -/
theorem o_quot {a b : UInt64} (ha : Core.DFin a) (hb : Core.DFin b) (hz : oz b ≠ 0) : ∃ s t c q d r, Core.val64 a = .fin s c q ∧ Core.val64 b = .fin t d r ∧ d ≠ 0 ∧ Core.val64 (FP.ddiv a b) = Core.roundRatio Core.b64 (s != t) c d (q - r) := by
  obtain ⟨s, c, q, h1⟩ := ha
  obtain ⟨t, d, r, h2⟩ := hb
  have hd : d ≠ 0 := fun e => hz (by show Core.zval Core.b64 (Core.val64 b) = 0; rw [h2, e]; show Core.signed t (0 * _) = 0; rw [Nat.zero_mul]; cases t <;> rfl)
  refine ⟨s, t, c, q, d, r, h1, h2, hd, ?_⟩
  have e : Core.val64 (FP.ddiv a b) = Core.quotient Core.b64 (Core.val64 a) (Core.val64 b) := Core.val64_ddiv a b
  rw [e, h1, h2]
  show (if d = 0 then _ else _) = _
  rw [if_neg hd]
theorem o_units {c d : Nat} {q r e0 : Int} {N : Nat} (fq : Core.b64.qmin ≤ q) (fr : Core.b64.qmin ≤ r) (h0 : e0 ≤ Core.b64.qmin) (h1 : e0 ≤ q - r) :
    (Core.inUnits c (q - r) e0 ≤ N * 2 ^ (Core.b64.qmin - e0).toNat * d ↔ Core.inUnits c q Core.b64.qmin * Core.one64 ≤ N * Core.inUnits d r Core.b64.qmin) ∧
    (N * 2 ^ (Core.b64.qmin - e0).toNat * d ≤ Core.inUnits c (q - r) e0 ↔ N * Core.inUnits d r Core.b64.qmin ≤ Core.inUnits c q Core.b64.qmin * Core.one64) := by
  have q0 := o_qmin
  have e1 : Core.one64 = 2 ^ 1074 := rfl
  have hp : 0 < 2 ^ (r - e0 - Core.b64.qmin).toNat := Nat.two_pow_pos _
  have hp2 : 0 < 2 ^ (Core.b64.qmin - e0).toNat := Nat.two_pow_pos _
  have A : Core.inUnits c (q - r) e0 * 2 ^ (r - Core.b64.qmin).toNat = Core.inUnits c q Core.b64.qmin * Core.one64 * 2 ^ (Core.b64.qmin - e0).toNat := by
    show c * 2 ^ (q - r - e0).toNat * 2 ^ (r - Core.b64.qmin).toNat = c * 2 ^ (q - Core.b64.qmin).toNat * Core.one64 * 2 ^ (Core.b64.qmin - e0).toNat
    rw [e1, Nat.mul_assoc, ← Nat.pow_add, Nat.mul_assoc, Nat.mul_assoc, ← Nat.pow_add, ← Nat.pow_add]
    congr 2
    omega
  have B : N * 2 ^ (Core.b64.qmin - e0).toNat * d * 2 ^ (r - Core.b64.qmin).toNat = N * Core.inUnits d r Core.b64.qmin * 2 ^ (Core.b64.qmin - e0).toNat := by
    show _ = N * (d * 2 ^ (r - Core.b64.qmin).toNat) * 2 ^ (Core.b64.qmin - e0).toNat
    generalize 2 ^ (Core.b64.qmin - e0).toNat = X
    generalize 2 ^ (r - Core.b64.qmin).toNat = Y
    rw [Nat.mul_assoc, Nat.mul_right_comm]
  have hr : 0 < 2 ^ (r - Core.b64.qmin).toNat := Nat.two_pow_pos _
  constructor
  · rw [← Nat.mul_le_mul_right_iff hr, A, B, Nat.mul_le_mul_right_iff hp2]
  · rw [← Nat.mul_le_mul_right_iff hr, A, B, Nat.mul_le_mul_right_iff hp2]
theorem o_zmag {a : UInt64} {s : Bool} {c : Nat} {q : Int} (h : Core.val64 a = .fin s c q) : (oz a).natAbs = Core.inUnits c q Core.b64.qmin ∧ Core.b64.qmin ≤ q := by
  have f := Core.val64_fits a
  refine ⟨?_, by rw [h] at f; exact f.2.1⟩
  show (Core.zval Core.b64 (Core.val64 a)).natAbs = _
  rw [h]; exact Core.natAbs_signed _ _
theorem o_ddiv_le {a b : UInt64} {V : Core.Datum} (ha : Core.DFin a) (hb : Core.DFin b) (hz : oz b ≠ 0) (fV : Core.fits Core.b64 V) (hn : V ≠ .nan) (h : (oz a).natAbs * Core.one64 ≤ Core.zmag Core.b64 V * (oz b).natAbs) : (oz (FP.ddiv a b)).natAbs ≤ Core.zmag Core.b64 V := by
  obtain ⟨s, t, c, q, d, r, h1, h2, hd, e⟩ := o_quot ha hb hz
  obtain ⟨m1, f1⟩ := o_zmag h1
  obtain ⟨m2, f2⟩ := o_zmag h2
  rw [m1, m2] at h
  have k := Core.zmag_roundRatio_le Core.good_b64 (s := s != t) (A := c) (B := d) (e := q - r) (e0 := min Core.b64.qmin (q - r)) (V := V) (Nat.pos_of_ne_zero hd) fV hn (by omega) (by omega) ((o_units f1 f2 (by omega) (by omega)).1.mpr h)
  show (Core.zval Core.b64 (Core.val64 (FP.ddiv a b))).natAbs ≤ _
  rw [e]; show (Core.signed (Core.sgn _) (Core.zmag Core.b64 _)).natAbs ≤ _; rw [Core.natAbs_signed]; exact k
theorem o_ddiv_ge {a b : UInt64} {V : Core.Datum} (ha : Core.DFin a) (hb : Core.DFin b) (hz : oz b ≠ 0) (fV : Core.fits Core.b64 V) (h : Core.zmag Core.b64 V * (oz b).natAbs ≤ (oz a).natAbs * Core.one64) : Core.zmag Core.b64 V ≤ (oz (FP.ddiv a b)).natAbs := by
  obtain ⟨s, t, c, q, d, r, h1, h2, hd, e⟩ := o_quot ha hb hz
  obtain ⟨m1, f1⟩ := o_zmag h1
  obtain ⟨m2, f2⟩ := o_zmag h2
  rw [m1, m2] at h
  have k := Core.zmag_roundRatio_ge Core.good_b64 (s := s != t) (A := c) (B := d) (e := q - r) (e0 := min Core.b64.qmin (q - r)) (V := V) (Nat.pos_of_ne_zero hd) fV (by omega) (by omega) ((o_units f1 f2 (by omega) (by omega)).2.mpr h)
  show _ ≤ (Core.zval Core.b64 (Core.val64 (FP.ddiv a b))).natAbs
  rw [e]; show _ ≤ (Core.signed (Core.sgn _) (Core.zmag Core.b64 _)).natAbs; rw [Core.natAbs_signed]; exact k
theorem o_ddiv_nn {a b : UInt64} (ha : Core.DFin a) (hb : Core.DFin b) (hz : oz b ≠ 0) : NoNaN64 (FP.ddiv a b) := val64_no.mpr (by
  obtain ⟨s, t, c, q, d, r, h1, h2, hd, e⟩ := o_quot ha hb hz
  rw [e]; exact Core.roundRatio_ne_nan _ _ _ _ _)
/-- the quotient's sign: as the operands' (of a quotient that isn't nought) -/
theorem o_ddiv_sgn {a b : UInt64} (ha : Core.DFin a) (hb : Core.DFin b) (hz : oz b ≠ 0) : (0 ≤ oz a → 0 < oz b → 0 ≤ oz (FP.ddiv a b)) ∧ (oz a < 0 → 0 < oz b → oz (FP.ddiv a b) ≤ 0) ∧ (0 < oz a → oz b < 0 → oz (FP.ddiv a b) ≤ 0) ∧ (oz a < 0 → oz b < 0 → 0 ≤ oz (FP.ddiv a b)) ∧ (oz a = 0 → oz (FP.ddiv a b) = 0) := by
  obtain ⟨s, t, c, q, d, r, h1, h2, hd, e⟩ := o_quot ha hb hz
  have za : oz a = Core.signed s (Core.inUnits c q Core.b64.qmin) := by show Core.zval Core.b64 (Core.val64 a) = _; rw [h1]; rfl
  have zb : oz b = Core.signed t (Core.inUnits d r Core.b64.qmin) := by show Core.zval Core.b64 (Core.val64 b) = _; rw [h2]; rfl
  have zq : oz (FP.ddiv a b) = Core.signed (s != t) (Core.zmag Core.b64 (Core.roundRatio Core.b64 (s != t) c d (q - r))) := by
    show Core.zval Core.b64 (Core.val64 (FP.ddiv a b)) = _
    rw [e]; show Core.signed (Core.sgn _) (Core.zmag Core.b64 _) = _; rw [Core.sgn_roundRatio]
  have p1 : 0 < d * 2 ^ (r - Core.b64.qmin).toNat := Nat.mul_pos (Nat.pos_of_ne_zero hd) (Nat.two_pow_pos _)
  have p0 : oz a = 0 → oz (FP.ddiv a b) = 0 := fun h => by
    have hc : c = 0 := by
      have : Core.inUnits c q Core.b64.qmin = 0 := by rw [za] at h; exact (Core.signed_eq_zero _ _).mp h
      have h3 : c * 2 ^ (q - Core.b64.qmin).toNat = 0 := this
      rcases Nat.mul_eq_zero.mp h3 with h4 | h4
      · exact h4
      · exact absurd h4 (Nat.ne_of_gt (Nat.two_pow_pos _))
    rw [zq, hc]
    have : Core.roundRatio Core.b64 (s != t) 0 d (q - r) = .fin (s != t) 0 Core.b64.qmin := rfl
    rw [this]; show Core.signed (s != t) (0 * _) = 0; rw [Nat.zero_mul]; cases s <;> cases t <;> rfl
  have zb' : oz b = Core.signed t (d * 2 ^ (r - Core.b64.qmin).toNat) := zb
  generalize Core.zmag Core.b64 (Core.roundRatio Core.b64 (s != t) c d (q - r)) = M at zq
  generalize Core.inUnits c q Core.b64.qmin = A at za
  generalize d * 2 ^ (r - Core.b64.qmin).toNat = B at zb' p1
  refine ⟨fun h h' => ?_, fun h h' => ?_, fun h h' => ?_, fun h h' => ?_, p0⟩
  · by_cases h0 : oz a = 0
    · rw [p0 h0]; exact Int.le_refl _
    · rw [zq]; rw [za] at h h0; rw [zb'] at h'; cases s <;> cases t <;> simp [o_sgT, o_sgF] at h h0 h' ⊢ <;> omega
  · rw [zq]; rw [za] at h; rw [zb'] at h'; cases s <;> cases t <;> simp [o_sgT, o_sgF] at h h' ⊢ <;> omega
  · rw [zq]; rw [za] at h; rw [zb'] at h'; cases s <;> cases t <;> simp [o_sgT, o_sgF] at h h' ⊢ <;> omega
  · rw [zq]; rw [za] at h; rw [zb'] at h'; cases s <;> cases t <;> simp [o_sgT, o_sgF] at h h' ⊢ <;> omega
theorem o_ddiv {a b : UInt64} {N : Int} (ha : Core.DFin a) (hb : Core.DFin b) (hz : oz b ≠ 0) (hN : oz a * (Core.one64 : Int) = N * oz b) (h : oRep N) : Core.DFin (FP.ddiv a b) ∧ oz (FP.ddiv a b) = N := by
  obtain ⟨V, fV, vV, eV⟩ := h
  have hm := congrArg Int.natAbs hN
  rw [Int.natAbs_mul, Int.natAbs_mul, Int.natAbs_natCast] at hm
  have eV' : Core.zmag Core.b64 V = N.natAbs := by rw [← eV]; exact (Core.natAbs_signed _ _).symm
  have l := o_ddiv_le ha hb hz fV (o_ne_of_fin vV) (by rw [eV', hm]; exact Nat.le_refl _)
  have g := o_ddiv_ge ha hb hz fV (by rw [eV', hm]; exact Nat.le_refl _)
  have hM : (oz (FP.ddiv a b)).natAbs = N.natAbs := by rw [← eV']; exact Nat.le_antisymm l g
  obtain ⟨s1, s2, s3, s4, s5⟩ := o_ddiv_sgn ha hb hz
  have hp : (0 : Int) < (Core.one64 : Int) := by have := Core.one64_pos; omega
  have hsg : oz (FP.ddiv a b) = N := by
    rcases Int.lt_trichotomy (oz a) 0 with h1 | h1 | h1
    · rcases Int.lt_trichotomy (oz b) 0 with h2 | h2 | h2
      · have := s4 h1 h2
        have h3 : ¬ N < 0 := fun hn => by
          have := Int.mul_pos_of_neg_of_neg hn h2
          have := Int.mul_neg_of_neg_of_pos h1 hp
          omega
        omega
      · exact absurd h2 hz
      · have := s2 h1 h2
        have h3 : ¬ 0 < N := fun hn => by
          have := Int.mul_pos hn h2
          have := Int.mul_neg_of_neg_of_pos h1 hp
          omega
        omega
    · have := s5 h1; omega
    · rcases Int.lt_trichotomy (oz b) 0 with h2 | h2 | h2
      · have := s3 h1 h2
        have h3 : ¬ 0 < N := fun hn => by
          have := Int.mul_neg_of_pos_of_neg hn h2
          have := Int.mul_pos h1 hp
          omega
        omega
      · exact absurd h2 hz
      · have := s1 (Int.le_of_lt h1) h2
        have h3 : ¬ N < 0 := fun hn => by
          have := Int.mul_neg_of_neg_of_pos hn h2
          have := Int.mul_pos h1 hp
          omega
        omega
  refine ⟨?_, hsg⟩
  exact o_val_fin (val64_no.mp (o_ddiv_nn ha hb hz)) fV vV (by rw [eV]; exact hsg)
/-! numbers n / 2^k -/
/-- a's value is n / 2^k -/
def oR (n : Int) (k : Nat) (a : UInt64) : Prop := Core.DFin a ∧ oz a * ((2 ^ k : Nat) : Int) = n * (Core.one64 : Int)
theorem o_pow_pos (k : Nat) : (0 : Int) < ((2 ^ k : Nat) : Int) := by have := Nat.two_pow_pos k; omega
theorem oR.fin {n : Int} {k : Nat} {a : UInt64} (h : oR n k a) : Core.DFin a := h.1
theorem oR.nn {n : Int} {k : Nat} {a : UInt64} (h : oR n k a) : NoNaN64 a := o_fin_nn h.1
theorem o_one (k : Nat) (hk : k ≤ 1074) : (Core.one64 : Int) = ((2 ^ (1074 - k) : Nat) : Int) * ((2 ^ k : Nat) : Int) := by
  rw [← Int.natCast_mul, ← Nat.pow_add, show 1074 - k + k = 1074 by omega]; rfl
theorem oR.z {n : Int} {k : Nat} {a : UInt64} (h : oR n k a) (hk : k ≤ 1074) : oz a = n * ((2 ^ (1074 - k) : Nat) : Int) := by
  have := h.2
  rw [o_one k hk, ← Int.mul_assoc] at this
  exact Int.eq_of_mul_eq_mul_right (Int.ne_of_gt (o_pow_pos k)) this
theorem oR.mk' {n : Int} {k : Nat} {a : UInt64} (f : Core.DFin a) (hk : k ≤ 1074) (h : oz a = n * ((2 ^ (1074 - k) : Nat) : Int)) : oR n k a := ⟨f, by rw [h, o_one k hk, Int.mul_assoc]⟩
theorem oRep.dy {n : Int} {k : Nat} (hn : n.natAbs ≤ 2 ^ 53) (hk : k ≤ 1074) : oRep (n * ((2 ^ (1074 - k) : Nat) : Int)) :=
  oRep.of (c := n.natAbs) (t := 1074 - k) (by rw [Int.natAbs_mul, Int.natAbs_natCast]) hn (by omega)
theorem oR.up {n : Int} {k : Nat} {a : UInt64} (h : oR n k a) (j : Nat) : oR (n * ((2 ^ j : Nat) : Int)) (k + j) a := ⟨h.1, by
  rw [Nat.pow_add, Int.natCast_mul, ← Int.mul_assoc, h.2, Int.mul_right_comm]⟩
theorem oR.cast {n n' : Int} {k : Nat} {a : UInt64} (h : oR n k a) (e : n = n') : oR n' k a := e ▸ h
theorem oR.int {i : Int} {a : UInt64} (h : Core.DInt i a) : oR i 0 a := by
  refine ⟨?_, ?_⟩
  · show ∃ s c q, Core.val64 a = .fin s c q
    have h' : Core.Whole i (Core.val64 a) := h
    cases e : Core.val64 a with
    | nan => rw [e] at h'; exact h'.elim
    | inf s => rw [e] at h'; exact h'.elim
    | fin s c q => exact ⟨s, c, q, rfl⟩
  · rw [show oz a = i * (Core.one64 : Int) from Core.DInt_zval h]; simp
theorem oR.i2d (x : Int32) : oR x.toInt 0 (FP.i2d x) := .int (Core.i2d_int x)
theorem oR.l2d {x : Int64} (h : x.toInt.natAbs ≤ 2 ^ 53) : oR x.toInt 0 (FP.l2d x) := .int (Core.l2d_int h)
theorem oR.add {n n' : Int} {k : Nat} {a b : UInt64} (ha : oR n k a) (hb : oR n' k b) (h : (n + n').natAbs ≤ 2 ^ 53) (hk : k ≤ 1074) : oR (n + n') k (FP.dadd a b) := by
  have e : oz a + oz b = (n + n') * ((2 ^ (1074 - k) : Nat) : Int) := by rw [ha.z hk, hb.z hk, Int.add_mul]
  obtain ⟨f, z⟩ := o_dadd ha.1 hb.1 (by rw [e]; exact oRep.dy h hk)
  exact .mk' f hk (z.trans e)
theorem oR.sub {n n' : Int} {k : Nat} {a b : UInt64} (ha : oR n k a) (hb : oR n' k b) (h : (n - n').natAbs ≤ 2 ^ 53) (hk : k ≤ 1074) : oR (n - n') k (FP.dsub a b) := by
  have e : oz a - oz b = (n - n') * ((2 ^ (1074 - k) : Nat) : Int) := by rw [ha.z hk, hb.z hk, Int.sub_mul]
  obtain ⟨f, z⟩ := o_dsub ha.1 hb.1 (by rw [e]; exact oRep.dy h hk)
  exact .mk' f hk (z.trans e)
theorem oR.mul {n n' : Int} {k k' : Nat} {a b : UInt64} (ha : oR n k a) (hb : oR n' k' b) (h : (n * n').natAbs ≤ 2 ^ 53) (hk : k + k' ≤ 1074) : oR (n * n') (k + k') (FP.dmul a b) := by
  have e : oz a * oz b = n * n' * ((2 ^ (1074 - (k + k')) : Nat) : Int) * (Core.one64 : Int) := by
    rw [ha.z (by omega), hb.z (by omega)]
    have e1 : (Core.one64 : Int) = ((2 ^ 1074 : Nat) : Int) := rfl
    rw [e1, Int.mul_assoc (n * n'), ← Int.natCast_mul, ← Nat.pow_add]
    have e2 : n * ((2 ^ (1074 - k) : Nat) : Int) * (n' * ((2 ^ (1074 - k') : Nat) : Int)) = n * n' * (((2 ^ (1074 - k) : Nat) : Int) * ((2 ^ (1074 - k') : Nat) : Int)) := by
      generalize ((2 ^ (1074 - k) : Nat) : Int) = X; generalize ((2 ^ (1074 - k') : Nat) : Int) = Y
      rw [Int.mul_assoc, ← Int.mul_assoc X, Int.mul_comm X n', Int.mul_assoc n' X Y, ← Int.mul_assoc n n']
    rw [e2, ← Int.natCast_mul, ← Nat.pow_add, show 1074 - k + (1074 - k') = 1074 - (k + k') + 1074 by omega]
  obtain ⟨f, z⟩ := o_dmul ha.1 hb.1 e (oRep.dy h hk)
  exact .mk' f hk z
/-- an exact quotient: n / n' = g / 2^j -/
theorem oR.div {n n' g : Int} {k j : Nat} {a b : UInt64} (ha : oR n k a) (hb : oR n' k b) (hz : n' ≠ 0) (e : n * ((2 ^ j : Nat) : Int) = g * n') (h : g.natAbs ≤ 2 ^ 53) (hk : k ≤ 1074) (hj : j ≤ 1074) : oR g j (FP.ddiv a b) := by
  have zb : oz b ≠ 0 := fun q => by
    rw [hb.z hk] at q
    rcases Int.mul_eq_zero.mp q with q | q
    · exact hz q
    · have := o_pow_pos (1074 - k); omega
  have E : oz a * (Core.one64 : Int) = g * ((2 ^ (1074 - j) : Nat) : Int) * oz b := by
    rw [ha.z hk, hb.z hk, o_one j hj]
    generalize ((2 ^ (1074 - k) : Nat) : Int) = X
    generalize ((2 ^ (1074 - j) : Nat) : Int) = Y at *
    generalize ((2 ^ j : Nat) : Int) = J at *
    have : n * X * (Y * J) = n * J * (X * Y) := by
      rw [Int.mul_assoc, Int.mul_assoc, Int.mul_comm Y J, ← Int.mul_assoc X, Int.mul_comm X J, Int.mul_assoc J]
    rw [this, e]
    rw [Int.mul_assoc, Int.mul_assoc, ← Int.mul_assoc Y, Int.mul_comm Y n', Int.mul_assoc n' Y, Int.mul_comm Y X]
  obtain ⟨f, z⟩ := o_ddiv ha.1 hb.1 zb E (oRep.dy h hj)
  exact .mk' f hj z
theorem oR.ne0 {n : Int} {k : Nat} {a : UInt64} (h : oR n k a) (hn : n ≠ 0) (hk : k ≤ 1074) : oz a ≠ 0 := fun q => by
  rw [h.z hk] at q
  rcases Int.mul_eq_zero.mp q with q | q
  · exact hn q
  · have := o_pow_pos (1074 - k); omega
theorem oR.cmp {n n' : Int} {k : Nat} {a b : UInt64} (ha : oR n k a) (hb : oR n' k b) (hk : k ≤ 1074) : FP.dcmp a b = some (compare n n') := by
  have h1 : FP.dcmp a b = some (compare (oz a) (oz b)) := Core.dcmp_zval (o_fin_ne ha.1) (o_fin_ne hb.1)
  rw [h1, ha.z hk, hb.z hk, Core.compare_mul_pos _ _ _ (o_pow_pos _)]
theorem o_cmpV {f : CmpOp} {a b : UInt64} {n n' : Int} (h : FP.dcmp a b = some (compare n n')) : cmpValue (FP.dcmp a b) f = if n < n' then -1 else if n = n' then 0 else 1 := by
  rw [h]
  by_cases h1 : n < n'
  · rw [if_pos h1, (Core.compare_lt_iff n n').mpr h1]; rfl
  · rw [if_neg h1]
    by_cases h2 : n = n'
    · rw [if_pos h2, (Core.compare_eq_iff n n').mpr h2]; rfl
    · rw [if_neg h2, (Core.compare_gt_iff n n').mpr (by omega)]; rfl
theorem oR.cv {f : CmpOp} {n n' : Int} {k : Nat} {a b : UInt64} (ha : oR n k a) (hb : oR n' k b) (hk : k ≤ 1074 := by decide) : cmpValue (FP.dcmp a b) f = if n < n' then -1 else if n = n' then 0 else 1 := o_cmpV (ha.cmp hb hk)
theorem oR.eq0 {f : CmpOp} {n n' : Int} {k : Nat} {a b : UInt64} (ha : oR n k a) (hb : oR n' k b) (e : n = n') (hk : k ≤ 1074 := by decide) : cmpValue (FP.dcmp a b) f = 0 := by
  rw [ha.cv hb hk, if_neg (by omega), if_pos e]
theorem oR.zero : oR 0 0 FP.dconst0 := by
  have : Core.DInt 0 FP.dconst0 := by
    show Core.Whole 0 (Core.val64 Core.dconst0)
    rw [Core.val64_dconst0]; show Core.signed false (0 * _) = 0 * _; rw [Nat.zero_mul, o_sgF]; simp
  exact .int this
theorem oR.one : oR 1 0 FP.dconst1 := .int Core.dint_one
theorem oR.uniq {n : Int} {k : Nat} {a b : UInt64} (ha : oR n k a) (hb : oR n k b) (hn : n ≠ 0) (hk : k ≤ 1074) : oz a = oz b := by rw [ha.z hk, hb.z hk]
theorem o_cvz {f : CmpOp} {a b : UInt64} (ha : NoNaN64 a) (hb : NoNaN64 b) : cmpValue (FP.dcmp a b) f = if oz a < oz b then -1 else if oz a = oz b then 0 else 1 :=
  o_cmpV (Core.dcmp_zval (val64_no.mp ha) (val64_no.mp hb))
theorem o_zx {n : Nat} {x : UInt64} (hx : oR (n : Int) 0 x) : oz x = ((n * 2 ^ 1074 : Nat) : Int) := by
  have h := hx.z (by decide)
  rw [h, ← Int.natCast_mul]
theorem o_rep {g k : Nat} (hg : g ≤ 2 ^ 53) (hk : k ≤ 1074) : ∃ V : Core.Datum, Core.fits Core.b64 V ∧ (∃ s c q, V = .fin s c q) ∧ Core.zmag Core.b64 V = g * 2 ^ (1074 - k) := by
  obtain ⟨V, fV, vV, eV⟩ := oRep.dy (n := (g : Int)) (k := k) (by rw [Int.natAbs_natCast]; exact hg) hk
  refine ⟨V, fV, vV, ?_⟩
  have h := congrArg Int.natAbs eV
  rw [← Int.natCast_mul, Int.natAbs_natCast] at h
  rw [← h]; exact (Core.natAbs_signed _ _).symm
theorem o_U (k : Nat) (hk : k ≤ 1074) : (2 : Nat) ^ 1074 = 2 ^ k * 2 ^ (1074 - k) := by rw [← Nat.pow_add, show k + (1074 - k) = 1074 by omega]
theorem o_div_le {n m g k : Nat} {x y : UInt64} (hx : oR (n : Int) 0 x) (hy : oR (m : Int) 0 y) (hm : 0 < m) (hg : g ≤ 2 ^ 53) (hk : k ≤ 1074) (h : n * 2 ^ k ≤ g * m) : 0 ≤ oz (FP.ddiv x y) ∧ oz (FP.ddiv x y) ≤ ((g * 2 ^ (1074 - k) : Nat) : Int) := by
  have zx := o_zx hx
  have zy := o_zx hy
  have pm : 0 < m * 2 ^ 1074 := Nat.mul_pos hm (Nat.two_pow_pos _)
  have ny : oz y ≠ 0 := by rw [zy]; exact Int.ne_of_gt (Int.ofNat_lt.mpr pm)
  obtain ⟨V, fV, vV, zV⟩ := o_rep hg hk
  have l := o_ddiv_le hx.1 hy.1 ny fV (o_ne_of_fin vV) (by
    rw [zx, zy, zV, Int.natAbs_natCast, Int.natAbs_natCast]
    show n * 2 ^ 1074 * 2 ^ 1074 ≤ g * 2 ^ (1074 - k) * (m * 2 ^ 1074)
    have hU := o_U k hk
    generalize (2 : Nat) ^ 1074 = U at *
    generalize (2 : Nat) ^ (1074 - k) = B at *
    generalize (2 : Nat) ^ k = A at *
    have e1 : n * U * U = n * A * (B * U) := by rw [hU, ← Nat.mul_assoc n A B, Nat.mul_assoc (n * A) B]
    have e2 : g * B * (m * U) = g * m * (B * U) := by rw [Nat.mul_assoc, ← Nat.mul_assoc B m, Nat.mul_comm B m, Nat.mul_assoc m B, ← Nat.mul_assoc g m]
    rw [e1, e2]; exact Nat.mul_le_mul_right _ h)
  rw [zV] at l
  have s := (o_ddiv_sgn hx.1 hy.1 ny).1 (by rw [zx]; exact Int.natCast_nonneg _) (by rw [zy]; exact Int.ofNat_lt.mpr pm)
  generalize oz (FP.ddiv x y) = D at *
  generalize g * 2 ^ (1074 - k) = G at *
  omega
theorem o_div_ge {n m g k : Nat} {x y : UInt64} (hx : oR (n : Int) 0 x) (hy : oR (m : Int) 0 y) (hm : 0 < m) (hg : g ≤ 2 ^ 53) (hk : k ≤ 1074) (h : g * m ≤ n * 2 ^ k) : ((g * 2 ^ (1074 - k) : Nat) : Int) ≤ oz (FP.ddiv x y) := by
  have zx := o_zx hx
  have zy := o_zx hy
  have pm : 0 < m * 2 ^ 1074 := Nat.mul_pos hm (Nat.two_pow_pos _)
  have ny : oz y ≠ 0 := by rw [zy]; exact Int.ne_of_gt (Int.ofNat_lt.mpr pm)
  obtain ⟨V, fV, vV, zV⟩ := o_rep hg hk
  have l := o_ddiv_ge hx.1 hy.1 ny fV (by
    rw [zx, zy, zV, Int.natAbs_natCast, Int.natAbs_natCast]
    show g * 2 ^ (1074 - k) * (m * 2 ^ 1074) ≤ n * 2 ^ 1074 * 2 ^ 1074
    have hU := o_U k hk
    generalize (2 : Nat) ^ 1074 = U at *
    generalize (2 : Nat) ^ (1074 - k) = B at *
    generalize (2 : Nat) ^ k = A at *
    have e1 : n * U * U = n * A * (B * U) := by rw [hU, ← Nat.mul_assoc n A B, Nat.mul_assoc (n * A) B]
    have e2 : g * B * (m * U) = g * m * (B * U) := by rw [Nat.mul_assoc, ← Nat.mul_assoc B m, Nat.mul_comm B m, Nat.mul_assoc m B, ← Nat.mul_assoc g m]
    rw [e1, e2]; exact Nat.mul_le_mul_right _ h)
  rw [zV] at l
  have s := (o_ddiv_sgn hx.1 hy.1 ny).1 (by rw [zx]; exact Int.natCast_nonneg _) (by rw [zy]; exact Int.ofNat_lt.mpr pm)
  generalize oz (FP.ddiv x y) = D at *
  generalize g * 2 ^ (1074 - k) = G at *
  omega
theorem o_div_nn {n m : Nat} {x y : UInt64} (hx : oR (n : Int) 0 x) (hy : oR (m : Int) 0 y) (hm : 0 < m) : NoNaN64 (FP.ddiv x y) :=
  o_ddiv_nn hx.1 hy.1 (by rw [o_zx hy]; exact Int.ne_of_gt (Int.ofNat_lt.mpr (Nat.mul_pos hm (Nat.two_pow_pos _))))
theorem o_oz1 : oz FP.dconst1 = ((2 ^ 1074 : Nat) : Int) := by have := o_zx (n := 1) oR.one; rw [this, Nat.one_mul]
theorem o_oz0 : oz FP.dconst0 = 0 := by have := o_zx (n := 0) oR.zero; rw [this, Nat.zero_mul]; rfl
/-- n / m for 0 ≤ n < m: below 1, and above 0 where n is -/
theorem o_frac {n m : Nat} {x y : UInt64} (hx : oR (n : Int) 0 x) (hy : oR (m : Int) 0 y) (h : n < m) (hm : m ≤ 2 ^ 53) : 0 ≤ oz (FP.ddiv x y) ∧ oz (FP.ddiv x y) < oz FP.dconst1 ∧ (0 < n → 0 < oz (FP.ddiv x y)) := by
  have l := o_div_le (g := 2 ^ 53 - 1) (k := 53) hx hy (by omega) (by omega) (by decide) (by
    have e : (2 ^ 53 - 1) * m = 2 ^ 53 * m - m := by rw [Nat.sub_mul, Nat.one_mul]
    have e2 : n * 2 ^ 53 + 2 ^ 53 ≤ 2 ^ 53 * m := by rw [Nat.mul_comm (2 ^ 53) m, ← Nat.succ_mul]; exact Nat.mul_le_mul_right _ h
    rw [e]; exact Nat.le_trans (Nat.le_sub_of_add_le e2) (Nat.sub_le_sub_left hm _))
  refine ⟨l.1, ?_, fun hn => ?_⟩
  · rw [o_oz1]
    refine Int.lt_of_le_of_lt l.2 (Int.ofNat_lt.mpr ?_)
    rw [o_U 53 (by decide)]
    exact Nat.mul_lt_mul_of_pos_right (by decide) (Nat.two_pow_pos _)
  · have g := o_div_ge (g := 1) (k := 53) hx hy (by omega) (by decide) (by decide) (by rw [Nat.one_mul]; exact Nat.le_trans hm (Nat.le_mul_of_pos_left _ hn))
    have p : 0 < 1 * 2 ^ (1074 - 53) := by rw [Nat.one_mul]; exact Nat.two_pow_pos _
    exact Int.lt_of_lt_of_le (Int.ofNat_lt.mpr p) g
/-- quotients of one value round alike -/
theorem o_div_same {x y x' y' : UInt64} (hx : Core.DFin x) (hy : Core.DFin y) (hx' : Core.DFin x') (hy' : Core.DFin y') (zy : 0 < oz y) (zy' : 0 < oz y') (px : 0 ≤ oz x) (px' : 0 ≤ oz x') (h : oz x * oz y' = oz x' * oz y) : oz (FP.ddiv x y) = oz (FP.ddiv x' y') := by
  have n1 : oz y ≠ 0 := by omega
  have n2 : oz y' ≠ 0 := by omega
  by_cases h0 : oz x = 0
  · have h1 : oz x' = 0 := by
      rw [h0, Int.zero_mul] at h
      rcases Int.mul_eq_zero.mp h.symm with q | q
      · exact q
      · exact absurd q n1
    rw [(o_ddiv_sgn hx hy n1).2.2.2.2 h0, (o_ddiv_sgn hx' hy' n2).2.2.2.2 h1]
  · have h1 : oz x' ≠ 0 := fun q => by
      rw [q, Int.zero_mul] at h
      rcases Int.mul_eq_zero.mp h with q | q
      · exact h0 q
      · exact n2 q
    obtain ⟨s, t, c, q, d, r, e1, e2, hd, e3⟩ := o_quot hx hy n1
    obtain ⟨s', t', c', q', d', r', e1', e2', hd', e3'⟩ := o_quot hx' hy' n2
    have f1 : Core.b64.qmin ≤ q := (o_zmag e1).2
    have f2 : Core.b64.qmin ≤ r := (o_zmag e2).2
    have f1' : Core.b64.qmin ≤ q' := (o_zmag e1').2
    have f2' : Core.b64.qmin ≤ r' := (o_zmag e2').2
    have sg : ∀ {a : UInt64} {s : Bool} {c : Nat} {q : Int}, Core.val64 a = .fin s c q → 0 < oz a → s = false ∧ oz a = ((c * 2 ^ (q - Core.b64.qmin).toNat : Nat) : Int) := by
      intro a s c q e p
      have z : oz a = Core.signed s (c * 2 ^ (q - Core.b64.qmin).toNat) := by show Core.zval Core.b64 (Core.val64 a) = _; rw [e]; rfl
      rw [z] at p ⊢
      obtain ⟨p1, p2⟩ := Core.signed_pos p
      refine ⟨?_, p1⟩
      cases s
      · rfl
      · rw [p1] at p; rw [o_sgT] at p1; omega
    obtain ⟨rfl, z1⟩ := sg e1 (by omega)
    obtain ⟨rfl, z2⟩ := sg e2 zy
    obtain ⟨rfl, z1'⟩ := sg e1' (by omega)
    obtain ⟨rfl, z2'⟩ := sg e2' zy'
    rw [z1, z2, z1', z2', ← Int.natCast_mul, ← Int.natCast_mul] at h
    have h2 := Int.ofNat.inj h
    have key : c * d' * 2 ^ ((q - r) - (q' - r')).toNat = c' * d * 2 ^ ((q' - r') - (q - r)).toNat := by
      have hp : 0 < 2 ^ (min (q + r') (q' + r) - 2 * Core.b64.qmin).toNat := Nat.two_pow_pos _
      apply Nat.eq_of_mul_eq_mul_right hp
      rw [Nat.mul_assoc (c * d'), ← Nat.pow_add, Nat.mul_assoc (c' * d), ← Nat.pow_add]
      rw [show ((q - r) - (q' - r')).toNat + (min (q + r') (q' + r) - 2 * Core.b64.qmin).toNat = (q - Core.b64.qmin).toNat + (r' - Core.b64.qmin).toNat by omega]
      rw [show ((q' - r') - (q - r)).toNat + (min (q + r') (q' + r) - 2 * Core.b64.qmin).toNat = (q' - Core.b64.qmin).toNat + (r - Core.b64.qmin).toNat by omega]
      rw [Nat.pow_add, Nat.pow_add]
      generalize 2 ^ (q - Core.b64.qmin).toNat = A at *
      generalize 2 ^ (r' - Core.b64.qmin).toNat = B at *
      generalize 2 ^ (q' - Core.b64.qmin).toNat = A' at *
      generalize 2 ^ (r - Core.b64.qmin).toNat = B' at *
      rw [show c * d' * (A * B) = c * A * (d' * B) by rw [Nat.mul_assoc, Nat.mul_assoc, Nat.mul_left_comm d' A B]]
      rw [show c' * d * (A' * B') = c' * A' * (d * B') by rw [Nat.mul_assoc, Nat.mul_assoc, Nat.mul_left_comm d A' B']]
      exact h2
    have e4 := Core.roundRatio_congr (f := Core.b64) (s := (false != false)) (A := c) (B := d) (A' := c') (B' := d') (e := q - r) (e' := q' - r') (Nat.pos_of_ne_zero hd) (Nat.pos_of_ne_zero hd') key
    show Core.zval Core.b64 (Core.val64 (FP.ddiv x y)) = Core.zval Core.b64 (Core.val64 (FP.ddiv x' y'))
    rw [e3, e3', e4]
/-- an exact product, its value said as g / 2^j -/
theorem oR.mulTo {n n' g : Int} {k k' j : Nat} {a b : UInt64} (ha : oR n k a) (hb : oR n' k' b) (e : n * n' * ((2 ^ j : Nat) : Int) = g * ((2 ^ (k + k') : Nat) : Int)) (h : g.natAbs ≤ 2 ^ 53) (hk : k + k' ≤ 1074) (hj : j ≤ 1074) : oR g j (FP.dmul a b) := by
  have E : oz a * oz b = g * ((2 ^ (1074 - j) : Nat) : Int) * (Core.one64 : Int) := by
    have p := o_pow_pos (k + k')
    have p2 := o_pow_pos j
    have h1 := ha.2
    have h2 := hb.2
    have h3 : oz a * oz b * ((2 ^ (k + k') : Nat) : Int) = n * n' * ((Core.one64 : Int) * (Core.one64 : Int)) := by
      rw [Nat.pow_add, Int.natCast_mul]
      generalize ((2 ^ k : Nat) : Int) = X at *
      generalize ((2 ^ k' : Nat) : Int) = Y at *
      generalize (Core.one64 : Int) = U at *
      calc oz a * oz b * (X * Y) = oz a * X * (oz b * Y) := by rw [Int.mul_assoc, Int.mul_assoc, Int.mul_left_comm (oz b) X Y]
        _ = n * U * (n' * U) := by rw [h1, h2]
        _ = n * n' * (U * U) := by rw [Int.mul_assoc, Int.mul_assoc, Int.mul_left_comm U n' U]
    apply Int.eq_of_mul_eq_mul_right (Int.ne_of_gt p)
    rw [h3]
    apply Int.eq_of_mul_eq_mul_right (Int.ne_of_gt p2)
    have hU := o_one j hj
    generalize ((2 ^ (k + k') : Nat) : Int) = K at *
    generalize ((2 ^ j : Nat) : Int) = J at *
    generalize ((2 ^ (1074 - j) : Nat) : Int) = B at *
    generalize (Core.one64 : Int) = U at *
    calc n * n' * (U * U) * J = n * n' * J * (U * U) := by rw [Int.mul_right_comm]
      _ = g * K * (U * U) := by rw [e]
      _ = g * K * (U * (B * J)) := by rw [← hU]
      _ = g * B * U * K * J := by
        rw [Int.mul_assoc g K, Int.mul_assoc g B, Int.mul_assoc g (B * U), Int.mul_assoc g]
        congr 1
        rw [Int.mul_comm K, Int.mul_comm B U, Int.mul_assoc U B J |>.symm, Int.mul_right_comm (U * B) J K]
  obtain ⟨f, z⟩ := o_dmul ha.1 hb.1 E (oRep.dy h hj)
  exact .mk' f hj z
end OwnFP

theorem o_mul_abs {a b : Int} {A B : Nat} (ha : a.natAbs ≤ A) (hb : b.natAbs ≤ B) : (a * b).natAbs ≤ A * B := by rw [Int.natAbs_mul]; exact Nat.mul_le_mul ha hb

section OwnFP2
open Jvm.FP
theorem o_fin_le {D V : Core.Datum} (hn : D ≠ .nan) (hV : Core.fits Core.b64 V) (hv : ∃ s c q, V = .fin s c q) (e : (Core.zval Core.b64 D).natAbs ≤ Core.zmag Core.b64 V) : ∃ s c q, D = .fin s c q := by
  cases D with
  | nan => exact absurd rfl hn
  | fin s c q => exact ⟨s, c, q, rfl⟩
  | inf s =>
    obtain ⟨s', c, q, rfl⟩ := hv
    have h1 := Core.zmag_lt_top Core.good_b64 hV
    have h2 : (Core.zval Core.b64 (.inf s)).natAbs = Core.b64.tails * 2 ^ (Core.b64.exps - 2) := Core.natAbs_signed _ _
    rw [h2] at e
    exact absurd e (Nat.not_le_of_gt h1)
theorem o_dmul_le {a b : UInt64} {N : Int} (ha : Core.DFin a) (hb : Core.DFin b) (hN : oz a * oz b ≤ N * (Core.one64 : Int)) (h : oRep N) : oz (FP.dmul a b) ≤ N := by
  obtain ⟨V, fV, vV, eV⟩ := h
  have e : Core.val64 (FP.dmul a b) = Core.round Core.b64 (Core.exactProduct (Core.val64 a) (Core.val64 b)) := Core.val64_dmul a b
  have fa := Core.val64_fits a
  have fb := Core.val64_fits b
  obtain ⟨s, c, q, h1⟩ := ha
  obtain ⟨t, d, r, h2⟩ := hb
  have hN' : Core.zval Core.b64 (Core.val64 a) * Core.zval Core.b64 (Core.val64 b) ≤ N * (Core.one64 : Int) := hN
  rw [h1] at fa hN' e
  rw [h2] at fb hN' e
  obtain ⟨p1, p2, p3⟩ := Core.product_units fa fb
  rw [p1] at e
  have key : Core.signed (s != t) (Core.inUnits (c * d) (q + r) (2 * Core.b64.qmin)) ≤ Core.zval Core.b64 V * ((2 ^ (Core.b64.qmin - 2 * Core.b64.qmin).toNat : Nat) : Int) := by
    rw [p3, Core.signed_xor, o_two, eV]; exact hN'
  have q0 := Core.qmin_neg Core.good_b64
  have l := Core.zval_round_le Core.good_b64 fV (o_ne_of_fin vV) (e0 := 2 * Core.b64.qmin) (by omega) p2 key
  show Core.zval Core.b64 (Core.val64 (FP.dmul a b)) ≤ _
  rw [e, ← eV]; exact l
theorem o_dmul_ge {a b : UInt64} {N : Int} (ha : Core.DFin a) (hb : Core.DFin b) (hN : N * (Core.one64 : Int) ≤ oz a * oz b) (h : oRep N) : N ≤ oz (FP.dmul a b) := by
  obtain ⟨V, fV, vV, eV⟩ := h
  have e : Core.val64 (FP.dmul a b) = Core.round Core.b64 (Core.exactProduct (Core.val64 a) (Core.val64 b)) := Core.val64_dmul a b
  have fa := Core.val64_fits a
  have fb := Core.val64_fits b
  obtain ⟨s, c, q, h1⟩ := ha
  obtain ⟨t, d, r, h2⟩ := hb
  have hN' : N * (Core.one64 : Int) ≤ Core.zval Core.b64 (Core.val64 a) * Core.zval Core.b64 (Core.val64 b) := hN
  rw [h1] at fa hN' e
  rw [h2] at fb hN' e
  obtain ⟨p1, p2, p3⟩ := Core.product_units fa fb
  rw [p1] at e
  have key : Core.zval Core.b64 V * ((2 ^ (Core.b64.qmin - 2 * Core.b64.qmin).toNat : Nat) : Int) ≤ Core.signed (s != t) (Core.inUnits (c * d) (q + r) (2 * Core.b64.qmin)) := by
    rw [p3, Core.signed_xor, o_two, eV]; exact hN'
  have q0 := Core.qmin_neg Core.good_b64
  have l := Core.zval_round_ge Core.good_b64 fV (o_ne_of_fin vV) (e0 := 2 * Core.b64.qmin) (by omega) p2 key
  show _ ≤ Core.zval Core.b64 (Core.val64 (FP.dmul a b))
  rw [e, ← eV]; exact l
theorem o_dmul_nn {a b : UInt64} (ha : Core.DFin a) (hb : Core.DFin b) : NoNaN64 (FP.dmul a b) := val64_no.mpr (by
  have e : Core.val64 (FP.dmul a b) = Core.round Core.b64 (Core.exactProduct (Core.val64 a) (Core.val64 b)) := Core.val64_dmul a b
  obtain ⟨s, c, q, h1⟩ := ha
  obtain ⟨t, d, r, h2⟩ := hb
  rw [e, h1, h2]; exact Core.roundRatio_ne_nan _ _ _ _ _)
theorem o_div_fin {n m g k : Nat} {x y : UInt64} (hx : oR (n : Int) 0 x) (hy : oR (m : Int) 0 y) (hm : 0 < m) (hg : g ≤ 2 ^ 53) (hk : k ≤ 1074) (h : n * 2 ^ k ≤ g * m) : Core.DFin (FP.ddiv x y) := by
  obtain ⟨V, fV, vV, zV⟩ := o_rep hg hk
  have l := o_div_le hx hy hm hg hk h
  refine o_fin_le (val64_no.mp (o_div_nn hx hy hm)) fV vV ?_
  rw [zV]
  show (oz (FP.ddiv x y)).natAbs ≤ _
  generalize oz (FP.ddiv x y) = D at *
  generalize g * 2 ^ (1074 - k) = G at *
  omega
end OwnFP2


section OwnFP3
open Jvm.FP Jvm.Native.java_lang_Math.nans
theorem o_pwi (x y : Nat) : ((2 ^ (x + y) : Nat) : Int) = ((2 ^ x : Nat) : Int) * ((2 ^ y : Nat) : Int) := by rw [Nat.pow_add, Int.natCast_mul]
/-- a's value is between lo / 2^k and hi / 2^k -/
def oI (lo hi : Int) (k : Nat) (a : UInt64) : Prop := Core.DFin a ∧ lo * ((2 ^ (1074 - k) : Nat) : Int) ≤ oz a ∧ oz a ≤ hi * ((2 ^ (1074 - k) : Nat) : Int)
theorem oI.ofR {n : Int} {k : Nat} {a : UInt64} (h : oR n k a) (hk : k ≤ 1074) : oI n n k a := ⟨h.1, Int.le_of_eq (h.z hk).symm, Int.le_of_eq (h.z hk)⟩
theorem oI.weak {lo hi lo' hi' : Int} {k : Nat} {a : UInt64} (h : oI lo hi k a) (h1 : lo' ≤ lo) (h2 : hi ≤ hi') : oI lo' hi' k a :=
  ⟨h.1, Int.le_trans (Int.mul_le_mul_of_nonneg_right h1 (Int.natCast_nonneg _)) h.2.1, Int.le_trans h.2.2 (Int.mul_le_mul_of_nonneg_right h2 (Int.natCast_nonneg _))⟩
theorem oI.nn {lo hi : Int} {k : Nat} {a : UInt64} (h : oI lo hi k a) : NoNaN64 a := o_fin_nn h.1
theorem oI.z0 {k : Nat} {a : UInt64} (h : oI 0 0 k a) : oz a = 0 := by
  have h1 := h.2.1
  have h2 := h.2.2
  rw [Int.zero_mul] at h1 h2; omega
theorem o_pick {a b : UInt64} (ha : Core.DFin a) (hb : Core.DFin b) : (oz a < oz b → pick64 true a b = b) ∧ (oz b < oz a → pick64 true a b = a) := by
  have h : FP.dcmp a b = some (compare (oz a) (oz b)) := Core.dcmp_zval (o_fin_ne ha) (o_fin_ne hb)
  have e : pick64 true a b = (match FP.dcmp a b with
    | some .lt => if true then b else a
    | some .gt => if true then a else b
    | _ => if (a >>> 63 == 1) == true then b else a) := rfl
  refine ⟨fun q => ?_, fun q => ?_⟩
  · rw [e, h, (Core.compare_lt_iff _ _).mpr q]; rfl
  · rw [e, h, (Core.compare_gt_iff _ _).mpr q]; rfl
theorem oI.max {la ha lb hb lo hi : Int} {k : Nat} {a b : UInt64} (A : oI la ha k a) (B : oI lb hb k b) (h1 : lo ≤ la ∨ lo ≤ lb) (h2 : ha ≤ hi) (h3 : hb ≤ hi) : oI lo hi k (pick64 true a b) := by
  have p := o_pow_pos (1074 - k)
  have A2 := A.weak (lo' := la) (hi' := hi) (Int.le_refl _) h2
  have B2 := B.weak (lo' := lb) (hi' := hi) (Int.le_refl _) h3
  have q := o_pick A.1 B.1
  have key : ∀ {x : UInt64}, Core.DFin x → oz a ≤ oz x → oz b ≤ oz x → oz x ≤ hi * ((2 ^ (1074 - k) : Nat) : Int) → oI lo hi k x := fun f ga gb g => ⟨f, by
    rcases h1 with h1 | h1
    · exact Int.le_trans (Int.mul_le_mul_of_nonneg_right h1 (Int.le_of_lt p)) (Int.le_trans A.2.1 ga)
    · exact Int.le_trans (Int.mul_le_mul_of_nonneg_right h1 (Int.le_of_lt p)) (Int.le_trans B.2.1 gb), g⟩
  by_cases c : oz a < oz b
  · rw [q.1 c]; exact key B.1 (Int.le_of_lt c) (Int.le_refl _) B2.2.2
  · by_cases d : oz b < oz a
    · rw [q.2 d]; exact key A.1 (Int.le_refl _) (Int.le_of_lt d) A2.2.2
    · rcases pick64_or true a b with z | z
      · rw [z]; exact key A.1 (Int.le_refl _) (by omega) A2.2.2
      · rw [z]; exact key B.1 (by omega) (Int.le_refl _) B2.2.2
theorem o_dsub_le {a b : UInt64} {N : Int} (ha : Core.DFin a) (hb : Core.DFin b) (hN : oz a - oz b ≤ N) (h : oRep N) : oz (FP.dsub a b) ≤ N := by
  obtain ⟨V, fV, vV, eV⟩ := h
  have e : Core.val64 (FP.dsub a b) = Core.round Core.b64 (Core.exactSum (Core.val64 a) (Core.negate (Core.val64 b))) := Core.val64_dsub a b
  have zb : Core.zval Core.b64 (Core.val64 a) + Core.zval Core.b64 (Core.negate (Core.val64 b)) ≤ Core.zval Core.b64 V := by rw [Core.zval_negate, eV]; show oz a + -(oz b) ≤ _; omega
  have l := Core.sum_le Core.good_b64 ha (o_neg_fin hb) (Core.val64_fits a) (Core.negate_fits (Core.val64_fits b)) fV (o_ne_of_fin vV) zb
  show Core.zval Core.b64 (Core.val64 (FP.dsub a b)) ≤ _
  rw [e, ← eV]; exact l
theorem o_dsub_ge {a b : UInt64} {N : Int} (ha : Core.DFin a) (hb : Core.DFin b) (hN : N ≤ oz a - oz b) (h : oRep N) : N ≤ oz (FP.dsub a b) := by
  obtain ⟨V, fV, vV, eV⟩ := h
  have e : Core.val64 (FP.dsub a b) = Core.round Core.b64 (Core.exactSum (Core.val64 a) (Core.negate (Core.val64 b))) := Core.val64_dsub a b
  have zb : Core.zval Core.b64 V ≤ Core.zval Core.b64 (Core.val64 a) + Core.zval Core.b64 (Core.negate (Core.val64 b)) := by rw [Core.zval_negate, eV]; show _ ≤ oz a + -(oz b); omega
  have l := Core.sum_ge Core.good_b64 ha (o_neg_fin hb) (Core.val64_fits a) (Core.negate_fits (Core.val64_fits b)) fV (o_ne_of_fin vV) zb
  show _ ≤ Core.zval Core.b64 (Core.val64 (FP.dsub a b))
  rw [e, ← eV]; exact l
/-- a value between two that are some doubles' is no infinity -/
theorem o_fin_between {D : Core.Datum} {lo hi : Int} {k : Nat} (hn : D ≠ .nan) (hk : k ≤ 1074) (h1 : lo.natAbs ≤ 2 ^ 53) (h2 : hi.natAbs ≤ 2 ^ 53) (g1 : lo * ((2 ^ (1074 - k) : Nat) : Int) ≤ Core.zval Core.b64 D) (g2 : Core.zval Core.b64 D ≤ hi * ((2 ^ (1074 - k) : Nat) : Int)) : ∃ s c q, D = .fin s c q := by
  obtain ⟨V, fV, vV, zV⟩ := o_rep (g := max lo.natAbs hi.natAbs) (k := k) (Nat.max_le.mpr ⟨h1, h2⟩) hk
  refine o_fin_le hn fV vV ?_
  rw [zV]
  have p := o_pow_pos (1074 - k)
  have u1 : ((max lo.natAbs hi.natAbs : Nat) : Int) * ((2 ^ (1074 - k) : Nat) : Int) = ((max lo.natAbs hi.natAbs * 2 ^ (1074 - k) : Nat) : Int) := (Int.natCast_mul _ _).symm
  have u2 : hi * ((2 ^ (1074 - k) : Nat) : Int) ≤ ((max lo.natAbs hi.natAbs : Nat) : Int) * ((2 ^ (1074 - k) : Nat) : Int) := Int.mul_le_mul_of_nonneg_right (by have := Nat.le_max_right lo.natAbs hi.natAbs; omega) (Int.le_of_lt p)
  have u3 : -((max lo.natAbs hi.natAbs : Nat) : Int) * ((2 ^ (1074 - k) : Nat) : Int) ≤ lo * ((2 ^ (1074 - k) : Nat) : Int) := Int.mul_le_mul_of_nonneg_right (by have := Nat.le_max_left lo.natAbs hi.natAbs; omega) (Int.le_of_lt p)
  rw [Int.neg_mul] at u3
  rw [u1] at u2 u3
  generalize max lo.natAbs hi.natAbs * 2 ^ (1074 - k) = G at *
  omega
theorem oI.sub {la ha lb hb : Int} {k : Nat} {a b : UInt64} (A : oI la ha k a) (B : oI lb hb k b) (hk : k ≤ 1074) (g1 : (la - hb).natAbs ≤ 2 ^ 53) (g2 : (ha - lb).natAbs ≤ 2 ^ 53) : oI (la - hb) (ha - lb) k (FP.dsub a b) := by
  have l := o_dsub_le (N := (ha - lb) * ((2 ^ (1074 - k) : Nat) : Int)) A.1 B.1 (by rw [Int.sub_mul]; have := A.2.2; have := B.2.1; omega) (oRep.dy g2 hk)
  have g := o_dsub_ge (N := (la - hb) * ((2 ^ (1074 - k) : Nat) : Int)) A.1 B.1 (by rw [Int.sub_mul]; have := A.2.1; have := B.2.2; omega) (oRep.dy g1 hk)
  refine ⟨o_fin_between ?_ hk g1 g2 g l, g, l⟩
  have e : Core.val64 (FP.dsub a b) = Core.round Core.b64 (Core.exactSum (Core.val64 a) (Core.negate (Core.val64 b))) := Core.val64_dsub a b
  rw [e]; exact o_sum_ne A.1 (o_neg_fin B.1)
theorem oI.mul {la ha lb hb glo ghi Pk Pj : Int} {ka kb j : Nat} {a b : UInt64} (A : oI la ha ka a) (B : oI lb hb kb b) (h1 : 0 ≤ la) (h2 : 0 ≤ lb) (hPk : ((2 ^ (ka + kb) : Nat) : Int) = Pk) (hPj : ((2 ^ j : Nat) : Int) = Pj) (hk : ka ≤ 500 ∧ kb ≤ 500 ∧ j ≤ 500) (g1 : glo.natAbs ≤ 2 ^ 53) (g2 : ghi.natAbs ≤ 2 ^ 53) (e1 : glo * Pk ≤ la * lb * Pj) (e2 : ha * hb * Pj ≤ ghi * Pk) : oI glo ghi j (FP.dmul a b) := by
  subst hPk hPj
  obtain ⟨k1, k2, k3⟩ := hk
  have pa := o_pow_pos (1074 - ka)
  have pb := o_pow_pos (1074 - kb)
  have pF := o_pow_pos (2148 - j - ka - kb)
  have za : 0 ≤ oz a := Int.le_trans (Int.mul_nonneg h1 (Int.le_of_lt pa)) A.2.1
  have zb : 0 ≤ oz b := Int.le_trans (Int.mul_nonneg h2 (Int.le_of_lt pb)) B.2.1
  have hU : (Core.one64 : Int) = ((2 ^ 1074 : Nat) : Int) := rfl
  have x1 : ((2 ^ (1074 - ka) : Nat) : Int) * ((2 ^ (1074 - kb) : Nat) : Int) = ((2 ^ j : Nat) : Int) * ((2 ^ (2148 - j - ka - kb) : Nat) : Int) := by
    rw [← o_pwi, ← o_pwi, show 1074 - ka + (1074 - kb) = j + (2148 - j - ka - kb) by omega]
  have x2 : ((2 ^ (1074 - j) : Nat) : Int) * ((2 ^ 1074 : Nat) : Int) = ((2 ^ (ka + kb) : Nat) : Int) * ((2 ^ (2148 - j - ka - kb) : Nat) : Int) := by
    rw [← o_pwi, ← o_pwi, show 1074 - j + 1074 = ka + kb + (2148 - j - ka - kb) by omega]
  have ab : ∀ u v : Int, u * ((2 ^ (1074 - ka) : Nat) : Int) * (v * ((2 ^ (1074 - kb) : Nat) : Int)) = u * v * ((2 ^ j : Nat) : Int) * ((2 ^ (2148 - j - ka - kb) : Nat) : Int) := fun u v => by
    rw [Int.mul_assoc (u * v), ← x1]
    generalize ((2 ^ (1074 - ka) : Nat) : Int) = X
    generalize ((2 ^ (1074 - kb) : Nat) : Int) = Y
    rw [Int.mul_assoc u X, Int.mul_left_comm X v Y, Int.mul_assoc u v]
  have gg : ∀ g : Int, g * ((2 ^ (1074 - j) : Nat) : Int) * (Core.one64 : Int) = g * ((2 ^ (ka + kb) : Nat) : Int) * ((2 ^ (2148 - j - ka - kb) : Nat) : Int) := fun g => by
    rw [hU, Int.mul_assoc, x2, ← Int.mul_assoc]
  have l := o_dmul_le (N := ghi * ((2 ^ (1074 - j) : Nat) : Int)) A.1 B.1 (by
    rw [gg]
    refine Int.le_trans (Int.mul_le_mul A.2.2 B.2.2 zb (Int.le_trans za A.2.2)) ?_
    rw [ab]; exact Int.mul_le_mul_of_nonneg_right e2 (Int.le_of_lt pF)) (oRep.dy g2 (by omega))
  have g := o_dmul_ge (N := glo * ((2 ^ (1074 - j) : Nat) : Int)) A.1 B.1 (by
    rw [gg]
    refine Int.le_trans ?_ (Int.mul_le_mul A.2.1 B.2.1 (Int.mul_nonneg h2 (Int.le_of_lt pb)) za)
    rw [ab]; exact Int.mul_le_mul_of_nonneg_right e1 (Int.le_of_lt pF)) (oRep.dy g1 (by omega))
  exact ⟨o_fin_between (val64_no.mp (o_dmul_nn A.1 B.1)) (by omega) g1 g2 g l, g, l⟩
theorem oI.div {n m : Nat} {glo ghi k : Nat} {x y : UInt64} (hx : oR (n : Int) 0 x) (hy : oR (m : Int) 0 y) (hm : 0 < m) (hk : k ≤ 1074) (g2 : ghi ≤ 2 ^ 53) (g1 : glo ≤ 2 ^ 53) (e1 : glo * m ≤ n * 2 ^ k) (e2 : n * 2 ^ k ≤ ghi * m) : oI (glo : Int) (ghi : Int) k (FP.ddiv x y) := by
  refine ⟨o_div_fin hx hy hm g2 hk e2, ?_, ?_⟩
  · rw [← Int.natCast_mul]; exact o_div_ge hx hy hm g1 hk e1
  · rw [← Int.natCast_mul]; exact (o_div_le hx hy hm g2 hk e2).2
theorem o_constR {a : UInt64} {c t : Nat} (h : Core.val64 a = .fin false c (-(t : Int))) (ht : t ≤ 1074) : oR (c : Int) t a := by
  refine .mk' ⟨_, _, _, h⟩ ht ?_
  show Core.zval Core.b64 (Core.val64 a) = _
  rw [h]
  show ((c * 2 ^ ((-(t : Int)) - Core.b64.qmin).toNat : Nat) : Int) = _
  rw [o_qmin, show ((-(t : Int)) - (-1074)).toNat = 1074 - t by omega, Int.natCast_mul]
end OwnFP3


section OwnSpeed
open Jvm.FP Jvm.Native.java_lang_Math.nans
theorem o_k54 : oI 151996487423754 151996487423755 48 (4603039107142836552 : UInt64) := by
  have h := o_constR (a := (4603039107142836552 : UInt64)) (c := 4863887597560136) (t := 53) (by decide +kernel) (by decide)
  refine ⟨h.1, ?_, ?_⟩
  · rw [h.z (by decide), show 1074 - 48 = 5 + (1074 - 53) from rfl, o_pwi, ← Int.mul_assoc]
    exact Int.mul_le_mul_of_nonneg_right (by decide) (Int.natCast_nonneg _)
  · rw [h.z (by decide), show 1074 - 48 = 5 + (1074 - 53) from rfl, o_pwi, ← Int.mul_assoc]
    exact Int.mul_le_mul_of_nonneg_right (by decide) (Int.natCast_nonneg _)
theorem o_k266 : oI 4791830003522208 4791830003522208 54 (4598463449921428128 : UInt64) := oI.ofR (o_constR (c := 4791830003522208) (t := 54) (by decide +kernel) (by decide)) (by decide)
theorem o_k1e7 : oR 10000000 0 (4711630319722168320 : UInt64) := by
  have h := o_constR (a := (4711630319722168320 : UInt64)) (c := 5368709120000000) (t := 29) (by decide +kernel) (by decide)
  refine .mk' h.1 (by decide) ?_
  rw [h.z (by decide), show 1074 - 0 = 29 + (1074 - 29) from rfl, o_pwi, ← Int.mul_assoc]; rfl
theorem o_k100 : oR 100 0 (4636737291354636288 : UInt64) := by
  have h := o_constR (a := (4636737291354636288 : UInt64)) (c := 7036874417766400) (t := 46) (by decide +kernel) (by decide)
  refine .mk' h.1 (by decide) ?_
  rw [h.z (by decide), show 1074 - 0 = 46 + (1074 - 46) from rfl, o_pwi, ← Int.mul_assoc]; rfl
theorem o_one48 : oI 281474976710656 281474976710656 48 FP.dconst1 := oI.ofR ((oR.one.up 48).cast (by decide)) (by decide)
theorem o_zero48 : oI 0 0 48 FP.dconst0 := oI.ofR ((oR.zero.up 48).cast (by decide)) (by decide)
theorem o_one0 : oI 1 1 0 FP.dconst1 := oI.ofR oR.one (by decide)
theorem o_zero0 : oI 0 0 0 FP.dconst0 := oI.ofR oR.zero (by decide)
theorem o_hund {n : Nat} {x : UInt64} (hx : oR (n : Int) 0 x) (h : n ≤ 1023) : oI ((n : Int) * 281474976710656 / 100) (((n : Int) * 281474976710656 + 99) / 100) 48 (FP.ddiv x (4636737291354636288 : UInt64)) := by
  have q := oI.div (glo := n * 281474976710656 / 100) (ghi := (n * 281474976710656 + 99) / 100) (k := 48) hx (m := 100) (o_k100) (by decide) (by decide) (by omega) (by omega) (by omega) (by omega)
  refine q.weak ?_ ?_ <;> omega
/-- the rows of the speed at k, where the greater of the density and 0.54 is M, E / 100 but for little -/
theorem o_pt {E : Int} {M : UInt64} (h1 : 54 ≤ E) (h2 : E ≤ 375) (hM : oI (E * 281474976710656 / 100 - 1) (E * 281474976710656 / 100 + 2) 48 M) :
    NoNaN64 (FP.dmul (4598463449921428128 : UInt64) M) ∧ NoNaN64 (FP.dsub FP.dconst1 (FP.dmul (4598463449921428128 : UInt64) M)) ∧
    oI (281474976710656 - 266 * E * 281474976710656 / 100000 - 4) (281474976710656 - 266 * E * 281474976710656 / 100000 + 4) 48 (pick64 true FP.dconst0 (FP.dsub FP.dconst1 (FP.dmul (4598463449921428128 : UInt64) M))) := by
  have hp : oI (266 * E * 281474976710656 / 100000 - 4) (266 * E * 281474976710656 / 100000 + 4) 48 (FP.dmul (4598463449921428128 : UInt64) M) :=
    oI.mul (Pk := 5070602400912917605986812821504) (Pj := 281474976710656) o_k266 hM (by decide) (by omega) rfl rfl ⟨by decide, by decide, by decide⟩ (by omega) (by omega) (by omega) (by omega)
  have ht := oI.sub o_one48 hp (by decide) (by omega) (by omega)
  have ht2 := ht.weak (lo' := 281474976710656 - 266 * E * 281474976710656 / 100000 - 4) (hi' := 281474976710656 - 266 * E * 281474976710656 / 100000 + 4) (by omega) (by omega)
  exact ⟨hp.nn, ht.nn, oI.max o_zero48 ht2 (Or.inr (Int.le_refl _)) (by omega) (Int.le_refl _)⟩
theorem o_pt0 {lo hi : Int} {M : UInt64} (hM : oI lo hi 48 M) (h1 : 1058345912432065 ≤ lo) (h2 : hi ≤ 604462909807314587353088) :
    NoNaN64 (FP.dmul (4598463449921428128 : UInt64) M) ∧ NoNaN64 (FP.dsub FP.dconst1 (FP.dmul (4598463449921428128 : UInt64) M)) ∧ oI 0 0 0 (pick64 true FP.dconst0 (FP.dsub FP.dconst1 (FP.dmul (4598463449921428128 : UInt64) M))) := by
  have hp : oI 1 2147483648 0 (FP.dmul (4598463449921428128 : UInt64) M) :=
    oI.mul (Pk := 5070602400912917605986812821504) (Pj := 1) o_k266 hM (by decide) (by omega) rfl rfl ⟨by decide, by decide, by decide⟩ (by decide) (by decide) (by omega) (by omega)
  have ht := oI.sub o_one0 hp (by decide) (by decide) (by decide)
  exact ⟨hp.nn, ht.nn, oI.max o_zero0 ht (Or.inl (by decide)) (by decide) (by decide)⟩
theorem o_nlu {kc A Kh th S : Int} (k1 : 0 ≤ kc) (k2 : kc ≤ 1023) (a1 : 0 ≤ A) (a2 : A ≤ 100000) (h1 : 100 * Kh ≤ kc * 281474976710656 + 99) (h2 : 100000 * th ≤ A * 281474976710656 + 500000) (p1 : 0 ≤ Kh) (p2 : 0 ≤ th) (hS : kc * A * 281474976710656 < 10000000 * (S + 1)) : Kh * th ≤ (S + 200) * 281474976710656 := by
  have m := Int.mul_le_mul h1 h2 (by omega) (by omega)
  have e1 : 100 * Kh * (100000 * th) = 10000000 * (Kh * th) := by
    rw [Int.mul_assoc, Int.mul_left_comm Kh, ← Int.mul_assoc]; rfl
  have e2 : (kc * 281474976710656 + 99) * (A * 281474976710656 + 500000) = kc * A * 79228162514264337593543950336 + kc * 140737488355328000000 + A * 27866022694354944 + 49500000 := by
    rw [Int.add_mul, Int.mul_add, Int.mul_add]
    have : kc * 281474976710656 * (A * 281474976710656) = kc * A * 79228162514264337593543950336 := by
      rw [Int.mul_assoc, Int.mul_left_comm 281474976710656 A, ← Int.mul_assoc]; rfl
    rw [this]; omega
  rw [e1, e2] at m
  generalize Kh * th = X at *
  generalize kc * A = N at *
  omega
theorem o_nll {kc A Kl tl S : Int} (k1 : 1 ≤ kc) (k2 : kc ≤ 1023) (a1 : 1 ≤ A) (a2 : A ≤ 100000) (h1 : kc * 281474976710656 - 99 ≤ 100 * Kl) (h2 : A * 281474976710656 - 500000 ≤ 100000 * tl) (hS : 10000000 * S ≤ kc * A * 281474976710656) : (S - 200) * 281474976710656 ≤ Kl * tl := by
  have m := Int.mul_le_mul h1 h2 (by omega) (by omega)
  have e1 : 100 * Kl * (100000 * tl) = 10000000 * (Kl * tl) := by
    rw [Int.mul_assoc, Int.mul_left_comm Kl, ← Int.mul_assoc]; rfl
  have e2 : (kc * 281474976710656 - 99) * (A * 281474976710656 - 500000) = kc * A * 79228162514264337593543950336 - kc * 140737488355328000000 - A * 27866022694354944 + 49500000 := by
    rw [Int.sub_mul, Int.mul_sub, Int.mul_sub]
    have : kc * 281474976710656 * (A * 281474976710656) = kc * A * 79228162514264337593543950336 := by
      rw [Int.mul_assoc, Int.mul_left_comm 281474976710656 A, ← Int.mul_assoc]; rfl
    rw [this]; omega
  rw [e1, e2] at m
  generalize Kl * tl = X at *
  generalize kc * A = N at *
  omega
/-- the speed, where the number expected is not nought -/
theorem o_speed {kc E : Int} {k u : UInt64} (k1 : 1 ≤ kc) (k2 : kc ≤ 1023) (h1 : 54 ≤ E) (h2 : E ≤ 375) (hk : oI (kc * 281474976710656 / 100) ((kc * 281474976710656 + 99) / 100) 48 k) (hu : oI (281474976710656 - 266 * E * 281474976710656 / 100000 - 4) (281474976710656 - 266 * E * 281474976710656 / 100000 + 4) 48 u) :
    NoNaN64 (FP.dmul k u) ∧ oI (kc * (100000 - 266 * E) * 1048576 - 524288) (kc * (100000 - 266 * E) * 1048576 + 524288) 20 (FP.dmul (FP.dmul k u) (4711630319722168320 : UInt64)) := by
  obtain ⟨A, hA⟩ : ∃ A, A = 100000 - 266 * E := ⟨_, rfl⟩
  rw [← hA]
  obtain ⟨N, hN⟩ : ∃ N, N = kc * A := ⟨_, rfl⟩
  obtain ⟨S, hS⟩ : ∃ S, S = N * 281474976710656 / 10000000 := ⟨_, rfl⟩
  have n1 : 250 ≤ N := by rw [hN]; exact Int.le_trans (by omega : (250 : Int) ≤ 1 * A) (Int.mul_le_mul_of_nonneg_right k1 (by omega))
  have n2 : N ≤ 102300000 := by rw [hN]; exact Int.le_trans (Int.mul_le_mul k2 (by omega : A ≤ 100000) (by omega) (by decide)) (by decide)
  have uu := o_nlu (kc := kc) (A := A) (Kh := (kc * 281474976710656 + 99) / 100) (th := 281474976710656 - 266 * E * 281474976710656 / 100000 + 4) (S := S) (by omega) k2 (by omega) (by omega) (by omega) (by omega) (by omega) (by omega) (by rw [← hN]; omega)
  have ll := o_nll (kc := kc) (A := A) (Kl := kc * 281474976710656 / 100) (tl := 281474976710656 - 266 * E * 281474976710656 / 100000 - 4) (S := S) k1 k2 (by omega) (by omega) (by omega) (by omega) (by rw [← hN]; omega)
  have hs : oI (S - 200) (S + 200) 48 (FP.dmul k u) := oI.mul (Pk := 79228162514264337593543950336) (Pj := 281474976710656) hk hu (by omega) (by omega) rfl rfl ⟨by decide, by decide, by decide⟩ (by omega) (by omega) (by
      refine Int.le_trans ?_ (Int.mul_le_mul_of_nonneg_right ll (by decide))
      rw [Int.mul_assoc]; exact Int.le_refl _) (by
      refine Int.le_trans (Int.mul_le_mul_of_nonneg_right uu (by decide)) ?_
      rw [Int.mul_assoc]; exact Int.le_refl _)
  refine ⟨hs.nn, ?_⟩
  rw [← hN]
  exact oI.mul (Pk := 281474976710656) (Pj := 1048576) hs (oI.ofR o_k1e7 (by decide)) (by omega) (by decide) rfl rfl ⟨by decide, by decide, by decide⟩ (by omega) (by omega) (by omega) (by omega)
theorem o_speed0 {lo hi : Int} {j k0 : Nat} {k u : UInt64} (hk : oI 0 hi k0 k) (hu : oI 0 0 j u) (hj : k0 ≤ 500 ∧ j ≤ 500) : NoNaN64 (FP.dmul k u) ∧ oz (FP.dmul k u) = 0 := by
  have h : oI 0 0 0 (FP.dmul k u) := oI.mul (Pj := 1) hk hu (Int.le_refl _) (Int.le_refl _) rfl rfl ⟨hj.1, hj.2, by decide⟩ (by decide) (by decide) (by rw [Int.zero_mul, Int.mul_zero, Int.zero_mul]; exact Int.le_refl _) (by rw [Int.mul_zero, Int.zero_mul, Int.zero_mul]; exact Int.le_refl _)
  exact ⟨h.nn, h.z0⟩
theorem o_speed0' {lo hi : Int} {j k0 : Nat} {k u : UInt64} (hk : oI 0 0 k0 k) (hu : oI lo hi j u) (h0 : 0 ≤ lo) (hj : k0 ≤ 500 ∧ j ≤ 500) : NoNaN64 (FP.dmul k u) ∧ oz (FP.dmul k u) = 0 := by
  have h : oI 0 0 0 (FP.dmul k u) := oI.mul (Pj := 1) hk hu (Int.le_refl _) h0 rfl rfl ⟨hj.1, hj.2, by decide⟩ (by decide) (by decide) (by rw [Int.zero_mul, Int.zero_mul, Int.zero_mul]; exact Int.le_refl _) (by rw [Int.zero_mul, Int.zero_mul, Int.zero_mul]; exact Int.le_refl _)
  exact ⟨h.nn, h.z0⟩
end OwnSpeed


theorem pd_maxD : parseMethodDescriptor "(DD)D" = some ⟨[.double, .double], some .double⟩ := by decide +kernel
theorem o_maxCode : jdk_29_method_68_code = Jvm.Free.Fl.Abs.maxDCode := by first | rfl | decide +kernel
theorem g_maxD {p : Program} {l : Launch} {e : Env} {R : Room} {s : State} {m : MethodId} {args : Array Value} {below : List Frame} {meth : Method} {c : Code} {Z : State} {a0 : Array Value} {cells slots : Nat} {T : State} {L : List oEnt} {own nm : String} {code : ByteArray} {maxL : Nat} {ret : Option FieldType} {K : State → Outcome → Prop} {Ls : Array Slot} {st : List Value} {pc pc' : Nat}
    (cx : oCx p s m meth c Z own nm code maxL ret) (o : oOn p l e R s m args below meth c Z cells slots T L) {index : Nat} {x y : UInt64} (w1 : (Jvm.Cond.methodLink own index ⟨"java/lang/Math", "max", "(DD)D"⟩).before a0 Z = true) (w2 : (Jvm.Cond.static ⟨"java/lang/Math", "max", "(DD)D"⟩).before a0 Z = true) (w3 : (Jvm.Cond.initialized "java/lang/Math").before a0 Z = true) (w4 : (Jvm.Cond.code ⟨"java/lang/Math", "max", "(DD)D"⟩ jdk_29_method_68_code 4 (some .double)).before a0 Z = true) (nx : NoNaN64 x) (ny : NoNaN64 y)
    (hsz : Ls.size = maxL) (W : Nat) (hW : (st.map fun v => v.category).sum ≤ W) (hf : 1 ≤ R.frames) (hl : W + 15 ≤ R.locals) (hc : cells ≤ R.cells) (hs : slots ≤ R.slots) (hd : decode code pc = .ok (.invokestatic index, 3)) (hp : pc + 3 = pc')
    (kk : ∀ T', oOn p l e R s m args below meth c Z cells slots T' L → oGo p e below K (T'.setTop (mkF m pc' Ls (.double (Native.java_lang_Math.nans.pick64 true x y) :: st)))) : oGo p e below K (T.setTop (mkF m pc Ls (.double y :: .double x :: st))) := by
  subst hp; rw [o_maxCode] at w4; obtain ⟨lc, X, N, H⟩ := o
  obtain ⟨T', X', e', stp⟩ := natS X cx.1 cx.2.1 cx.2.2.2.2.1 w1 w2 w3 w4 (by decide) rfl (W := W) (fun q => Jvm.Free.Fl.Abs.maxD_pays (W := W) x y q hf hl) (g := mkF m pc Ls (.double y :: .double x :: st)) rfl (hsz.trans cx.2.2.2.1.symm) (argsL := [.double x, .double y]) (rest := st) (lenOf pd_maxD rfl) rfl (by show 2 * 0 + _ ≤ _; omega) (hb cx.2.2.1 hd) hc hs ⟨rfl, nx, ny⟩ rfl
  exact (kk T' ⟨lc, X', N, e' ▸ H⟩).via stp
theorem o_cmpLe (x y : Int64) : XT.cmpL x y = (if y < x then 1 else if x = y then 0 else -1) := rfl
theorem o_cmpL0 (x y : Int64) : XT.cmpL x y = 0 ↔ x.toInt = y.toInt := by
  rw [o_cmpLe, Int64.toInt_inj]
  by_cases h : y < x
  · rw [if_pos h]
    refine ⟨fun q => absurd q (by decide), fun q => ?_⟩
    subst q; exact absurd h (Int64.lt_irrefl)
  · rw [if_neg h]
    by_cases h2 : x = y
    · simp [h2]
    · rw [if_neg h2]; exact ⟨fun q => absurd q (by decide), fun q => absurd q h2⟩
theorem o_cmpLl (x y : Int64) : XT.cmpL x y < 0 ↔ x.toInt < y.toInt := by
  rw [o_cmpLe]
  by_cases h : y < x
  · rw [if_pos h]
    have := Int64.lt_iff_toInt_lt.mp h
    exact ⟨fun q => absurd q (by decide), fun q => absurd q (by omega)⟩
  · rw [if_neg h]
    have h' : ¬ y.toInt < x.toInt := fun q => h (Int64.lt_iff_toInt_lt.mpr q)
    by_cases h2 : x = y
    · rw [if_pos h2, h2]; exact ⟨fun q => absurd q (by decide), fun q => absurd q (by omega)⟩
    · rw [if_neg h2]
      have h3 : x.toInt ≠ y.toInt := fun q => h2 (Int64.toInt_inj.mp q)
      exact ⟨fun _ => by omega, fun _ => by decide⟩
theorem o_m10 (x : Int32) : 0 ≤ (x &&& 1023).toInt ∧ (x &&& 1023).toInt ≤ 1023 := by
  have h := Jvm.Kit.i32_mask x 1023 (k := 10) (by decide) (by decide)
  omega
theorem o_i2dN {x : Int32} (h : 0 ≤ x.toInt) : oR ((x.toInt.toNat : Nat) : Int) 0 (FP.i2d x) := (oR.i2d x).cast (by omega)

theorem d1_0 : decode jdk_29_method_66_code 0 = .ok (.lload_n 0, 1) := by decide +kernel
theorem d1_1 : decode jdk_29_method_66_code 1 = .ok (.lload_n 2, 1) := by decide +kernel
theorem d1_2 : decode jdk_29_method_66_code 2 = .ok (.lcmp, 1) := by decide +kernel
theorem d1_3 : decode jdk_29_method_66_code 3 = .ok (.ifCond .lt 7, 3) := by decide +kernel
theorem d1_6 : decode jdk_29_method_66_code 6 = .ok (.lload_n 0, 1) := by decide +kernel
theorem d1_7 : decode jdk_29_method_66_code 7 = .ok (.goto 4, 3) := by decide +kernel
theorem d1_10 : decode jdk_29_method_66_code 10 = .ok (.lload_n 2, 1) := by decide +kernel
theorem d1_11 : decode jdk_29_method_66_code 11 = .ok (.lreturn, 1) := by decide +kernel
theorem pd_1 : parseMethodDescriptor "(JJ)J" = some ⟨[.long, .long], some .long⟩ := by decide +kernel
set_option maxHeartbeats 4000000 in
theorem ef_1 (m : MethodId) (x0 : Int64) (x1 : Int64) : entryFrame m ([(.long x0), (.long x1)] : List Value).toArray 4 = mkF m 0 #[.val (.long x0), .second, .val (.long x1), .second] [] := by first | (simp [entryFrame, mkF, argsToLocals, Value.category, maxLocals]; done) | rfl
set_option maxHeartbeats 40000000 in
theorem rmML (l : Launch) (Z : State) (a0 : Array Value) (hw : ∀ d ∈ tables_1, d.before a0 Z = true) (x y : Int64) (L : List oEnt) :
    oMeets l Z (⟨"java/lang/Math", "max", "(JJ)J"⟩ : MethodName) jdk_29_method_66_code 4 (some .long) ({ frames := 0, cells := 0, slots := 0, locals := 0 } : Room) [(.long x), (.long y)] L (fun v L' => ∃ r : Int64, v = some (.long r) ∧ (x.toInt ≤ r.toInt ∧ y.toInt ≤ r.toInt ∧ (r.toInt = x.toInt ∨ r.toInt = y.toInt)) ∧ L = L') := by
  refine oMeets.of (y := (⟨"java/lang/Math", "max", "(JJ)J"⟩ : MethodName)) (Jvm.Free.JP.mathPlain rfl (by decide +kernel)) fun p e s m below meth c T cx o => ?_
  refine oGo.top (ef_1 m _ _) ?_
  refine g_lloadN cx o (pc' := 1) d1_0 rfl rfl ?_
  refine g_lloadN cx o (pc' := 2) d1_1 rfl rfl ?_
  refine g_lcmp cx o (pc' := 3) d1_2 rfl ?_
  refine g_if_lt cx o (pc' := 10) (pc2 := 6) d1_3 (by decide) (by decide) rfl (fun c3 => ?_) (fun c3 => ?_)
  · refine g_lloadN cx o (pc' := 11) d1_10 rfl rfl ?_
    have c := (o_cmpLl _ _).mp c3
    exact g_lreturn cx o d1_11 (by decide) (by decide) ⟨_, rfl, ⟨by omega, by omega, Or.inr rfl⟩, rfl⟩
  · refine g_lloadN cx o (pc' := 7) d1_6 rfl rfl ?_
    refine g_goto cx o (pc' := 11) d1_7 (by decide) (by decide) ?_
    have c : ¬ _ := fun z => c3 ((o_cmpLl _ _).mpr z)
    exact g_lreturn cx o d1_11 (by decide) (by decide) ⟨_, rfl, ⟨by omega, by omega, Or.inl rfl⟩, rfl⟩
theorem d2_0 : decode prog_17_method_14_code 0 = .ok (.dload_n 0, 1) := by decide +kernel
theorem d2_1 : decode prog_17_method_14_code 1 = .ok (.dconst 0, 1) := by decide +kernel
theorem d2_2 : decode prog_17_method_14_code 2 = .ok (.dconst 1, 1) := by decide +kernel
theorem d2_3 : decode prog_17_method_14_code 3 = .ok (.ldc2_w 112, 3) := by decide +kernel
theorem d2_6 : decode prog_17_method_14_code 6 = .ok (.dload_n 2, 1) := by decide +kernel
theorem d2_7 : decode prog_17_method_14_code 7 = .ok (.ldc2_w 114, 3) := by decide +kernel
theorem d2_10 : decode prog_17_method_14_code 10 = .ok (.invokestatic 33, 3) := by decide +kernel
theorem d2_13 : decode prog_17_method_14_code 13 = .ok (.dmul, 1) := by decide +kernel
theorem d2_14 : decode prog_17_method_14_code 14 = .ok (.dsub, 1) := by decide +kernel
theorem d2_15 : decode prog_17_method_14_code 15 = .ok (.invokestatic 33, 3) := by decide +kernel
theorem d2_18 : decode prog_17_method_14_code 18 = .ok (.dmul, 1) := by decide +kernel
theorem d2_19 : decode prog_17_method_14_code 19 = .ok (.dreturn, 1) := by decide +kernel
theorem pn_2 : plainName "com/example/stairs_to_street/stairstostreet/HydraulicCalculation" = true := by first | (simp [plainName, overriddenIn]; done) | decide +kernel
theorem pd_2 : parseMethodDescriptor "(DD)D" = some ⟨[.double, .double], some .double⟩ := by decide +kernel
set_option maxHeartbeats 4000000 in
theorem ef_2 (m : MethodId) (x0 : UInt64) (x1 : UInt64) : entryFrame m ([(.double x0), (.double x1)] : List Value).toArray 4 = mkF m 0 #[.val (.double x0), .second, .val (.double x1), .second] [] := by first | (simp [entryFrame, mkF, argsToLocals, Value.category, maxLocals]; done) | rfl
set_option maxHeartbeats 40000000 in
theorem rmSp (l : Launch) (Z : State) (a0 : Array Value) (hw : ∀ d ∈ tables_1, d.before a0 Z = true) (k D : UInt64) (L : List oEnt) (nD : NoNaN64 D) (n1 : NoNaN64 (FP.dmul (4598463449921428128 : UInt64) (Native.java_lang_Math.nans.pick64 true D (4603039107142836552 : UInt64)))) (n2 : NoNaN64 (FP.dsub FP.dconst1 (FP.dmul (4598463449921428128 : UInt64) (Native.java_lang_Math.nans.pick64 true D (4603039107142836552 : UInt64))))) (n3 : NoNaN64 (FP.dmul k (Native.java_lang_Math.nans.pick64 true FP.dconst0 (FP.dsub FP.dconst1 (FP.dmul (4598463449921428128 : UInt64) (Native.java_lang_Math.nans.pick64 true D (4603039107142836552 : UInt64))))))) :
    oMeets l Z (⟨"com/example/stairs_to_street/stairstostreet/HydraulicCalculation", "speed", "(DD)D"⟩ : MethodName) prog_17_method_14_code 4 (some .double) ({ frames := 1, cells := 0, slots := 0, locals := 25 } : Room) [(.double k), (.double D)] L (fun v L' => v = some (.double (FP.dmul k (Native.java_lang_Math.nans.pick64 true FP.dconst0 (FP.dsub FP.dconst1 (FP.dmul (4598463449921428128 : UInt64) (Native.java_lang_Math.nans.pick64 true D (4603039107142836552 : UInt64))))))) ∧ L = L') := by
  refine oMeets.of (y := (⟨"com/example/stairs_to_street/stairstostreet/HydraulicCalculation", "speed", "(DD)D"⟩ : MethodName)) (plainFor_of_name pn_2) fun p e s m below meth c T cx o => ?_
  refine oGo.top (ef_2 m _ _) ?_
  refine g_dloadN cx o (pc' := 1) d2_0 rfl rfl ?_
  refine g_dconst0 cx o (pc' := 2) d2_1 rfl ?_
  refine g_dconst1 cx o (pc' := 3) d2_2 rfl ?_
  refine g_ldc2D cx o (pc' := 6) (hw _ (List.mem_of_getElem? (i := 12) rfl)) d2_3 rfl ?_
  refine g_dloadN cx o (pc' := 7) d2_6 rfl rfl ?_
  refine g_ldc2D cx o (pc' := 10) (hw _ (List.mem_of_getElem? (i := 13) rfl)) d2_7 rfl ?_
  refine g_maxD cx o (pc' := 13) (hw _ (List.mem_of_getElem? (i := 14) rfl)) (hw _ (List.mem_of_getElem? (i := 15) rfl)) (hw _ (List.mem_of_getElem? (i := 4) rfl)) (hw _ (List.mem_of_getElem? (i := 16) rfl)) nD o_k54.nn rfl 8 (Nat.le_of_eq rfl) (by decide) (by decide) (by decide) (by decide) d2_10 rfl (fun T o => ?_)
  refine g_dmul cx o (pc' := 14) d2_13 rfl n1 ?_
  refine g_dsub cx o (pc' := 15) d2_14 rfl n2 ?_
  refine g_maxD cx o (pc' := 18) (hw _ (List.mem_of_getElem? (i := 14) rfl)) (hw _ (List.mem_of_getElem? (i := 15) rfl)) (hw _ (List.mem_of_getElem? (i := 4) rfl)) (hw _ (List.mem_of_getElem? (i := 16) rfl)) oR.zero.nn n2 rfl 2 (Nat.le_of_eq rfl) (by decide) (by decide) (by decide) (by decide) d2_15 rfl (fun T o => ?_)
  refine g_dmul cx o (pc' := 19) d2_18 rfl n3 ?_
  exact g_dreturn cx o d2_19 (by decide) (by decide) ⟨rfl, rfl⟩
theorem pn_0 : plainName "com/example/stairs_to_street/stairstostreet/HydraulicCalculationSpeedPinLaw" = true := by first | (simp [plainName, overriddenIn]; done) | decide +kernel
theorem pd_0 : parseMethodDescriptor "(III)Z" = some ⟨[.int, .int, .int], some .boolean⟩ := by decide +kernel
set_option maxHeartbeats 4000000 in
theorem ef_0 (m : MethodId) (x0 : Int32) (x1 : Int32) (x2 : Int32) : entryFrame m ([(.int x0), (.int x1), (.int x2)] : List Value).toArray maxLocals = mkF m 0 #[.val (.int x0), .val (.int x1), .val (.int x2), .unset, .unset, .unset, .unset, .unset, .unset, .unset, .unset, .unset, .unset, .unset, .unset, .unset, .unset, .unset, .unset] [] := by first | (simp [entryFrame, mkF, argsToLocals, Value.category, maxLocals]; done) | rfl
set_option maxHeartbeats 40000000 in
theorem rm0 (l : Launch) (Z : State) (a0 : Array Value) (hw : ∀ d ∈ tables_1, d.before a0 Z = true) (p0 p1 p2 : Int32) :
    oMeets l Z x code maxLocals ret room_1 [(.int p0), (.int p1), (.int p2)] [] (fun v _ => v = some (.int 1)) := by
  refine oMeets.of (y := x) (plainFor_of_name pn_0) fun p e s m below meth c T cx o => ?_
  have cx : oCx p s m meth c Z "com/example/stairs_to_street/stairstostreet/HydraulicCalculationSpeedPinLaw" "law" code maxLocals ret := cx
  refine oGo.top (ef_0 m _ _ _) ?_
  refine g_iloadN cx o (pc' := 1) at_0 rfl rfl ?_
  refine g_sipush cx o (pc' := 4) (1023 : Int32) at_1 rfl (by decide) ?_
  refine g_iand cx o (pc' := 5) at_4 rfl ?_
  refine g_istoreNV cx o (pc' := 6) (fun w' => #[.val (.int p0), .val (.int p1), .val (.int p2), .val (.int w'), .unset, .unset, .unset, .unset, .unset, .unset, .unset, .unset, .unset, .unset, .unset, .unset, .unset, .unset, .unset]) at_5 rfl (fun _ => rfl) (fun kc h_kc => ?_)
  refine g_iloadN cx o (pc' := 7) at_6 rfl rfl ?_
  refine g_i2d cx o (pc' := 8) at_7 rfl ?_
  refine g_ldc2D cx o (pc' := 11) (hw _ (List.mem_of_getElem? (i := 0) rfl)) at_8 rfl ?_
  have kk : 0 ≤ kc.toInt ∧ kc.toInt ≤ 1023 := by rw [h_kc]; exact o_m10 _
  have Rk := o_i2dN kk.1
  have Ik := o_hund Rk (by omega)
  rw [show (((kc.toInt.toNat : Nat)) : Int) = kc.toInt by omega] at Ik
  refine g_ddiv cx o (pc' := 12) at_11 rfl Ik.nn ?_
  refine g_dstoreV cx o (pc' := 14) (fun w' => #[.val (.int p0), .val (.int p1), .val (.int p2), .val (.int kc), .val (.double w'), .second, .unset, .unset, .unset, .unset, .unset, .unset, .unset, .unset, .unset, .unset, .unset, .unset, .unset]) at_12 rfl (fun _ => rfl) (fun k h_k => ?_)
  refine g_iloadN cx o (pc' := 15) at_14 rfl rfl ?_
  refine g_iconst cx o (pc' := 16) (1 : Int32) at_15 rfl rfl ?_
  refine g_iand cx o (pc' := 17) at_16 rfl ?_
  rw [← h_k] at Ik
  refine g_if_eq cx o (pc' := 24) (pc2 := 20) at_17 (by decide) (by decide) rfl (fun c17 => ?_) (fun c17 => ?_)
  · refine g_iconst cx o (pc' := 25) (0 : Int32) at_24 rfl rfl ?_
    refine g_istore cx o (pc' := 27) (l' := #[.val (.int p0), .val (.int p1), .val (.int p2), .val (.int kc), .val (.double k), .second, .val (.int (0 : Int32)), .unset, .unset, .unset, .unset, .unset, .unset, .unset, .unset, .unset, .unset, .unset, .unset]) at_25 rfl rfl ?_
    refine g_iload cx o (pc' := 29) at_27 rfl rfl ?_
    refine g_if_eq cx o (pc' := 47) (pc2 := 32) at_29 (by decide) (by decide) rfl (fun c29 => ?_) (fun c29 => absurd (by decide) c29)
    refine g_iloadN cx o (pc' := 48) at_47 rfl rfl ?_
    refine g_sipush cx o (pc' := 51) (1023 : Int32) at_48 rfl (by decide) ?_
    refine g_iand cx o (pc' := 52) at_51 rfl ?_
    refine g_istoreV cx o (pc' := 54) (fun w' => #[.val (.int p0), .val (.int p1), .val (.int p2), .val (.int kc), .val (.double k), .second, .val (.int (0 : Int32)), .unset, .unset, .unset, .unset, .val (.int w'), .unset, .unset, .unset, .unset, .unset, .unset, .unset]) at_52 rfl (fun _ => rfl) (fun ii h_ii => ?_)
    refine g_iload cx o (pc' := 56) at_54 rfl rfl ?_
    refine g_i2l cx o (pc' := 57) at_56 rfl ?_
    have ki : 0 ≤ ii.toInt ∧ ii.toInt ≤ 1023 := by rw [h_ii]; exact o_m10 _
    have Ri := o_i2dN ki.1
    have ID := o_hund Ri (by omega)
    rw [show (((ii.toInt.toNat : Nat)) : Int) = ii.toInt by omega] at ID
    refine g_lstore cx o (pc' := 59) (l' := #[.val (.int p0), .val (.int p1), .val (.int p2), .val (.int kc), .val (.double k), .second, .val (.int (0 : Int32)), .val (.long (ii.toInt64)), .second, .unset, .unset, .val (.int ii), .unset, .unset, .unset, .unset, .unset, .unset, .unset]) at_57 rfl rfl ?_
    refine g_iload cx o (pc' := 61) at_59 rfl rfl ?_
    refine g_i2d cx o (pc' := 62) at_61 rfl ?_
    refine g_ldc2D cx o (pc' := 65) (hw _ (List.mem_of_getElem? (i := 0) rfl)) at_62 rfl ?_
    refine g_ddiv cx o (pc' := 66) at_65 rfl ID.nn ?_
    refine g_dstoreV cx o (pc' := 68) (fun w' => #[.val (.int p0), .val (.int p1), .val (.int p2), .val (.int kc), .val (.double k), .second, .val (.int (0 : Int32)), .val (.long (ii.toInt64)), .second, .val (.double w'), .second, .val (.int ii), .unset, .unset, .unset, .unset, .unset, .unset, .unset]) at_66 rfl (fun _ => rfl) (fun D h_D => ?_)
    rw [← h_D] at ID
    refine g_lload cx o (pc' := 70) at_68 rfl rfl ?_
    refine g_ldc2L cx o (pc' := 73) (z := 54) (hw _ (List.mem_of_getElem? (i := 1) rfl)) at_70 rfl ?_
    refine g_static cx o (pc' := 76) (y := (⟨"java/lang/Math", "max", "(JJ)J"⟩ : MethodName)) (hw _ (List.mem_of_getElem? (i := 2) rfl)) (hw _ (List.mem_of_getElem? (i := 3) rfl)) (hw _ (List.mem_of_getElem? (i := 4) rfl)) (hw _ (List.mem_of_getElem? (i := 5) rfl)) (rmML l Z a0 hw _ _ _)  rfl pd_1 rfl (by decide) rfl 0 (Nat.le_of_eq rfl) (by decide) (by decide) (by decide) (by decide) at_73 rfl (fun T v L hQ o => ?_)
    obtain ⟨ef, rfl, kf, rfl⟩ := hQ
    simp only [Option.toList_some, Option.toList_none, List.cons_append, List.nil_append]
    have f54 : (54 : Int64).toInt = 54 := rfl
    have f266 : (266 : Int64).toInt = 266 := rfl
    have f1k : (100000 : Int64).toInt = 100000 := rfl
    rw [f54] at kf
    rw [Jvm.Kit.i64_of_i32] at kf
    have km : ((266 : Int64) * ef).toInt = 266 * ef.toInt := by rw [Jvm.Kit.i64_mul (by rw [f266]; omega) (by rw [f266]; omega), f266]
    refine g_lstore cx o (pc' := 78) (l' := #[.val (.int p0), .val (.int p1), .val (.int p2), .val (.int kc), .val (.double k), .second, .val (.int (0 : Int32)), .val (.long (ii.toInt64)), .second, .val (.double D), .second, .val (.long ef), .second, .unset, .unset, .unset, .unset, .unset, .unset]) at_76 rfl rfl ?_
    refine g_ldc2L cx o (pc' := 81) (z := 266) (hw _ (List.mem_of_getElem? (i := 6) rfl)) at_78 rfl ?_
    refine g_lload cx o (pc' := 83) at_81 rfl rfl ?_
    refine g_lmul cx o (pc' := 84) at_83 rfl ?_
    refine g_ldc2L cx o (pc' := 87) (z := 100000) (hw _ (List.mem_of_getElem? (i := 7) rfl)) at_84 rfl ?_
    refine g_lcmp cx o (pc' := 88) at_87 rfl ?_
    refine g_if_lt cx o (pc' := 97) (pc2 := 91) at_88 (by decide) (by decide) rfl (fun c88 => ?_) (fun c88 => ?_)
    · have c := (o_cmpLl _ _).mp c88
      rw [km, f1k] at c
      have hM : oI (ef.toInt * 281474976710656 / 100 - 1) (ef.toInt * 281474976710656 / 100 + 2) 48 (Native.java_lang_Math.nans.pick64 true D (4603039107142836552 : UInt64)) := oI.max ID o_k54 (by omega) (by omega) (by omega)
      obtain ⟨n1, n2, hu⟩ := o_pt kf.2.1 (by omega) hM
      have ka : ((100000 : Int64) - (266 : Int64) * ef).toInt = 100000 - 266 * ef.toInt := by rw [Jvm.Kit.i64_sub (by rw [f1k, km]; omega) (by rw [f1k, km]; omega), f1k, km]
      have kb : kc.toInt64.toInt = kc.toInt := Jvm.Kit.i64_of_i32 kc
      have mb : 0 ≤ kc.toInt * (100000 - 266 * ef.toInt) ∧ kc.toInt * (100000 - 266 * ef.toInt) ≤ 1023 * 100000 := ⟨Int.mul_nonneg kk.1 (by omega), Int.mul_le_mul kk.2 (by omega) (by omega) (by decide)⟩
      have kn : (kc.toInt64 * ((100000 : Int64) - (266 : Int64) * ef)).toInt = kc.toInt * (100000 - 266 * ef.toInt) := by rw [Jvm.Kit.i64_mul (by rw [kb, ka]; omega) (by rw [kb, ka]; omega), kb, ka]
      refine g_iloadN cx o (pc' := 98) at_97 rfl rfl ?_
      refine g_i2l cx o (pc' := 99) at_98 rfl ?_
      refine g_ldc2L cx o (pc' := 102) (z := 100000) (hw _ (List.mem_of_getElem? (i := 7) rfl)) at_99 rfl ?_
      refine g_ldc2L cx o (pc' := 105) (z := 266) (hw _ (List.mem_of_getElem? (i := 6) rfl)) at_102 rfl ?_
      refine g_lload cx o (pc' := 107) at_105 rfl rfl ?_
      refine g_lmul cx o (pc' := 108) at_107 rfl ?_
      refine g_lsub cx o (pc' := 109) at_108 rfl ?_
      refine g_lmul cx o (pc' := 110) at_109 rfl ?_
      refine g_lstoreV cx o (pc' := 112) (fun w' => #[.val (.int p0), .val (.int p1), .val (.int p2), .val (.int kc), .val (.double k), .second, .val (.int (0 : Int32)), .val (.long (ii.toInt64)), .second, .val (.double D), .second, .val (.long ef), .second, .val (.long w'), .second, .unset, .unset, .unset, .unset]) at_110 rfl (fun _ => rfl) (fun num h_num => ?_)
      rw [← h_num] at kn
      by_cases k0 : kc.toInt = 0
      · rw [k0] at Ik kn
        have Ik0 := Ik.weak (lo' := 0) (hi' := 0) (by decide) (by decide)
        obtain ⟨n3, eq0⟩ := o_speed0' Ik0 hu (by omega) ⟨by decide, by decide⟩
        refine g_dload cx o (pc' := 114) at_112 rfl rfl ?_
        refine g_dload cx o (pc' := 116) at_114 rfl rfl ?_
        refine g_static cx o (pc' := 119) (y := (⟨"com/example/stairs_to_street/stairstostreet/HydraulicCalculation", "speed", "(DD)D"⟩ : MethodName)) (hw _ (List.mem_of_getElem? (i := 8) rfl)) (hw _ (List.mem_of_getElem? (i := 9) rfl)) (hw _ (List.mem_of_getElem? (i := 10) rfl)) (hw _ (List.mem_of_getElem? (i := 11) rfl)) (rmSp l Z a0 hw k D _ ID.nn n1 n2 n3)  rfl pd_2 rfl (by decide) rfl 0 (Nat.le_of_eq rfl) (by decide) (by decide) (by decide) (by decide) at_116 rfl (fun T v L hQ o => ?_)
        obtain ⟨rfl, rfl⟩ := hQ
        simp only [Option.toList_some, Option.toList_none, List.cons_append, List.nil_append]
        refine g_dstoreV cx o (pc' := 121) (fun w' => #[.val (.int p0), .val (.int p1), .val (.int p2), .val (.int kc), .val (.double k), .second, .val (.int (0 : Int32)), .val (.long (ii.toInt64)), .second, .val (.double D), .second, .val (.long ef), .second, .val (.long num), .second, .val (.double w'), .second, .unset, .unset]) at_119 rfl (fun _ => rfl) (fun sp h_sp => ?_)
        refine g_lload cx o (pc' := 123) at_121 rfl rfl ?_
        refine g_lconst cx o (pc' := 124) (0 : Int64) at_123 rfl rfl ?_
        refine g_lcmp cx o (pc' := 125) at_124 rfl ?_
        rw [← h_sp] at n3 eq0
        refine g_if_ne cx o (pc' := 141) (pc2 := 128) at_125 (by decide) (by decide) rfl (fun c125 => absurd ((o_cmpL0 _ _).mpr (by rw [kn, Int.zero_mul]; rfl)) c125) (fun c125 => ?_)
        refine g_dload cx o (pc' := 130) at_128 rfl rfl ?_
        refine g_dconst0 cx o (pc' := 131) at_130 rfl ?_
        refine g_dcmp cx o (pc' := 132) at_131 rfl ?_
        refine g_if_ne cx o (pc' := 139) (pc2 := 135) at_132 (by decide) (by decide) rfl (fun c132 => absurd (by rw [o_cvz n3 oR.zero.nn, eq0, o_oz0, if_neg (by omega), if_pos rfl]) c132) (fun c132 => ?_)
        refine g_iconst cx o (pc' := 136) (1 : Int32) at_135 rfl rfl ?_
        refine g_goto cx o (pc' := 140) at_136 (by decide) (by decide) ?_
        exact g_ireturnZ cx o at_140 (by decide) (by decide) (by decide) rfl
      · obtain ⟨n3, hs⟩ := o_speed (by omega) kk.2 kf.2.1 (by omega) Ik hu
        refine g_dload cx o (pc' := 114) at_112 rfl rfl ?_
        refine g_dload cx o (pc' := 116) at_114 rfl rfl ?_
        refine g_static cx o (pc' := 119) (y := (⟨"com/example/stairs_to_street/stairstostreet/HydraulicCalculation", "speed", "(DD)D"⟩ : MethodName)) (hw _ (List.mem_of_getElem? (i := 8) rfl)) (hw _ (List.mem_of_getElem? (i := 9) rfl)) (hw _ (List.mem_of_getElem? (i := 10) rfl)) (hw _ (List.mem_of_getElem? (i := 11) rfl)) (rmSp l Z a0 hw k D _ ID.nn n1 n2 n3)  rfl pd_2 rfl (by decide) rfl 0 (Nat.le_of_eq rfl) (by decide) (by decide) (by decide) (by decide) at_116 rfl (fun T v L hQ o => ?_)
        obtain ⟨rfl, rfl⟩ := hQ
        simp only [Option.toList_some, Option.toList_none, List.cons_append, List.nil_append]
        refine g_dstoreV cx o (pc' := 121) (fun w' => #[.val (.int p0), .val (.int p1), .val (.int p2), .val (.int kc), .val (.double k), .second, .val (.int (0 : Int32)), .val (.long (ii.toInt64)), .second, .val (.double D), .second, .val (.long ef), .second, .val (.long num), .second, .val (.double w'), .second, .unset, .unset]) at_119 rfl (fun _ => rfl) (fun sp h_sp => ?_)
        refine g_lload cx o (pc' := 123) at_121 rfl rfl ?_
        refine g_lconst cx o (pc' := 124) (0 : Int64) at_123 rfl rfl ?_
        refine g_lcmp cx o (pc' := 125) at_124 rfl ?_
        rw [← h_sp] at n3 hs
        have nb : 250 ≤ num.toInt := by rw [kn]; exact Int.le_trans (by omega : (250 : Int) ≤ 1 * (100000 - 266 * ef.toInt)) (Int.mul_le_mul_of_nonneg_right (by omega) (by omega))
        rw [← kn] at hs mb
        have o1 : (1 : Int64).toInt = 1 := rfl
        have z0 : (0 : Int64).toInt = 0 := rfl
        have n_1 : (num - 1).toInt = num.toInt - 1 := by rw [Jvm.Kit.i64_sub (by rw [o1]; omega) (by rw [o1]; omega), o1]
        have n_2 : (num + 1).toInt = num.toInt + 1 := by rw [Jvm.Kit.i64_add (by rw [o1]; omega) (by rw [o1]; omega), o1]
        have R1 : oR (num.toInt - 1) 0 (FP.l2d (num - 1)) := (oR.l2d (by rw [n_1]; omega)).cast n_1
        have R2 : oR (num.toInt + 1) 0 (FP.l2d (num + 1)) := (oR.l2d (by rw [n_2]; omega)).cast n_2
        have pw : ((2 ^ (1074 - 0) : Nat) : Int) = 1048576 * ((2 ^ (1074 - 20) : Nat) : Int) := by rw [show 1074 - 0 = 20 + (1074 - 20) from rfl, o_pwi]; rfl
        have pp := o_pow_pos (1074 - 20)
        have lo1 : oz (FP.l2d (num - 1)) < oz (FP.dmul sp (4711630319722168320 : UInt64)) := by
          refine Int.lt_of_lt_of_le ?_ hs.2.1
          rw [R1.z (by decide), pw, ← Int.mul_assoc]
          exact Int.mul_lt_mul_of_pos_right (by omega) pp
        have hi1 : oz (FP.dmul sp (4711630319722168320 : UInt64)) < oz (FP.l2d (num + 1)) := by
          refine Int.lt_of_le_of_lt hs.2.2 ?_
          rw [R2.z (by decide), pw, ← Int.mul_assoc]
          exact Int.mul_lt_mul_of_pos_right (by omega) pp
        refine g_if_ne cx o (pc' := 141) (pc2 := 128) at_125 (by decide) (by decide) rfl (fun c125 => ?_) (fun c125 => absurd ((o_cmpL0 _ _).mp c125) (by rw [z0]; omega))
        refine g_dload cx o (pc' := 143) at_141 rfl rfl ?_
        refine g_ldc2D cx o (pc' := 146) (hw _ (List.mem_of_getElem? (i := 18) rfl)) at_143 rfl ?_
        refine g_dmul cx o (pc' := 147) at_146 rfl hs.nn ?_
        refine g_dstoreV cx o (pc' := 149) (fun w' => #[.val (.int p0), .val (.int p1), .val (.int p2), .val (.int kc), .val (.double k), .second, .val (.int (0 : Int32)), .val (.long (ii.toInt64)), .second, .val (.double D), .second, .val (.long ef), .second, .val (.long num), .second, .val (.double sp), .second, .val (.double w'), .second]) at_147 rfl (fun _ => rfl) (fun sc h_sc => ?_)
        refine g_dload cx o (pc' := 151) at_149 rfl rfl ?_
        refine g_lload cx o (pc' := 153) at_151 rfl rfl ?_
        refine g_lconst cx o (pc' := 154) (1 : Int64) at_153 rfl rfl ?_
        refine g_lsub cx o (pc' := 155) at_154 rfl ?_
        refine g_l2d cx o (pc' := 156) at_155 rfl ?_
        refine g_dcmp cx o (pc' := 157) at_156 rfl ?_
        rw [← h_sc] at lo1 hi1
        have nsc : NoNaN64 sc := by rw [h_sc]; exact hs.nn
        refine g_if_le cx o (pc' := 175) (pc2 := 160) at_157 (by decide) (by decide) rfl (fun c157 => absurd (by rw [o_cvz nsc R1.nn, if_neg (by omega), if_neg (by omega)]; decide) c157) (fun c157 => ?_)
        refine g_dload cx o (pc' := 162) at_160 rfl rfl ?_
        refine g_lload cx o (pc' := 164) at_162 rfl rfl ?_
        refine g_lconst cx o (pc' := 165) (1 : Int64) at_164 rfl rfl ?_
        refine g_ladd cx o (pc' := 166) at_165 rfl ?_
        refine g_l2d cx o (pc' := 167) at_166 rfl ?_
        refine g_dcmp cx o (pc' := 168) at_167 rfl ?_
        refine g_if_ge cx o (pc' := 175) (pc2 := 171) at_168 (by decide) (by decide) rfl (fun c168 => absurd (by rw [o_cvz nsc R2.nn, if_pos hi1]; decide) c168) (fun c168 => ?_)
        refine g_iconst cx o (pc' := 172) (1 : Int32) at_171 rfl rfl ?_
        refine g_goto cx o (pc' := 176) at_172 (by decide) (by decide) ?_
        exact g_ireturnZ cx o at_176 (by decide) (by decide) (by decide) rfl
    · have c : ¬ _ := fun z => c88 ((o_cmpLl _ _).mpr z)
      rw [km, f1k] at c
      obtain ⟨lo, hi, hM, l1, l2⟩ : ∃ lo hi, oI lo hi 48 (Native.java_lang_Math.nans.pick64 true D (4603039107142836552 : UInt64)) ∧ 1058345912432065 ≤ lo ∧ hi ≤ 604462909807314587353088 := ⟨_, _, oI.max (lo := ii.toInt * 281474976710656 / 100) (hi := 604462909807314587353088) ID o_k54 (Or.inl (Int.le_refl _)) (by omega) (by omega), by omega, Int.le_refl _⟩
      obtain ⟨n1, n2, hu⟩ := o_pt0 hM l1 l2
      obtain ⟨n3, eq0⟩ := o_speed0 (lo := 0) (Ik.weak (lo' := 0) (by omega) (Int.le_refl _)) hu ⟨by decide, by decide⟩
      refine g_lconst cx o (pc' := 92) (0 : Int64) at_91 rfl rfl ?_
      refine g_lstore cx o (pc' := 94) (l' := #[.val (.int p0), .val (.int p1), .val (.int p2), .val (.int kc), .val (.double k), .second, .val (.int (0 : Int32)), .val (.long (ii.toInt64)), .second, .val (.double D), .second, .val (.long ef), .second, .val (.long (0 : Int64)), .second, .unset, .unset, .unset, .unset]) at_92 rfl rfl ?_
      refine g_goto cx o (pc' := 112) at_94 (by decide) (by decide) ?_
      refine g_dload cx o (pc' := 114) at_112 rfl rfl ?_
      refine g_dload cx o (pc' := 116) at_114 rfl rfl ?_
      refine g_static cx o (pc' := 119) (y := (⟨"com/example/stairs_to_street/stairstostreet/HydraulicCalculation", "speed", "(DD)D"⟩ : MethodName)) (hw _ (List.mem_of_getElem? (i := 8) rfl)) (hw _ (List.mem_of_getElem? (i := 9) rfl)) (hw _ (List.mem_of_getElem? (i := 10) rfl)) (hw _ (List.mem_of_getElem? (i := 11) rfl)) (rmSp l Z a0 hw k D _ ID.nn n1 n2 n3)  rfl pd_2 rfl (by decide) rfl 0 (Nat.le_of_eq rfl) (by decide) (by decide) (by decide) (by decide) at_116 rfl (fun T v L hQ o => ?_)
      obtain ⟨rfl, rfl⟩ := hQ
      simp only [Option.toList_some, Option.toList_none, List.cons_append, List.nil_append]
      refine g_dstoreV cx o (pc' := 121) (fun w' => #[.val (.int p0), .val (.int p1), .val (.int p2), .val (.int kc), .val (.double k), .second, .val (.int (0 : Int32)), .val (.long (ii.toInt64)), .second, .val (.double D), .second, .val (.long ef), .second, .val (.long (0 : Int64)), .second, .val (.double w'), .second, .unset, .unset]) at_119 rfl (fun _ => rfl) (fun sp h_sp => ?_)
      refine g_lload cx o (pc' := 123) at_121 rfl rfl ?_
      refine g_lconst cx o (pc' := 124) (0 : Int64) at_123 rfl rfl ?_
      refine g_lcmp cx o (pc' := 125) at_124 rfl ?_
      rw [← h_sp] at n3 eq0
      refine g_if_ne cx o (pc' := 141) (pc2 := 128) at_125 (by decide) (by decide) rfl (fun c125 => absurd ((o_cmpL0 _ _).mpr rfl) c125) (fun c125 => ?_)
      refine g_dload cx o (pc' := 130) at_128 rfl rfl ?_
      refine g_dconst0 cx o (pc' := 131) at_130 rfl ?_
      refine g_dcmp cx o (pc' := 132) at_131 rfl ?_
      refine g_if_ne cx o (pc' := 139) (pc2 := 135) at_132 (by decide) (by decide) rfl (fun c132 => absurd (by rw [o_cvz n3 oR.zero.nn, eq0, o_oz0, if_neg (by omega), if_pos rfl]) c132) (fun c132 => ?_)
      refine g_iconst cx o (pc' := 136) (1 : Int32) at_135 rfl rfl ?_
      refine g_goto cx o (pc' := 140) at_136 (by decide) (by decide) ?_
      exact g_ireturnZ cx o at_140 (by decide) (by decide) (by decide) rfl
  · refine g_iconst cx o (pc' := 21) (1 : Int32) at_20 rfl rfl ?_
    refine g_goto cx o (pc' := 25) at_21 (by decide) (by decide) ?_
    refine g_istore cx o (pc' := 27) (l' := #[.val (.int p0), .val (.int p1), .val (.int p2), .val (.int kc), .val (.double k), .second, .val (.int (1 : Int32)), .unset, .unset, .unset, .unset, .unset, .unset, .unset, .unset, .unset, .unset, .unset, .unset]) at_25 rfl rfl ?_
    refine g_iload cx o (pc' := 29) at_27 rfl rfl ?_
    refine g_if_eq cx o (pc' := 47) (pc2 := 32) at_29 (by decide) (by decide) rfl (fun c29 => absurd c29 (by decide)) (fun c29 => ?_)
    refine g_iloadN cx o (pc' := 33) at_32 rfl rfl ?_
    refine g_i2l cx o (pc' := 34) at_33 rfl ?_
    refine g_ldc2L cx o (pc' := 37) (z := 100) (hw _ (List.mem_of_getElem? (i := 17) rfl)) at_34 rfl ?_
    refine g_lmul cx o (pc' := 38) at_37 rfl ?_
    refine g_lstoreV cx o (pc' := 40) (fun w' => #[.val (.int p0), .val (.int p1), .val (.int p2), .val (.int kc), .val (.double k), .second, .val (.int (1 : Int32)), .val (.long w'), .second, .unset, .unset, .unset, .unset, .unset, .unset, .unset, .unset, .unset, .unset]) at_38 rfl (fun _ => rfl) (fun hh h_hh => ?_)
    refine g_iloadN cx o (pc' := 41) at_40 rfl rfl ?_
    refine g_i2d cx o (pc' := 42) at_41 rfl ?_
    refine g_dstoreV cx o (pc' := 44) (fun w' => #[.val (.int p0), .val (.int p1), .val (.int p2), .val (.int kc), .val (.double k), .second, .val (.int (1 : Int32)), .val (.long hh), .second, .val (.double w'), .second, .unset, .unset, .unset, .unset, .unset, .unset, .unset, .unset]) at_42 rfl (fun _ => rfl) (fun D h_D => ?_)
    refine g_goto cx o (pc' := 68) at_44 (by decide) (by decide) ?_
    have q100 : (100 : Int64).toInt = 100 := rfl
    have u1 := p1.toInt_lt
    have u2 := p1.le_toInt
    have kp1 : p1.toInt64.toInt = p1.toInt := Jvm.Kit.i64_of_i32 p1
    have kh : hh.toInt = p1.toInt * 100 := by rw [h_hh, Jvm.Kit.i64_mul (by rw [kp1, q100]; omega) (by rw [kp1, q100]; omega), kp1, q100]
    have ID : oI (p1.toInt * 281474976710656) (p1.toInt * 281474976710656) 48 D := by rw [h_D]; exact oI.ofR (((oR.i2d p1).up 48).cast (by rw [show ((2 ^ 48 : Nat) : Int) = 281474976710656 from rfl])) (by decide)
    refine g_lload cx o (pc' := 70) at_68 rfl rfl ?_
    refine g_ldc2L cx o (pc' := 73) (z := 54) (hw _ (List.mem_of_getElem? (i := 1) rfl)) at_70 rfl ?_
    refine g_static cx o (pc' := 76) (y := (⟨"java/lang/Math", "max", "(JJ)J"⟩ : MethodName)) (hw _ (List.mem_of_getElem? (i := 2) rfl)) (hw _ (List.mem_of_getElem? (i := 3) rfl)) (hw _ (List.mem_of_getElem? (i := 4) rfl)) (hw _ (List.mem_of_getElem? (i := 5) rfl)) (rmML l Z a0 hw _ _ _)  rfl pd_1 rfl (by decide) rfl 0 (Nat.le_of_eq rfl) (by decide) (by decide) (by decide) (by decide) at_73 rfl (fun T v L hQ o => ?_)
    obtain ⟨ef, rfl, kf, rfl⟩ := hQ
    simp only [Option.toList_some, Option.toList_none, List.cons_append, List.nil_append]
    have f54 : (54 : Int64).toInt = 54 := rfl
    have f266 : (266 : Int64).toInt = 266 := rfl
    have f1k : (100000 : Int64).toInt = 100000 := rfl
    rw [f54] at kf
    rw [kh] at kf
    have km : ((266 : Int64) * ef).toInt = 266 * ef.toInt := by rw [Jvm.Kit.i64_mul (by rw [f266]; omega) (by rw [f266]; omega), f266]
    refine g_lstore cx o (pc' := 78) (l' := #[.val (.int p0), .val (.int p1), .val (.int p2), .val (.int kc), .val (.double k), .second, .val (.int (1 : Int32)), .val (.long hh), .second, .val (.double D), .second, .val (.long ef), .second, .unset, .unset, .unset, .unset, .unset, .unset]) at_76 rfl rfl ?_
    refine g_ldc2L cx o (pc' := 81) (z := 266) (hw _ (List.mem_of_getElem? (i := 6) rfl)) at_78 rfl ?_
    refine g_lload cx o (pc' := 83) at_81 rfl rfl ?_
    refine g_lmul cx o (pc' := 84) at_83 rfl ?_
    refine g_ldc2L cx o (pc' := 87) (z := 100000) (hw _ (List.mem_of_getElem? (i := 7) rfl)) at_84 rfl ?_
    refine g_lcmp cx o (pc' := 88) at_87 rfl ?_
    refine g_if_lt cx o (pc' := 97) (pc2 := 91) at_88 (by decide) (by decide) rfl (fun c88 => ?_) (fun c88 => ?_)
    · have c := (o_cmpLl _ _).mp c88
      rw [km, f1k] at c
      have hM : oI (ef.toInt * 281474976710656 / 100 - 1) (ef.toInt * 281474976710656 / 100 + 2) 48 (Native.java_lang_Math.nans.pick64 true D (4603039107142836552 : UInt64)) := oI.max ID o_k54 (by omega) (by omega) (by omega)
      obtain ⟨n1, n2, hu⟩ := o_pt kf.2.1 (by omega) hM
      have ka : ((100000 : Int64) - (266 : Int64) * ef).toInt = 100000 - 266 * ef.toInt := by rw [Jvm.Kit.i64_sub (by rw [f1k, km]; omega) (by rw [f1k, km]; omega), f1k, km]
      have kb : kc.toInt64.toInt = kc.toInt := Jvm.Kit.i64_of_i32 kc
      have mb : 0 ≤ kc.toInt * (100000 - 266 * ef.toInt) ∧ kc.toInt * (100000 - 266 * ef.toInt) ≤ 1023 * 100000 := ⟨Int.mul_nonneg kk.1 (by omega), Int.mul_le_mul kk.2 (by omega) (by omega) (by decide)⟩
      have kn : (kc.toInt64 * ((100000 : Int64) - (266 : Int64) * ef)).toInt = kc.toInt * (100000 - 266 * ef.toInt) := by rw [Jvm.Kit.i64_mul (by rw [kb, ka]; omega) (by rw [kb, ka]; omega), kb, ka]
      refine g_iloadN cx o (pc' := 98) at_97 rfl rfl ?_
      refine g_i2l cx o (pc' := 99) at_98 rfl ?_
      refine g_ldc2L cx o (pc' := 102) (z := 100000) (hw _ (List.mem_of_getElem? (i := 7) rfl)) at_99 rfl ?_
      refine g_ldc2L cx o (pc' := 105) (z := 266) (hw _ (List.mem_of_getElem? (i := 6) rfl)) at_102 rfl ?_
      refine g_lload cx o (pc' := 107) at_105 rfl rfl ?_
      refine g_lmul cx o (pc' := 108) at_107 rfl ?_
      refine g_lsub cx o (pc' := 109) at_108 rfl ?_
      refine g_lmul cx o (pc' := 110) at_109 rfl ?_
      refine g_lstoreV cx o (pc' := 112) (fun w' => #[.val (.int p0), .val (.int p1), .val (.int p2), .val (.int kc), .val (.double k), .second, .val (.int (1 : Int32)), .val (.long hh), .second, .val (.double D), .second, .val (.long ef), .second, .val (.long w'), .second, .unset, .unset, .unset, .unset]) at_110 rfl (fun _ => rfl) (fun num h_num => ?_)
      rw [← h_num] at kn
      by_cases k0 : kc.toInt = 0
      · rw [k0] at Ik kn
        have Ik0 := Ik.weak (lo' := 0) (hi' := 0) (by decide) (by decide)
        obtain ⟨n3, eq0⟩ := o_speed0' Ik0 hu (by omega) ⟨by decide, by decide⟩
        refine g_dload cx o (pc' := 114) at_112 rfl rfl ?_
        refine g_dload cx o (pc' := 116) at_114 rfl rfl ?_
        refine g_static cx o (pc' := 119) (y := (⟨"com/example/stairs_to_street/stairstostreet/HydraulicCalculation", "speed", "(DD)D"⟩ : MethodName)) (hw _ (List.mem_of_getElem? (i := 8) rfl)) (hw _ (List.mem_of_getElem? (i := 9) rfl)) (hw _ (List.mem_of_getElem? (i := 10) rfl)) (hw _ (List.mem_of_getElem? (i := 11) rfl)) (rmSp l Z a0 hw k D _ ID.nn n1 n2 n3)  rfl pd_2 rfl (by decide) rfl 0 (Nat.le_of_eq rfl) (by decide) (by decide) (by decide) (by decide) at_116 rfl (fun T v L hQ o => ?_)
        obtain ⟨rfl, rfl⟩ := hQ
        simp only [Option.toList_some, Option.toList_none, List.cons_append, List.nil_append]
        refine g_dstoreV cx o (pc' := 121) (fun w' => #[.val (.int p0), .val (.int p1), .val (.int p2), .val (.int kc), .val (.double k), .second, .val (.int (1 : Int32)), .val (.long hh), .second, .val (.double D), .second, .val (.long ef), .second, .val (.long num), .second, .val (.double w'), .second, .unset, .unset]) at_119 rfl (fun _ => rfl) (fun sp h_sp => ?_)
        refine g_lload cx o (pc' := 123) at_121 rfl rfl ?_
        refine g_lconst cx o (pc' := 124) (0 : Int64) at_123 rfl rfl ?_
        refine g_lcmp cx o (pc' := 125) at_124 rfl ?_
        rw [← h_sp] at n3 eq0
        refine g_if_ne cx o (pc' := 141) (pc2 := 128) at_125 (by decide) (by decide) rfl (fun c125 => absurd ((o_cmpL0 _ _).mpr (by rw [kn, Int.zero_mul]; rfl)) c125) (fun c125 => ?_)
        refine g_dload cx o (pc' := 130) at_128 rfl rfl ?_
        refine g_dconst0 cx o (pc' := 131) at_130 rfl ?_
        refine g_dcmp cx o (pc' := 132) at_131 rfl ?_
        refine g_if_ne cx o (pc' := 139) (pc2 := 135) at_132 (by decide) (by decide) rfl (fun c132 => absurd (by rw [o_cvz n3 oR.zero.nn, eq0, o_oz0, if_neg (by omega), if_pos rfl]) c132) (fun c132 => ?_)
        refine g_iconst cx o (pc' := 136) (1 : Int32) at_135 rfl rfl ?_
        refine g_goto cx o (pc' := 140) at_136 (by decide) (by decide) ?_
        exact g_ireturnZ cx o at_140 (by decide) (by decide) (by decide) rfl
      · obtain ⟨n3, hs⟩ := o_speed (by omega) kk.2 kf.2.1 (by omega) Ik hu
        refine g_dload cx o (pc' := 114) at_112 rfl rfl ?_
        refine g_dload cx o (pc' := 116) at_114 rfl rfl ?_
        refine g_static cx o (pc' := 119) (y := (⟨"com/example/stairs_to_street/stairstostreet/HydraulicCalculation", "speed", "(DD)D"⟩ : MethodName)) (hw _ (List.mem_of_getElem? (i := 8) rfl)) (hw _ (List.mem_of_getElem? (i := 9) rfl)) (hw _ (List.mem_of_getElem? (i := 10) rfl)) (hw _ (List.mem_of_getElem? (i := 11) rfl)) (rmSp l Z a0 hw k D _ ID.nn n1 n2 n3)  rfl pd_2 rfl (by decide) rfl 0 (Nat.le_of_eq rfl) (by decide) (by decide) (by decide) (by decide) at_116 rfl (fun T v L hQ o => ?_)
        obtain ⟨rfl, rfl⟩ := hQ
        simp only [Option.toList_some, Option.toList_none, List.cons_append, List.nil_append]
        refine g_dstoreV cx o (pc' := 121) (fun w' => #[.val (.int p0), .val (.int p1), .val (.int p2), .val (.int kc), .val (.double k), .second, .val (.int (1 : Int32)), .val (.long hh), .second, .val (.double D), .second, .val (.long ef), .second, .val (.long num), .second, .val (.double w'), .second, .unset, .unset]) at_119 rfl (fun _ => rfl) (fun sp h_sp => ?_)
        refine g_lload cx o (pc' := 123) at_121 rfl rfl ?_
        refine g_lconst cx o (pc' := 124) (0 : Int64) at_123 rfl rfl ?_
        refine g_lcmp cx o (pc' := 125) at_124 rfl ?_
        rw [← h_sp] at n3 hs
        have nb : 250 ≤ num.toInt := by rw [kn]; exact Int.le_trans (by omega : (250 : Int) ≤ 1 * (100000 - 266 * ef.toInt)) (Int.mul_le_mul_of_nonneg_right (by omega) (by omega))
        rw [← kn] at hs mb
        have o1 : (1 : Int64).toInt = 1 := rfl
        have z0 : (0 : Int64).toInt = 0 := rfl
        have n_1 : (num - 1).toInt = num.toInt - 1 := by rw [Jvm.Kit.i64_sub (by rw [o1]; omega) (by rw [o1]; omega), o1]
        have n_2 : (num + 1).toInt = num.toInt + 1 := by rw [Jvm.Kit.i64_add (by rw [o1]; omega) (by rw [o1]; omega), o1]
        have R1 : oR (num.toInt - 1) 0 (FP.l2d (num - 1)) := (oR.l2d (by rw [n_1]; omega)).cast n_1
        have R2 : oR (num.toInt + 1) 0 (FP.l2d (num + 1)) := (oR.l2d (by rw [n_2]; omega)).cast n_2
        have pw : ((2 ^ (1074 - 0) : Nat) : Int) = 1048576 * ((2 ^ (1074 - 20) : Nat) : Int) := by rw [show 1074 - 0 = 20 + (1074 - 20) from rfl, o_pwi]; rfl
        have pp := o_pow_pos (1074 - 20)
        have lo1 : oz (FP.l2d (num - 1)) < oz (FP.dmul sp (4711630319722168320 : UInt64)) := by
          refine Int.lt_of_lt_of_le ?_ hs.2.1
          rw [R1.z (by decide), pw, ← Int.mul_assoc]
          exact Int.mul_lt_mul_of_pos_right (by omega) pp
        have hi1 : oz (FP.dmul sp (4711630319722168320 : UInt64)) < oz (FP.l2d (num + 1)) := by
          refine Int.lt_of_le_of_lt hs.2.2 ?_
          rw [R2.z (by decide), pw, ← Int.mul_assoc]
          exact Int.mul_lt_mul_of_pos_right (by omega) pp
        refine g_if_ne cx o (pc' := 141) (pc2 := 128) at_125 (by decide) (by decide) rfl (fun c125 => ?_) (fun c125 => absurd ((o_cmpL0 _ _).mp c125) (by rw [z0]; omega))
        refine g_dload cx o (pc' := 143) at_141 rfl rfl ?_
        refine g_ldc2D cx o (pc' := 146) (hw _ (List.mem_of_getElem? (i := 18) rfl)) at_143 rfl ?_
        refine g_dmul cx o (pc' := 147) at_146 rfl hs.nn ?_
        refine g_dstoreV cx o (pc' := 149) (fun w' => #[.val (.int p0), .val (.int p1), .val (.int p2), .val (.int kc), .val (.double k), .second, .val (.int (1 : Int32)), .val (.long hh), .second, .val (.double D), .second, .val (.long ef), .second, .val (.long num), .second, .val (.double sp), .second, .val (.double w'), .second]) at_147 rfl (fun _ => rfl) (fun sc h_sc => ?_)
        refine g_dload cx o (pc' := 151) at_149 rfl rfl ?_
        refine g_lload cx o (pc' := 153) at_151 rfl rfl ?_
        refine g_lconst cx o (pc' := 154) (1 : Int64) at_153 rfl rfl ?_
        refine g_lsub cx o (pc' := 155) at_154 rfl ?_
        refine g_l2d cx o (pc' := 156) at_155 rfl ?_
        refine g_dcmp cx o (pc' := 157) at_156 rfl ?_
        rw [← h_sc] at lo1 hi1
        have nsc : NoNaN64 sc := by rw [h_sc]; exact hs.nn
        refine g_if_le cx o (pc' := 175) (pc2 := 160) at_157 (by decide) (by decide) rfl (fun c157 => absurd (by rw [o_cvz nsc R1.nn, if_neg (by omega), if_neg (by omega)]; decide) c157) (fun c157 => ?_)
        refine g_dload cx o (pc' := 162) at_160 rfl rfl ?_
        refine g_lload cx o (pc' := 164) at_162 rfl rfl ?_
        refine g_lconst cx o (pc' := 165) (1 : Int64) at_164 rfl rfl ?_
        refine g_ladd cx o (pc' := 166) at_165 rfl ?_
        refine g_l2d cx o (pc' := 167) at_166 rfl ?_
        refine g_dcmp cx o (pc' := 168) at_167 rfl ?_
        refine g_if_ge cx o (pc' := 175) (pc2 := 171) at_168 (by decide) (by decide) rfl (fun c168 => absurd (by rw [o_cvz nsc R2.nn, if_pos hi1]; decide) c168) (fun c168 => ?_)
        refine g_iconst cx o (pc' := 172) (1 : Int32) at_171 rfl rfl ?_
        refine g_goto cx o (pc' := 176) at_172 (by decide) (by decide) ?_
        exact g_ireturnZ cx o at_176 (by decide) (by decide) (by decide) rfl
    · have c : ¬ _ := fun z => c88 ((o_cmpLl _ _).mpr z)
      rw [km, f1k] at c
      obtain ⟨lo, hi, hM, l1, l2⟩ : ∃ lo hi, oI lo hi 48 (Native.java_lang_Math.nans.pick64 true D (4603039107142836552 : UInt64)) ∧ 1058345912432065 ≤ lo ∧ hi ≤ 604462909807314587353088 := ⟨_, _, oI.max (lo := p1.toInt * 281474976710656) (hi := 604462909807314587353088) ID o_k54 (Or.inl (Int.le_refl _)) (by omega) (by omega), by omega, Int.le_refl _⟩
      obtain ⟨n1, n2, hu⟩ := o_pt0 hM l1 l2
      obtain ⟨n3, eq0⟩ := o_speed0 (lo := 0) (Ik.weak (lo' := 0) (by omega) (Int.le_refl _)) hu ⟨by decide, by decide⟩
      refine g_lconst cx o (pc' := 92) (0 : Int64) at_91 rfl rfl ?_
      refine g_lstore cx o (pc' := 94) (l' := #[.val (.int p0), .val (.int p1), .val (.int p2), .val (.int kc), .val (.double k), .second, .val (.int (1 : Int32)), .val (.long hh), .second, .val (.double D), .second, .val (.long ef), .second, .val (.long (0 : Int64)), .second, .unset, .unset, .unset, .unset]) at_92 rfl rfl ?_
      refine g_goto cx o (pc' := 112) at_94 (by decide) (by decide) ?_
      refine g_dload cx o (pc' := 114) at_112 rfl rfl ?_
      refine g_dload cx o (pc' := 116) at_114 rfl rfl ?_
      refine g_static cx o (pc' := 119) (y := (⟨"com/example/stairs_to_street/stairstostreet/HydraulicCalculation", "speed", "(DD)D"⟩ : MethodName)) (hw _ (List.mem_of_getElem? (i := 8) rfl)) (hw _ (List.mem_of_getElem? (i := 9) rfl)) (hw _ (List.mem_of_getElem? (i := 10) rfl)) (hw _ (List.mem_of_getElem? (i := 11) rfl)) (rmSp l Z a0 hw k D _ ID.nn n1 n2 n3)  rfl pd_2 rfl (by decide) rfl 0 (Nat.le_of_eq rfl) (by decide) (by decide) (by decide) (by decide) at_116 rfl (fun T v L hQ o => ?_)
      obtain ⟨rfl, rfl⟩ := hQ
      simp only [Option.toList_some, Option.toList_none, List.cons_append, List.nil_append]
      refine g_dstoreV cx o (pc' := 121) (fun w' => #[.val (.int p0), .val (.int p1), .val (.int p2), .val (.int kc), .val (.double k), .second, .val (.int (1 : Int32)), .val (.long hh), .second, .val (.double D), .second, .val (.long ef), .second, .val (.long (0 : Int64)), .second, .val (.double w'), .second, .unset, .unset]) at_119 rfl (fun _ => rfl) (fun sp h_sp => ?_)
      refine g_lload cx o (pc' := 123) at_121 rfl rfl ?_
      refine g_lconst cx o (pc' := 124) (0 : Int64) at_123 rfl rfl ?_
      refine g_lcmp cx o (pc' := 125) at_124 rfl ?_
      rw [← h_sp] at n3 eq0
      refine g_if_ne cx o (pc' := 141) (pc2 := 128) at_125 (by decide) (by decide) rfl (fun c125 => absurd ((o_cmpL0 _ _).mpr rfl) c125) (fun c125 => ?_)
      refine g_dload cx o (pc' := 130) at_128 rfl rfl ?_
      refine g_dconst0 cx o (pc' := 131) at_130 rfl ?_
      refine g_dcmp cx o (pc' := 132) at_131 rfl ?_
      refine g_if_ne cx o (pc' := 139) (pc2 := 135) at_132 (by decide) (by decide) rfl (fun c132 => absurd (by rw [o_cvz n3 oR.zero.nn, eq0, o_oz0, if_neg (by omega), if_pos rfl]) c132) (fun c132 => ?_)
      refine g_iconst cx o (pc' := 136) (1 : Int32) at_135 rfl rfl ?_
      refine g_goto cx o (pc' := 140) at_136 (by decide) (by decide) ?_
      exact g_ireturnZ cx o at_140 (by decide) (by decide) (by decide) rfl
set_option maxHeartbeats 40000000 in
theorem comes_1 {Post : Tables → Env → Array Value → State → Outcome → State → Prop} (hpost : ∀ tb e args s v u, (limb_1_1.after args s (.returned v) u = true ∧ limb_1_2.after args s (.returned v) u = true ∧ True) → FrameEnd s (.returned v) u (Jvm.fieldLocs frame_1_writes args s ++ Jvm.arrayLocs frame_1_arrays args s ++ Jvm.staticLocs frame_1_statics s) 0 0 → Post tb e args s (.returned v) u) :
    ArmFor flags0 classFile x code maxLocals ret World_1 tables_1 room_1 Calls_1 rest_1 Pre_1 Post := by
  intro l hfl _ _ p e ha hc hk s m args below hf hA hF happ hP
  obtain ⟨hcalls, hrest, hpre⟩ := hP
  obtain ⟨-, -, -, hnamed, -, -, -, hat⟩ := (Spec.applies_iff hf).mp happ
  obtain ⟨hg, hn⟩ := and_e (Cond.before_iff.mp (show (Jvm.Cond.and given_1 narrow_1).before args s = true from hpre))
  obtain ⟨hg0, hg⟩ := and_e hg
  obtain ⟨w0, w1, w2, rfl⟩ : ∃ w0 w1 w2 : Value, args = #[w0, w1, w2] := by
    have hs : args.size = 3 := by simpa [Cond.value, given_1] using hg0
    obtain ⟨L⟩ := args
    match L, hs with
    | [w0, w1, w2], _ => exact ⟨w0, w1, w2, rfl⟩
  have hw := fun d (hd : d ∈ tables_1) => atoms_spec (ws := Jvm.Cond.code x code maxLocals ret :: tables_1) hat d (List.mem_cons_of_mem _ hd)
  have hfit : Fit s := fun {y c} hc i hi => by
    obtain ⟨ha, rfl⟩ := Array.getElem?_eq_some_iff.mp hc
    have q := List.all_eq_true.mp ((Array.all_eq_true_iff_forall_mem.mp hF) _ (Array.getElem_mem ha)) i (List.mem_range.mpr hi)
    simpa [Array.getElem?_eq_getElem hi] using q
  obtain ⟨g0, hg⟩ := and_e hg
  obtain ⟨p0, e0⟩ := is_v g0
  obtain rfl : w0 = (.int p0) := Option.some.inj e0
  obtain ⟨g1, hg⟩ := and_e hg
  obtain ⟨p1, e1⟩ := is_v g1
  obtain rfl : w1 = (.int p1) := Option.some.inj e1
  have g2 := hg
  obtain ⟨p2, e2⟩ := is_v g2
  obtain rfl : w2 = (.int p2) := Option.some.inj e2
  obtain ⟨n, o, h1, h2, h3, _, L, rfl, ⟨N, L', -, rfl⟩, hq⟩ := rm0 l s _ hw p0 p1 p2 tables_1 s.heap ⟨⟨Nat.le_refl _, fun _ _ q => q⟩, List.nodup_nil, fun _ q => nomatch q⟩ p e ha hc hk s m _ below hf ((Spec.applies_iff_loose hf).mp happ).1 ⟨rfl, State.Warmed39.refl s, rfl⟩ trivial
  refine ⟨n, _, h1, h2, h3, hpost _ _ _ _ _ _ ⟨Cond.after_iff.mpr rfl, Cond.after_iff.mpr (eq_i res_at (Term.int_eval (1)) rfl), trivial⟩ ⟨hq.1, hq.2.1, (hq.2.2.sift fun y hy => Or.inr (N y hy)).mono (by decide) (by decide)⟩⟩
theorem main_1_1 : Claimed_1_1 := comes_1 fun _ _ _ _ _ _ h hF => ⟨h.1, hF⟩
theorem main_1_2 : Claimed_1_2 := comes_1 fun _ _ _ _ _ _ h hF => ⟨h.2.1, hF⟩
end Jvm.Pilot.@@N@@
namespace Jvm.Pilot.@@N@@
open Jvm Jvm.ClassFile Sem Op Lib Jvm.Free Jvm.Stand Jvm.Pilot.@@N@@.Jvm.D
/-! MADE BY PROGRAM (witnessworld.py) out of the Statement's table words and the real class files: 10 classes; the members and pool entries that the words name. The judged class is class 1, her method 1. -/
namespace start1
open Jvm.ClassFile
def u (s : String) : CpInfo := .utf8 (stringToUtf16 s)
/-- a pool by its gaps: so many unusable entries, then the entry; so many at the end -/
def gap : Nat → List CpInfo → List CpInfo
  | 0, r => r
  | n + 1, r => .unusable :: gap n r
def poolList (es : List (Nat × CpInfo)) (last : Nat) : List CpInfo := es.foldr (fun e r => gap e.1 (e.2 :: r)) (gap last [])
def pool (es : List (Nat × CpInfo)) (last : Nat) : Array CpInfo := ⟨poolList es last⟩
def fileOf (pool : Array CpInfo) (this : Nat) (attrs : Array Attribute := #[]) (ms : Array MethodInfo := #[]) (fl : Nat := 33) (sup : Nat := 0) (ifs : Array Nat := #[]) (fds : Array FieldInfo := #[]) : ClassFile where
  minorVersion := 0
  majorVersion := 65
  constantPool := pool
  accessFlags := fl
  thisClass := this
  superClass := sup
  interfaces := ifs
  fields := fds
  methods := ms
  attributes := attrs
def plain (name : String) (sup : Option ClassId) : Class where
  name := name
  kind := .ordinary
  loader := none
  accessFlags := 33
  super := sup
  interfaces := #[]
  cf := none
  fields := #[]
  methods := #[]
  instanceTypes := #[]
  staticTypes := #[]
  resolved := #[]
  callSites := []
  init := .initialized
  statics := none
  mirror := none

def pool0 : Array CpInfo := pool [(5, u "<init>"), (0, u "()V"), (1, .class_ 10), (1, u "java/lang/Object")] 113

def k0m0 : Method := { name := "<init>", desc := "()V", sig := { parameters := [], returnType := none }, accessFlags := 1, code := none }
/-- java/lang/Object -/
def k0 : Class := { plain "java/lang/Object" none with
  accessFlags := 33
  interfaces := #[]
  cf := some (fileOf pool0 8 #[] #[{ accessFlags := 1, nameIndex := 5, descriptorIndex := 6, attributes := #[] }] 33 0 #[] #[])
  fields := #[]
  methods := #[k0m0]
  instanceTypes := #[]
  staticTypes := #[]
  resolved := Array.replicate 124 none
  statics := none }

def pool1 : Array CpInfo := pool [(2, .class_ 4), (1, u "java/lang/Object"), (0, u "<init>"), (0, u "()V"), (0, .double 4636737291354636288), (1, .long 100), (1, .long 54), (1, .methodref 14 15), (0, .class_ 16), (0, .nameAndType 17 18), (0, u "java/lang/Math"), (0, u "max"), (0, u "(JJ)J"), (0, .long 266), (1, .long 100000), (1, .methodref 24 25), (0, .class_ 26), (0, .nameAndType 27 28), (0, u "com/example/stairs_to_street/stairstostreet/HydraulicCalculation"), (0, u "speed"), (0, u "(DD)D"), (0, .double 4711630319722168320), (1, .class_ 32), (0, u "com/example/stairs_to_street/stairstostreet/HydraulicCalculationSpeedPinLaw"), (2, u "law"), (0, u "(III)Z")] 3

def k1m0 : Method := { name := "<init>", desc := "()V", sig := { parameters := [], returnType := none }, accessFlags := 2, code := none }
def k1c1 : Code := { maxStack := 8, maxLocals := 19, code := code, exceptionTable := #[], attributes := #[] }
def k1m1 : Method := { name := "law", desc := "(III)Z", sig := { parameters := [.int, .int, .int], returnType := some .boolean }, accessFlags := 9, code := some k1c1 }
/-- com/example/stairs_to_street/stairstostreet/HydraulicCalculationSpeedPinLaw -/
def k1 : Class := { plain "com/example/stairs_to_street/stairstostreet/HydraulicCalculationSpeedPinLaw" (some 0) with
  accessFlags := 49
  interfaces := #[]
  cf := some (fileOf pool1 31 #[] #[{ accessFlags := 2, nameIndex := 5, descriptorIndex := 6, attributes := #[] }, { accessFlags := 9, nameIndex := 35, descriptorIndex := 36, attributes := #[] }] 49 2 #[] #[])
  fields := #[]
  methods := #[k1m0, k1m1]
  instanceTypes := #[]
  staticTypes := #[]
  resolved := Array.replicate 40 none
  statics := none }

def pool2 : Array CpInfo := pool [(1, .class_ 2), (0, u "java/lang/Math"), (1, .class_ 6), (1, u "java/lang/Object"), (0, u "<init>"), (0, u "()V"), (43, u "(DD)D"), (45, .class_ 100), (1, u "java/lang/Math$RandomNumberGeneratorHolder"), (20, u "(JJ)J"), (50, u "negativeZeroFloatBits"), (0, u "J"), (2, u "negativeZeroDoubleBits"), (21, u "max"), (46, u "$assertionsDisabled"), (0, u "Z"), (91, u "twoToTheDoubleScaleDown"), (0, u "D"), (4, u "twoToTheDoubleScaleUp"), (9, u "E"), (3, u "PI"), (2, u "TAU"), (2, u "DEGREES_TO_RADIANS"), (0, u "RADIANS_TO_DEGREES")] 94

def k2m0 : Method := { name := "<init>", desc := "()V", sig := { parameters := [], returnType := none }, accessFlags := 2, code := none }
def k2c1 : Code := { maxStack := 4, maxLocals := 4, code := jdk_29_method_66_code, exceptionTable := #[], attributes := #[] }
def k2m1 : Method := { name := "max", desc := "(JJ)J", sig := { parameters := [.long, .long], returnType := some .long }, accessFlags := 9, code := some k2c1 }
def k2c2 : Code := { maxStack := 4, maxLocals := 4, code := jdk_29_method_68_code, exceptionTable := #[], attributes := #[] }
def k2m2 : Method := { name := "max", desc := "(DD)D", sig := { parameters := [.double, .double], returnType := some .double }, accessFlags := 9, code := some k2c2 }
/-- java/lang/Math -/
def k2 : Class := { plain "java/lang/Math" (some 0) with
  accessFlags := 49
  interfaces := #[]
  cf := some (fileOf pool2 1 #[.nestMembers #[98]] #[{ accessFlags := 2, nameIndex := 7, descriptorIndex := 8, attributes := #[] }, { accessFlags := 9, nameIndex := 198, descriptorIndex := 121, attributes := #[] }, { accessFlags := 9, nameIndex := 198, descriptorIndex := 52, attributes := #[] }] 49 4 #[] #[{ accessFlags := 25, nameIndex := 354, descriptorIndex := 339, attributes := #[] }, { accessFlags := 25, nameIndex := 358, descriptorIndex := 339, attributes := #[] }, { accessFlags := 25, nameIndex := 361, descriptorIndex := 339, attributes := #[] }, { accessFlags := 26, nameIndex := 364, descriptorIndex := 339, attributes := #[] }, { accessFlags := 26, nameIndex := 365, descriptorIndex := 339, attributes := #[] }, { accessFlags := 26, nameIndex := 172, descriptorIndex := 173, attributes := #[] }, { accessFlags := 26, nameIndex := 176, descriptorIndex := 173, attributes := #[] }, { accessFlags := 8, nameIndex := 344, descriptorIndex := 339, attributes := #[] }, { accessFlags := 8, nameIndex := 338, descriptorIndex := 339, attributes := #[] }, { accessFlags := 4120, nameIndex := 245, descriptorIndex := 246, attributes := #[] }])
  fields := #[{ name := "E", type := .double, accessFlags := 25, slot := 0, constantValue := 0 }, { name := "PI", type := .double, accessFlags := 25, slot := 1, constantValue := 0 }, { name := "TAU", type := .double, accessFlags := 25, slot := 2, constantValue := 0 }, { name := "DEGREES_TO_RADIANS", type := .double, accessFlags := 26, slot := 3, constantValue := 0 }, { name := "RADIANS_TO_DEGREES", type := .double, accessFlags := 26, slot := 4, constantValue := 0 }, { name := "negativeZeroFloatBits", type := .long, accessFlags := 26, slot := 5, constantValue := 0 }, { name := "negativeZeroDoubleBits", type := .long, accessFlags := 26, slot := 6, constantValue := 0 }, { name := "twoToTheDoubleScaleUp", type := .double, accessFlags := 8, slot := 7, constantValue := 0 }, { name := "twoToTheDoubleScaleDown", type := .double, accessFlags := 8, slot := 8, constantValue := 0 }, { name := "$assertionsDisabled", type := .boolean, accessFlags := 4120, slot := 9, constantValue := 0 }]
  methods := #[k2m0, k2m1, k2m2]
  instanceTypes := #[]
  staticTypes := #[.double, .double, .double, .double, .double, .long, .long, .double, .double, .boolean]
  resolved := Array.replicate 460 none
  statics := none }

def pool3 : Array CpInfo := pool [(1, .class_ 2), (0, u "com/example/stairs_to_street/stairstostreet/HydraulicCalculation"), (1, .class_ 6), (1, u "java/lang/Object"), (4, u "stairwell"), (0, u "Lcom/example/stairs_to_street/stairstostreet/Stairwell;"), (12, u "k"), (0, u "D"), (6, .methodref 34 35), (0, .class_ 36), (0, .nameAndType 37 38), (0, u "java/lang/Math"), (0, u "max"), (0, u "(DD)D"), (2, u "effectiveWidth"), (4, u "persons"), (3, u "I"), (15, u "firstArrival"), (21, u "speed"), (15, u "STAIR_ROWS"), (0, u "[[D"), (6, .double 4598463449921428128), (1, .double 4603039107142836552), (106, u "SPEED_DECLINE"), (1, u "FREE_DENSITY"), (0, u "LEVEL_K"), (0, u "BOUNDARY_LAYER"), (2, u "DENSITY"), (0, u "INCH"), (0, u "TIE")] 59

def k3c0 : Code := { maxStack := 12, maxLocals := 4, code := prog_17_method_14_code, exceptionTable := #[], attributes := #[] }
def k3m0 : Method := { name := "speed", desc := "(DD)D", sig := { parameters := [.double, .double], returnType := some .double }, accessFlags := 8, code := some k3c0 }
/-- com/example/stairs_to_street/stairstostreet/HydraulicCalculation -/
def k3 : Class := { plain "com/example/stairs_to_street/stairstostreet/HydraulicCalculation" (some 0) with
  accessFlags := 48
  interfaces := #[]
  cf := some (fileOf pool3 1 #[] #[{ accessFlags := 8, nameIndex := 88, descriptorIndex := 38, attributes := #[] }] 48 4 #[] #[{ accessFlags := 24, nameIndex := 221, descriptorIndex := 26, attributes := #[] }, { accessFlags := 24, nameIndex := 223, descriptorIndex := 26, attributes := #[] }, { accessFlags := 24, nameIndex := 224, descriptorIndex := 26, attributes := #[] }, { accessFlags := 24, nameIndex := 225, descriptorIndex := 26, attributes := #[] }, { accessFlags := 24, nameIndex := 228, descriptorIndex := 26, attributes := #[] }, { accessFlags := 24, nameIndex := 229, descriptorIndex := 26, attributes := #[] }, { accessFlags := 26, nameIndex := 104, descriptorIndex := 105, attributes := #[] }, { accessFlags := 26, nameIndex := 230, descriptorIndex := 26, attributes := #[] }, { accessFlags := 18, nameIndex := 11, descriptorIndex := 12, attributes := #[] }, { accessFlags := 18, nameIndex := 25, descriptorIndex := 26, attributes := #[] }, { accessFlags := 18, nameIndex := 41, descriptorIndex := 26, attributes := #[] }, { accessFlags := 18, nameIndex := 46, descriptorIndex := 50, attributes := #[] }, { accessFlags := 18, nameIndex := 66, descriptorIndex := 26, attributes := #[] }])
  fields := #[{ name := "SPEED_DECLINE", type := .double, accessFlags := 24, slot := 0, constantValue := 0 }, { name := "FREE_DENSITY", type := .double, accessFlags := 24, slot := 1, constantValue := 0 }, { name := "LEVEL_K", type := .double, accessFlags := 24, slot := 2, constantValue := 0 }, { name := "BOUNDARY_LAYER", type := .double, accessFlags := 24, slot := 3, constantValue := 0 }, { name := "DENSITY", type := .double, accessFlags := 24, slot := 4, constantValue := 0 }, { name := "INCH", type := .double, accessFlags := 24, slot := 5, constantValue := 0 }, { name := "STAIR_ROWS", type := (.array (.array .double)), accessFlags := 26, slot := 6, constantValue := 0 }, { name := "TIE", type := .double, accessFlags := 26, slot := 7, constantValue := 0 }, { name := "stairwell", type := (.object "com/example/stairs_to_street/stairstostreet/Stairwell"), accessFlags := 18, slot := 0, constantValue := 0 }, { name := "k", type := .double, accessFlags := 18, slot := 1, constantValue := 0 }, { name := "effectiveWidth", type := .double, accessFlags := 18, slot := 2, constantValue := 0 }, { name := "persons", type := .int, accessFlags := 18, slot := 3, constantValue := 0 }, { name := "firstArrival", type := .double, accessFlags := 18, slot := 4, constantValue := 0 }]
  methods := #[k3m0]
  instanceTypes := #[(.object "com/example/stairs_to_street/stairstostreet/Stairwell"), .double, .double, .int, .double]
  staticTypes := #[.double, .double, .double, .double, .double, .double, (.array (.array .double)), .double]
  resolved := Array.replicate 290 none
  statics := none }

def pool4 : Array CpInfo := pool [(1, u "java/lang/Cloneable"), (0, .class_ 1), (0, u "java/lang/Object"), (0, .class_ 3)] 3

/-- java/lang/Cloneable -/
def k4 : Class := { plain "java/lang/Cloneable" (some 0) with
  accessFlags := 1537
  interfaces := #[]
  cf := some (fileOf pool4 2 #[] #[] 1537 4 #[] #[])
  fields := #[]
  methods := #[]
  instanceTypes := #[]
  staticTypes := #[]
  resolved := Array.replicate 8 none
  statics := none }

def pool5 : Array CpInfo := pool [(1, u "java/io/Serializable"), (0, .class_ 1), (0, u "java/lang/Object"), (0, .class_ 3)] 3

/-- java/io/Serializable -/
def k5 : Class := { plain "java/io/Serializable" (some 0) with
  accessFlags := 1537
  interfaces := #[]
  cf := some (fileOf pool5 2 #[] #[] 1537 4 #[] #[])
  fields := #[]
  methods := #[]
  instanceTypes := #[]
  staticTypes := #[]
  resolved := Array.replicate 8 none
  statics := none }

/-- the primitive byte -/
def k6 : Class := { plain "byte" none with kind := .primitive 'B', accessFlags := 0x411 }
/-- [B -/
def k7 : Class := { plain "[B" (some 0) with kind := .array 6 .byte, interfaces := #[4, 5], accessFlags := 1041 }

/-- the primitive int -/
def k8 : Class := { plain "int" none with kind := .primitive 'I', accessFlags := 0x411 }
/-- [I -/
def k9 : Class := { plain "[I" (some 0) with kind := .array 8 .int, interfaces := #[4, 5], accessFlags := 1041 }

def heap : Heap := #[]
def classes : Array Class := #[k0, k1, k2, k3, k4, k5, k6, k7, k8, k9]
def interned : List (Array UInt16 × Addr) := []
def slotsUsed : Nat := 0
def theMethod : MethodId := ⟨1, 1⟩
def args0 : Array Value := #[.int 5, .int 2, .int 1]
def aboutOver (below : List Frame) : State where
  vm := { classes := classes, interned := interned.toArray }
  heap := heap
  slotsUsed := slotsUsed
  threads := #[{ frames := .invoking theMethod args0 :: below }]
def below0 : List Frame := [.native { method := ⟨0, 0⟩, args := #[] }]
def about1 : State := aboutOver below0
def p0 : Program := .bare "" "" ""
def e0 : Env := launch0.env 0 0 0
theorem w_frames : about1.frames = Frame.invoking theMethod args0 :: below0 := rfl
set_option maxRecDepth 65536 in
theorem w_args : argsFit about1.vm theMethod args0 = true := by decide +kernel
set_option maxRecDepth 65536 in
theorem w_heap : heapFits about1 = true := by decide +kernel
set_option maxRecDepth 65536 in
theorem w_runnable : about1.curStatus? = some .runnable := by decide +kernel
set_option maxRecDepth 65536 in
theorem w_alone : about1.alone = true := by decide +kernel
set_option maxRecDepth 65536 in
theorem w_named : about1.methodNamed? x = some theMethod := by decide +kernel
set_option maxRecDepth 65536 in
theorem w_hears : about1.hears theMethod below0 = true := by decide +kernel
set_option maxRecDepth 65536 in
theorem w_ripe : about1.ripe theMethod args0 below0 = true := by decide +kernel
theorem w_running : about1.status = .running := rfl
set_option maxRecDepth 65536 in
theorem w_room : about1.hasRoom e0.platform room_1 = true :=
  launch0.hasRoom_least _ room_1 (by decide +kernel) (by decide +kernel) (by decide +kernel) (by decide +kernel) (by decide +kernel) (by decide +kernel)
theorem allAtoms_all (ts : List Jvm.Cond) (a : Array Jvm.Value) (st : Jvm.State) : (allAtoms ts).before a st = ts.all (fun c => c.before a st) := by
  induction ts with
  | nil => rfl
  | cons c t ih =>
    show (Jvm.Cond.and c (allAtoms t)).before a st = _
    rw [Jvm.Cond.before_and, ih, List.all_cons]
def words1 : List Jvm.Cond := Jvm.Cond.code x code maxLocals ret :: tables_1
/-- a 'code' word, met by the world's own term for the bytes: nothing is compared byte by byte -/
theorem code_word {y : MethodName} {bytes : ByteArray} {mx : Nat} {rt : Option FieldType} {a : Array Value} {s : State} {m : MethodId} {meth : Method} {c : Code} (h1 : s.methodNamed? y = some m) (h2 : s.vm.method? m = some meth) (h3 : meth.code = some c) (h4 : c.code = bytes)
    (h5 : (c.maxLocals == mx && c.exceptionTable.isEmpty && decide (c.maxStack ≤ mostOperands) && decide (meth.sig.returnType = rt) && !meth.locks && decide (parseMethodDescriptor y.desc = some meth.sig)) = true) : (Jvm.Cond.code y bytes mx rt).before a s = true := by
  simp only [Bool.and_eq_true, beq_iff_eq, Bool.not_eq_true', decide_eq_true_eq] at h5
  obtain ⟨⟨⟨⟨⟨g1, g2⟩, g3⟩, g4⟩, g5⟩, g6⟩ := h5
  simp [Cond.before, Cond.holds, Cond.value, h1, h2, h3, h4, g1, g2, g3, g4, g5, g6]
def isCode : Jvm.Cond → Bool
  | .code _ _ _ _ => true
  | _ => false
theorem all_split {L : List Jvm.Cond} {P : Jvm.Cond → Bool} (h1 : L.all (fun c => isCode c || P c) = true) (h2 : ∀ c ∈ L.filter isCode, P c = true) : L.all P = true := by
  refine List.all_eq_true.mpr fun c hc => ?_
  have h := List.all_eq_true.mp h1 c hc
  rcases Bool.eq_false_or_eq_true (isCode c) with hi | hi
  · exact h2 c (List.mem_filter.mpr ⟨hc, hi⟩)
  · simpa [hi] using h
set_option maxRecDepth 65536 in
theorem w_c0 : (Jvm.Cond.code x code maxLocals ret).before args0 about1 = true := code_word (m := ⟨1, 1⟩) (meth := k1m1) (c := k1c1) (by decide +kernel) rfl rfl rfl (by decide +kernel)
set_option maxRecDepth 65536 in
theorem w_c1 : (Jvm.Cond.code ({ cls := "java/lang/Math", name := "max", desc := "(JJ)J" } : Jvm.MethodName) jdk_29_method_66_code (4 : Nat) (Option.some Jvm.ClassFile.FieldType.long)).before args0 about1 = true := code_word (m := ⟨2, 1⟩) (meth := k2m1) (c := k2c1) (by decide +kernel) rfl rfl rfl (by decide +kernel)
set_option maxRecDepth 65536 in
theorem w_c2 : (Jvm.Cond.code ({ cls := "com/example/stairs_to_street/stairstostreet/HydraulicCalculation", name := "speed", desc := "(DD)D" } : Jvm.MethodName) prog_17_method_14_code (4 : Nat) (Option.some Jvm.ClassFile.FieldType.double)).before args0 about1 = true := code_word (m := ⟨3, 0⟩) (meth := k3m0) (c := k3c0) (by decide +kernel) rfl rfl rfl (by decide +kernel)
set_option maxRecDepth 65536 in
theorem w_c3 : (Jvm.Cond.code ({ cls := "java/lang/Math", name := "max", desc := "(DD)D" } : Jvm.MethodName) jdk_29_method_68_code (4 : Nat) (Option.some Jvm.ClassFile.FieldType.double)).before args0 about1 = true := code_word (m := ⟨2, 2⟩) (meth := k2m2) (c := k2c2) (by decide +kernel) rfl rfl rfl (by decide +kernel)
def codes1 : List Jvm.Cond := [Jvm.Cond.code x code maxLocals ret, Jvm.Cond.code ({ cls := "java/lang/Math", name := "max", desc := "(JJ)J" } : Jvm.MethodName) jdk_29_method_66_code (4 : Nat) (Option.some Jvm.ClassFile.FieldType.long), Jvm.Cond.code ({ cls := "com/example/stairs_to_street/stairstostreet/HydraulicCalculation", name := "speed", desc := "(DD)D" } : Jvm.MethodName) prog_17_method_14_code (4 : Nat) (Option.some Jvm.ClassFile.FieldType.double), Jvm.Cond.code ({ cls := "java/lang/Math", name := "max", desc := "(DD)D" } : Jvm.MethodName) jdk_29_method_68_code (4 : Nat) (Option.some Jvm.ClassFile.FieldType.double)]
set_option maxRecDepth 65536 in
theorem codes_eq : words1.filter isCode = codes1 := rfl
theorem w_codes : ∀ c ∈ words1.filter isCode, c.before args0 about1 = true := by
  rw [codes_eq]
  intro c hc
  simp only [codes1, List.mem_cons, List.not_mem_nil, or_false] at hc
  rcases hc with rfl | rfl | rfl | rfl
  · exact w_c0
  · exact w_c1
  · exact w_c2
  · exact w_c3
set_option maxRecDepth 65536 in
theorem w_t1 : words1.all (fun c => isCode c || c.before args0 about1) = true := by decide +kernel
theorem w_tables : (allAtoms (Jvm.Cond.code x code maxLocals ret :: tables_1)).before args0 about1 = true := by
  rw [allAtoms_all]
  show words1.all (fun c => c.before args0 about1) = true
  refine all_split ?_ w_codes
  rw [w_t1]
set_option maxRecDepth 65536 in
theorem w_case : (Jvm.Cond.and given_1 narrow_1).before args0 about1 = true := by decide +kernel
theorem w_applies : (headSpec (Jvm.Cond.code x code maxLocals ret :: tables_1) room_1).applies x e0.platform about1 = true :=
  (Spec.applies_iff w_frames).mpr ⟨w_running, w_runnable, w_alone, w_named, w_hears, w_ripe, w_room, w_tables⟩
theorem atStart : AtStart classFile x code maxLocals ret World_1 tables_1 room_1 Calls_1 rest_1 Pre_1 launch0 p0 e0 about1 theMethod args0 below0 :=
  ⟨lists_1, trivial, launch0.admits_env _ _ _, launch0.least_env, fairChoices_fair.cas, fairChoices_fair.clock, w_frames, w_args, w_heap, w_applies, trivial, trivial, w_case⟩
end start1
theorem witness_1 : WitnessClaimed_1 := ⟨start1.p0, start1.e0, start1.about1, start1.theMethod, start1.args0, start1.below0, start1.atStart⟩
end Jvm.Pilot.@@N@@
