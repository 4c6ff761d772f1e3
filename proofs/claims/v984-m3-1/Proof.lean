import JvmDerived
import JvmDerived.Pilot.@@N@@Statement
import JvmDerived.Pilot.@@N@@Code
set_option linter.unusedVariables false
set_option linter.unusedSimpArgs false
set_option maxRecDepth 65536
@@BLOCK:NumsL.lean.txt@@
namespace Jvm.Pilot.@@N@@
open Jvm Jvm.ClassFile Sem Op Lib Jvm.Free Jvm.Stand Jvm.LawKit Jvm.RoadKit Bundle Jvm.Pilot.@@N@@.Jvm.D Jvm.Free.Fl
/-! ## 1. what is known of a cell -/
abbrev oEnt := Addr × (Cell → Prop)
abbrev oFs := List (String × String × String × Value)
section OwnCells
variable {Z : State} {a0 : Array Value} {h h' : Heap} {L L' : List oEnt} {a : Addr} {P P' : Cell → Prop} {C O n d : String} {v w old : Value} {cell : Cell} {ty : FieldType} {vs : List Value} {sl i j k : Nat}
def oExa (Z : State) (C : String) (cell : Cell) : Prop := ∃ k : Class, Z.vm.findClass C = some cell.cls ∧ Z.vm.classes[cell.cls]? = some k ∧ cell.vm.isStatics = false ∧ (k.kind = .ordinary → cell.slots.size = k.instanceTypes.size)
def oFld (Z : State) (O n d : String) (v : Value) (cell : Cell) : Prop := ∃ (cf : ClassId) (k : Class) (i : Nat) (f : Field), Z.fieldFound? O n d = some (cf, k, i, f) ∧ f.isStatic = false ∧ cell.vm ≠ .unknown ∧ cell.vm.isStatics = false ∧ Z.vm.assignable cell.cls cf = true ∧ cell.slots[f.slot]? = some v
/-- an object of class C, with the values of the fields named (owner, name, descriptor, value) -/
def oObj (Z : State) (a0 : Array Value) (C : String) (fs : oFs) (cell : Cell) : Prop := oExa Z C cell ∧ ∀ t ∈ fs, Laid Z a0 C t.1 t.2.1 t.2.2.1 ∧ (∃ ty, parseFieldDescriptor t.2.2.1 = some ty) ∧ oFld Z t.1 t.2.1 t.2.2.1 t.2.2.2 cell
/-- an array of that kind with just these components -/
def oArr (Z : State) (ty : FieldType) (vs : List Value) (cell : Cell) : Prop := Z.isArrayOf cell ty ∧ cell.vm ≠ .unknown ∧ cell.slots.toList = vs ∧ vs.length < 2 ^ 31 ∧ ∀ v ∈ vs, fits ty v = true
theorem oExa.exa (E : oExa Z C cell) (hc : h[a]? = some cell) : Exa Z h a C := by obtain ⟨k, e1, e2, e3, e4⟩ := E; exact ⟨cell, k, hc, e1, e2, e3, e4⟩
theorem oExa.of (E : Exa Z h a C) (hc : h[a]? = some cell) : oExa Z C cell := by obtain ⟨c', k, h1, r⟩ := E; cases h1.symm.trans hc; exact ⟨k, r⟩
theorem oFld.fld (F : oFld Z O n d v cell) (hc : h[a]? = some cell) : Fld Z h a O n d v := by obtain ⟨cf, k, i, f, r1, r2, r3, r4, r5, r6⟩ := F; exact ⟨cell, cf, k, i, f, hc, r1, r2, r3, r4, r5, r6⟩
theorem oFld.of (F : Fld Z h a O n d v) (hc : h[a]? = some cell) : oFld Z O n d v cell := by obtain ⟨c', cf, k, i, f, h1, r1, r2, r3, r4, r5, r6⟩ := F; cases h1.symm.trans hc; exact ⟨cf, k, i, f, r1, r2, r3, r4, r5, r6⟩
theorem oExa.set (E : oExa Z C cell) : oExa Z C (cell.setSlot sl v) := by
  obtain ⟨k, e1, e2, e3, e4⟩ := E
  exact ⟨k, e1, e2, e3, fun q => by rw [sz_set]; exact e4 q⟩
theorem oFld.hit (F : oFld Z O n d old cell) : oFld Z O n d v (cell.setSlot (Jvm.RoadKit.slotOf Z O n d) v) := by
  obtain ⟨cf, k, i, f, r1, r2, r3, r4, r5, r6⟩ := F
  refine ⟨cf, k, i, f, r1, r2, r3, r4, r5, ?_⟩
  have e : Jvm.RoadKit.slotOf Z O n d = f.slot := by
    show ((Z.fieldFound? O n d).map (fun z => z.2.2.2.slot)).getD 0 = f.slot
    rw [r1]; rfl
  rw [e]
  show (cell.slots.setIfInBounds f.slot v)[f.slot]? = some v
  exact Array.getElem?_setIfInBounds_self_of_lt (Array.getElem?_eq_some_iff.mp r6).1
theorem oFld.miss (F : oFld Z O n d v cell) (q : Jvm.RoadKit.slotOf Z O n d ≠ sl) : oFld Z O n d v (cell.setSlot sl w) := by
  obtain ⟨cf, k, i, f, r1, r2, r3, r4, r5, r6⟩ := F
  have e : Jvm.RoadKit.slotOf Z O n d = f.slot := by
    show ((Z.fieldFound? O n d).map (fun z => z.2.2.2.slot)).getD 0 = f.slot
    rw [r1]; rfl
  rw [e] at q
  refine ⟨cf, k, i, f, r1, r2, r3, r4, r5, ?_⟩
  show (cell.slots.setIfInBounds sl w)[f.slot]? = some v
  rw [Array.getElem?_setIfInBounds_ne (Ne.symm q)]; exact r6
theorem oObj.put {fs : oFs} (B : oObj Z a0 C fs cell) (hj : fs[j]? = some (O, n, d, old)) (hnd : (fs.map fun t => t.2.1).Nodup) : oObj Z a0 C (fs.set j (O, n, d, v)) (cell.setSlot (Jvm.RoadKit.slotOf Z O n d) v) := by
  refine ⟨B.1.set, fun t ht => ?_⟩
  obtain ⟨i, hi⟩ := List.mem_iff_getElem?.mp ht
  obtain ⟨l0, ⟨t0, p0⟩, f0⟩ := B.2 _ (List.mem_of_getElem? hj)
  have hlt : j < fs.length := (List.getElem?_eq_some_iff.mp hj).1
  by_cases e : j = i
  · subst e
    rw [List.getElem?_set_self hlt] at hi
    cases hi
    exact ⟨l0, ⟨t0, p0⟩, f0.hit⟩
  · rw [List.getElem?_set_ne e] at hi
    obtain ⟨l1, ⟨t1, p1⟩, f1⟩ := B.2 t (List.mem_of_getElem? hi)
    refine ⟨l1, ⟨t1, p1⟩, f1.miss (slot_ne l1 l0 (fun q => ?_) p1 p0)⟩
    have hA : (fs.map fun t => t.2.1)[j]? = (fs.map fun t => t.2.1)[i]? := by simp only [List.getElem?_map, hi, hj, Option.map_some]; rw [q]
    exact e ((List.getElem?_inj (by simpa using hlt) hnd).mp hA)
theorem oArr.put (B : oArr Z ty vs cell) (hf : fits ty v = true) : oArr Z ty (vs.set k v) (cell.setSlot k v) := by
  obtain ⟨b1, b2, b3, b4, b5⟩ := B
  refine ⟨b1, b2, by show (cell.slots.setIfInBounds k v).toList = vs.set k v; rw [Array.toList_setIfInBounds, b3], by simpa using b4, fun u hu => ?_⟩
  rcases List.mem_or_eq_of_mem_set hu with q | q
  · exact b5 u q
  · rw [q]; exact hf
theorem oArr.size (B : oArr Z ty vs cell) : cell.slots.size = vs.length := by rw [← B.2.2.1]; simp
theorem oArr.get (B : oArr Z ty vs cell) (hk : vs[k]? = some v) : cell.slots[k]? = some v := by rw [← Array.getElem?_toList, B.2.2.1]; exact hk
theorem oArr.arr (B : oArr Z ty vs cell) (hc : h[a]? = some cell) : Arr Z h a cell ty := ⟨hc, B.1, B.2.1⟩
theorem o_clamp {k : Nat} (q : k < 2 ^ 31) : (Int32.ofNat k).toNatClampNeg = k ∧ ¬ (Int32.ofNat k) < 0 := by
  have e : (Int32.ofNat k).toInt = k := len_toInt q
  refine ⟨by simp only [Int32.toNatClampNeg, e]; rfl, ?_⟩
  rw [Int32.lt_iff_toInt_lt, e]; show ¬ (k : Int) < 0; omega
theorem oArr.inb (B : oArr Z ty vs cell) {x : Int32} (e : x = Int32.ofNat k) (hk : k < vs.length) : x.toNatClampNeg = k ∧ ¬ (x < 0 ∨ cell.slots.size ≤ x.toNatClampNeg) := by
  subst e
  have q := o_clamp (Nat.lt_trans hk B.2.2.2.1)
  refine ⟨q.1, fun z => z.elim q.2 fun y => ?_⟩
  rw [q.1, B.size] at y; omega
/-! ## 2. the heap: the cells that stood stand as they stood; the listed ones are new, no two alike -/
def oHp (Z : State) (h : Heap) (L : List oEnt) : Prop := (Z.heap.size ≤ h.size ∧ ∀ (a : Addr) (c : Cell), Z.heap[a]? = some c → h[a]? = some c) ∧ (L.map fun x => x.1).Nodup ∧ ∀ x ∈ L, Z.heap.size ≤ x.1 ∧ ∃ c : Cell, h[x.1]? = some c ∧ x.2 c
theorem oHp.at_ (H : oHp Z h L) (hi : L[i]? = some (a, P)) : Z.heap.size ≤ a ∧ ∃ c : Cell, h[a]? = some c ∧ P c := H.2.2 _ (List.mem_of_getElem? hi)
theorem oHp.ne {b : Addr} {P2 : Cell → Prop} (H : oHp Z h L) (hi : L[i]? = some (a, P)) (hj : L[j]? = some (b, P2)) (q : i ≠ j) : a ≠ b := fun e => by
  have hA : (L.map fun x => x.1)[i]? = (L.map fun x => x.1)[j]? := by simp only [List.getElem?_map, hi, hj, Option.map_some]; rw [e]
  exact q ((List.getElem?_inj (by have := (List.getElem?_eq_some_iff.mp hi).1; simpa using this) H.2.1).mp hA)
theorem oHp.new (H : oHp Z h L) (E : Ext h h') (hc : h'[h.size]? = some cell) (hP : P cell) : oHp Z h' ((h.size, P) :: L) := by
  refine ⟨⟨Nat.le_trans H.1.1 E.1, fun a c q => E.2 a c (H.1.2 a c q)⟩, ?_, ?_⟩
  · simp only [List.map_cons, List.nodup_cons]
    refine ⟨fun q => ?_, H.2.1⟩
    obtain ⟨x, hx, e⟩ := List.mem_map.mp q
    obtain ⟨-, c, hc', -⟩ := H.2.2 x hx
    have := (Array.getElem?_eq_some_iff.mp hc').1
    have e' : x.1 = h.size := e
    rw [e'] at this
    exact Nat.lt_irrefl _ this
  · intro x hx
    rcases List.mem_cons.mp hx with rfl | hx
    · exact ⟨H.1.1, cell, hc, hP⟩
    · obtain ⟨q, c, hc', hp⟩ := H.2.2 x hx
      exact ⟨q, c, E.2 _ _ hc', hp⟩
theorem oHp.wr (H : oHp Z h L) (hi : L[i]? = some (a, P)) (W : Wr h h' a sl v) (hP : ∀ c : Cell, P c → P' (c.setSlot sl v)) : oHp Z h' (L.set i (a, P')) := by
  obtain ⟨q, c, hc, hp⟩ := H.at_ hi
  have hlt : i < L.length := (List.getElem?_eq_some_iff.mp hi).1
  refine ⟨⟨by rw [W.size]; exact H.1.1, fun b c' hb => ?_⟩, ?_, ?_⟩
  · obtain ⟨cb', e1, -, -, -, e5, -⟩ := wr_at W (H.1.2 b c' hb)
    have ne : b ≠ a := Nat.ne_of_lt (Nat.lt_of_lt_of_le (Array.getElem?_eq_some_iff.mp hb).1 q)
    rw [← e5 ne]; exact e1
  · have : (L.set i (a, P')).map (fun x => x.1) = L.map (fun x => x.1) := by
      apply List.ext_getElem?
      intro k
      by_cases e : i = k
      · subst e; rw [List.getElem?_map, List.getElem?_set_self hlt, List.getElem?_map, hi]; rfl
      · rw [List.getElem?_map, List.getElem?_set_ne e, List.getElem?_map]
    rw [this]; exact H.2.1
  · intro x hx
    obtain ⟨k, hk⟩ := List.mem_iff_getElem?.mp hx
    by_cases e : i = k
    · subst e
      rw [List.getElem?_set_self hlt] at hk
      cases hk
      obtain ⟨c', e1, -, -, -, -, -, e7⟩ := wr_at W hc
      exact ⟨q, _, e1, (e7 rfl).1 ▸ hP c hp⟩
    · rw [List.getElem?_set_ne e] at hk
      obtain ⟨q', c', hc', hp'⟩ := H.2.2 x (List.mem_of_getElem? hk)
      obtain ⟨cb', e1, -, -, -, e5, -⟩ := wr_at W hc'
      have ne : x.1 ≠ a := H.ne (i := k) (j := i) (a := x.1) (P := x.2) hk hi (Ne.symm e)
      exact ⟨q', c', by rw [← e5 ne]; exact e1, hp'⟩
theorem oHp.perm (H : oHp Z h L) (q : L'.Perm L) : oHp Z h L' := ⟨H.1, (q.map _).nodup_iff.mpr H.2.1, fun x hx => H.2.2 x (q.mem_iff.mp hx)⟩
theorem oHp.weak (H : oHp Z h L) (hi : L[i]? = some (a, P)) (hP : ∀ c : Cell, P c → P' c) : oHp Z h (L.set i (a, P')) := by
  have hlt : i < L.length := (List.getElem?_eq_some_iff.mp hi).1
  refine ⟨H.1, ?_, fun x hx => ?_⟩
  · have : (L.set i (a, P')).map (fun x => x.1) = L.map (fun x => x.1) := by
      apply List.ext_getElem?
      intro k
      by_cases e : i = k
      · subst e; rw [List.getElem?_map, List.getElem?_set_self hlt, List.getElem?_map, hi]; rfl
      · rw [List.getElem?_map, List.getElem?_set_ne e, List.getElem?_map]
    rw [this]; exact H.2.1
  · obtain ⟨k, hk⟩ := List.mem_iff_getElem?.mp hx
    by_cases e : i = k
    · subst e
      rw [List.getElem?_set_self hlt] at hk
      cases hk
      obtain ⟨q, c, hc, hp⟩ := H.at_ hi
      exact ⟨q, c, hc, hP c hp⟩
    · rw [List.getElem?_set_ne e] at hk
      exact H.2.2 x (List.mem_of_getElem? hk)
end OwnCells
/-! ## 3. where the run stands; what is left to show -/
def oOn (p : Program) (l : Launch) (e : Env) (R : Room) (s : State) (m : MethodId) (args : Array Value) (below : List Frame) (meth : Method) (c : Code) (Z : State) (cells slots : Nat) (T : State) (L : List oEnt) : Prop := ∃ locs, Stand p l e R s m args below meth c T locs cells slots ∧ Fr Z.heap.size locs ∧ oHp Z T.heap L
def oCx (p : Program) (s : State) (m : MethodId) (meth : Method) (c : Code) (Z : State) (own nm : String) (code : ByteArray) (maxL : Nat) (ret : Option FieldType) : Prop := p.tables.exec = Jvm.exec ∧ Z.Warmed39 s.vm ∧ c.code = code ∧ c.maxLocals = maxL ∧ s.vm.findClass own = some m.cls ∧ meth.name = nm ∧ meth.sig.returnType = ret ∧ meth.locks = false
def oGo (p : Program) (e : Env) (below : List Frame) (K : State → Outcome → Prop) (u : State) : Prop := ∃ s₂ o, Steps p.tables e below u s₂ ∧ s₂.status = .running ∧ Ended s₂ below o ∧ K s₂ o
def oEnd (s Z : State) (Q : Option Value → List oEnt → Prop) (C S : Nat) (t : State) (o : Outcome) : Prop := ∃ v Lc, o = .returned v ∧ (Fr Z.heap.size Lc ∧ ∃ L', oHp Z t.heap L' ∧ Q v L') ∧ FrameEnd s o t Lc C S
/-- the contract of a body: from a heap of which L is known, with these arguments, it returns v and leaves a heap of which L' is known, Q v L' -/
def oMeets (l : Launch) (Z : State) (y : MethodName) (code : ByteArray) (maxL : Nat) (ret : Option FieldType) (rm : Room) (as : List Value) (L : List oEnt) (Q : Option Value → List oEnt → Prop) : Prop :=
  ∀ (ws : List Jvm.Cond) (h0 : Heap), oHp Z h0 L → MetFree l y (head1 (Jvm.Cond.code y code maxL ret :: ws) rm) (fun a U => a = as.toArray ∧ Z.Warmed39 U.vm ∧ U.heap = h0) (fun _ _ _ _ _ => True)
    (fun _ U o U' => ∃ v Lc, o = .returned v ∧ (Fr Z.heap.size Lc ∧ ∃ L', oHp Z U'.heap L' ∧ Q v L') ∧ FrameEnd U o U' Lc rm.cells rm.slots)
section OwnRules
variable {p : Program} {l : Launch} {e : Env} {R : Room} {s : State} {m : MethodId} {args : Array Value} {below : List Frame} {meth : Method} {c : Code} {Z : State} {a0 : Array Value} {cells slots : Nat} {T : State} {L L' : List oEnt}
variable {own nm : String} {code : ByteArray} {maxL : Nat} {ret : Option FieldType} {K : State → Outcome → Prop} {Ls : Array Slot} {st : List Value} {pc pc' pc2 : Nat} {i j k : Nat} {a : Addr} {vs : List Value} {v : Value}
theorem oGo.via {u u' : State} (h : ∀ t, Steps p.tables e below u' t → Steps p.tables e below u t) (g : oGo p e below K u') : oGo p e below K u := by
  obtain ⟨s₂, o, h1, h2⟩ := g; exact ⟨s₂, o, h _ h1, h2⟩
theorem oOn.here (o : oOn p l e R s m args below meth c Z cells slots T L) : At T m c below := by obtain ⟨_, X, -⟩ := o; exact X.here
theorem oOn.perm (o : oOn p l e R s m args below meth c Z cells slots T L) (q : L'.Perm L) : oOn p l e R s m args below meth c Z cells slots T L' := by obtain ⟨lc, X, N, H⟩ := o; exact ⟨lc, X, N, H.perm q⟩
theorem oOn.more (o : oOn p l e R s m args below meth c Z cells slots T L) {c' s' : Nat} (h1 : cells ≤ c') (h2 : slots ≤ s') : oOn p l e R s m args below meth c Z c' s' T L := by obtain ⟨lc, X, N, H⟩ := o; exact ⟨lc, X.more h1 h2, N, H⟩
theorem o_frontp {α : Type} : ∀ (L : List α) (i : Nat) {x : α}, L[i]? = some x → (x :: L.eraseIdx i).Perm L
  | [], i, x, h => by simp at h
  | a :: L, 0, x, h => by cases h; exact List.Perm.refl _
  | a :: L, i + 1, x, h => (List.Perm.swap a x (L.eraseIdx i)).trans ((o_frontp L i h).cons a)
/-- the i-th known cell comes to the front -/
theorem oOn.front (o : oOn p l e R s m args below meth c Z cells slots T L) (i : Nat) {x : oEnt} (hi : L[i]? = some x) : oOn p l e R s m args below meth c Z cells slots T (x :: L.eraseIdx i) := o.perm (o_frontp L i hi)
theorem oOn.weak (o : oOn p l e R s m args below meth c Z cells slots T L) (i : Nat) {P P' : Cell → Prop} (hi : L[i]? = some (a, P)) (hP : ∀ c : Cell, P c → P' c) : oOn p l e R s m args below meth c Z cells slots T (L.set i (a, P')) := by obtain ⟨lc, X, N, H⟩ := o; exact ⟨lc, X, N, H.weak hi hP⟩
theorem oOn.drop (o : oOn p l e R s m args below meth c Z cells slots T L) (q : List.Sublist L' L) : oOn p l e R s m args below meth c Z cells slots T L' := by
  obtain ⟨lc, X, N, H⟩ := o
  exact ⟨lc, X, N, H.1, (q.map _).nodup H.2.1, fun x hx => H.2.2 x (q.subset hx)⟩
theorem oOn.len {ty : FieldType} (o : oOn p l e R s m args below meth c Z cells slots T L) (hi : L[i]? = some (a, oArr Z ty vs)) : vs.length < 2 ^ 31 := by
  obtain ⟨lc, X, N, H⟩ := o
  obtain ⟨-, cl, -, A⟩ := H.at_ hi
  exact A.2.2.2.1
theorem oMeets.of {y : MethodName} {rm : Room} {as : List Value} {Q : Option Value → List oEnt → Prop} (pn : plainFor y = true)
    (body : ∀ p e s m below meth c T, oCx p s m meth c Z y.cls y.name code maxL ret → oOn p l e rm s m as.toArray below meth c Z 0 0 T L → oGo p e below (oEnd s Z Q rm.cells rm.slots) (T.setTop (entryFrame m as.toArray maxL))) : oMeets l Z y code maxL ret rm as L Q := by
  intro ws h0 H
  refine MetFree.of_bodySF pn hisR ?_
  intro p e s m args below meth c s₁ Bd hml0 hP hK
  obtain ⟨rfl, hZ, hh⟩ := hP
  have X0 : Stand p l e rm s m as.toArray below meth c s₁ [] 0 0 := Stand.of_body Bd
  have e0 : s₁.heap = h0 := by rw [← hh, Bd.state]; rfl
  exact body p e s m below meth c s₁ ⟨Bd.exec, hZ, Bd.bytes, hml0, findClass_of_methodNamed Bd.named, (name_of_methodNamed Bd.named Bd.method).1, Bd.returns, Bd.notSynchronized⟩ ⟨[], X0, Fr.nil _, by rw [e0]; exact H⟩
theorem oGo.top {g g' : JFrame} (q : g = g') (k : oGo p e below K (T.setTop g')) : oGo p e below K (T.setTop g) := q ▸ k
theorem g_iload (cx : oCx p s m meth c Z own nm code maxL ret) (o : oOn p l e R s m args below meth c Z cells slots T L) {v : Int32} (hd : decode code pc = .ok (.iload k, 2)) (hp : pc + 2 = pc') (hl : Ls[k]? = some (.val (.int v)))
    (kk : oGo p e below K (T.setTop (mkF m pc' Ls (.int v :: st)))) : oGo p e below K (T.setTop (mkF m pc Ls (st))) := by
  subst hp; exact kk.via fun t q => XS.iload o.here cx.1 rfl (hb cx.2.2.1 hd) hl q
theorem g_iloadN (cx : oCx p s m meth c Z own nm code maxL ret) (o : oOn p l e R s m args below meth c Z cells slots T L) {f : Fin 4} {v : Int32} (hd : decode code pc = .ok (.iload_n f, 1)) (hp : pc + 1 = pc') (hl : Ls[f.val]? = some (.val (.int v)))
    (kk : oGo p e below K (T.setTop (mkF m pc' Ls (.int v :: st)))) : oGo p e below K (T.setTop (mkF m pc Ls (st))) := by
  subst hp; exact kk.via fun t q => XS.iloadN o.here cx.1 rfl (hb cx.2.2.1 hd) hl q
theorem g_istore (cx : oCx p s m meth c Z own nm code maxL ret) (o : oOn p l e R s m args below meth c Z cells slots T L) {v : Int32} {l' : Array Slot} (hd : decode code pc = .ok (.istore k, 2)) (hp : pc + 2 = pc') (hl : storeLocals Ls k (.int v) = some l')
    (kk : oGo p e below K (T.setTop (mkF m pc' l' (st)))) : oGo p e below K (T.setTop (mkF m pc Ls (.int v :: st))) := by
  subst hp; exact kk.via fun t q => XS.istore o.here cx.1 rfl (hb cx.2.2.1 hd) rfl hl q
theorem g_istoreN (cx : oCx p s m meth c Z own nm code maxL ret) (o : oOn p l e R s m args below meth c Z cells slots T L) {f : Fin 4} {v : Int32} {l' : Array Slot} (hd : decode code pc = .ok (.istore_n f, 1)) (hp : pc + 1 = pc') (hl : storeLocals Ls f.val (.int v) = some l')
    (kk : oGo p e below K (T.setTop (mkF m pc' l' (st)))) : oGo p e below K (T.setTop (mkF m pc Ls (.int v :: st))) := by
  subst hp; exact kk.via fun t q => XS.istoreN o.here cx.1 rfl (hb cx.2.2.1 hd) rfl hl q
theorem g_istoreV (cx : oCx p s m meth c Z own nm code maxL ret) (o : oOn p l e R s m args below meth c Z cells slots T L) {v : Int32} (l' : Int32 → Array Slot) (hd : decode code pc = .ok (.istore k, 2)) (hp : pc + 2 = pc') (hl : ∀ w, storeLocals Ls k (.int w) = some (l' w))
    (kk : ∀ w, w = v → oGo p e below K (T.setTop (mkF m pc' (l' w) st))) : oGo p e below K (T.setTop (mkF m pc Ls (.int v :: st))) := by
  exact g_istore cx o hd hp (hl v) (kk v rfl)
theorem g_istoreNV (cx : oCx p s m meth c Z own nm code maxL ret) (o : oOn p l e R s m args below meth c Z cells slots T L) {f : Fin 4} {v : Int32} (l' : Int32 → Array Slot) (hd : decode code pc = .ok (.istore_n f, 1)) (hp : pc + 1 = pc') (hl : ∀ w, storeLocals Ls f.val (.int w) = some (l' w))
    (kk : ∀ w, w = v → oGo p e below K (T.setTop (mkF m pc' (l' w) st))) : oGo p e below K (T.setTop (mkF m pc Ls (.int v :: st))) := by
  exact g_istoreN cx o hd hp (hl v) (kk v rfl)
theorem g_lload (cx : oCx p s m meth c Z own nm code maxL ret) (o : oOn p l e R s m args below meth c Z cells slots T L) {v : Int64} (hd : decode code pc = .ok (.lload k, 2)) (hp : pc + 2 = pc') (hl : Ls[k]? = some (.val (.long v)))
    (kk : oGo p e below K (T.setTop (mkF m pc' Ls (.long v :: st)))) : oGo p e below K (T.setTop (mkF m pc Ls (st))) := by
  subst hp; exact kk.via fun t q => XT.lload o.here cx.1 rfl (hb cx.2.2.1 hd) hl q
theorem g_lloadN (cx : oCx p s m meth c Z own nm code maxL ret) (o : oOn p l e R s m args below meth c Z cells slots T L) {f : Fin 4} {v : Int64} (hd : decode code pc = .ok (.lload_n f, 1)) (hp : pc + 1 = pc') (hl : Ls[f.val]? = some (.val (.long v)))
    (kk : oGo p e below K (T.setTop (mkF m pc' Ls (.long v :: st)))) : oGo p e below K (T.setTop (mkF m pc Ls (st))) := by
  subst hp; exact kk.via fun t q => XT.lloadN o.here cx.1 rfl (hb cx.2.2.1 hd) hl q
theorem g_lstore (cx : oCx p s m meth c Z own nm code maxL ret) (o : oOn p l e R s m args below meth c Z cells slots T L) {v : Int64} {l' : Array Slot} (hd : decode code pc = .ok (.lstore k, 2)) (hp : pc + 2 = pc') (hl : storeLocals Ls k (.long v) = some l')
    (kk : oGo p e below K (T.setTop (mkF m pc' l' (st)))) : oGo p e below K (T.setTop (mkF m pc Ls (.long v :: st))) := by
  subst hp; exact kk.via fun t q => XT.lstore o.here cx.1 rfl (hb cx.2.2.1 hd) rfl hl q
theorem g_lstoreN (cx : oCx p s m meth c Z own nm code maxL ret) (o : oOn p l e R s m args below meth c Z cells slots T L) {f : Fin 4} {v : Int64} {l' : Array Slot} (hd : decode code pc = .ok (.lstore_n f, 1)) (hp : pc + 1 = pc') (hl : storeLocals Ls f.val (.long v) = some l')
    (kk : oGo p e below K (T.setTop (mkF m pc' l' (st)))) : oGo p e below K (T.setTop (mkF m pc Ls (.long v :: st))) := by
  subst hp; exact kk.via fun t q => XT.lstoreN o.here cx.1 rfl (hb cx.2.2.1 hd) rfl hl q
theorem g_lstoreV (cx : oCx p s m meth c Z own nm code maxL ret) (o : oOn p l e R s m args below meth c Z cells slots T L) {v : Int64} (l' : Int64 → Array Slot) (hd : decode code pc = .ok (.lstore k, 2)) (hp : pc + 2 = pc') (hl : ∀ w, storeLocals Ls k (.long w) = some (l' w))
    (kk : ∀ w, w = v → oGo p e below K (T.setTop (mkF m pc' (l' w) st))) : oGo p e below K (T.setTop (mkF m pc Ls (.long v :: st))) := by
  exact g_lstore cx o hd hp (hl v) (kk v rfl)
theorem g_lstoreNV (cx : oCx p s m meth c Z own nm code maxL ret) (o : oOn p l e R s m args below meth c Z cells slots T L) {f : Fin 4} {v : Int64} (l' : Int64 → Array Slot) (hd : decode code pc = .ok (.lstore_n f, 1)) (hp : pc + 1 = pc') (hl : ∀ w, storeLocals Ls f.val (.long w) = some (l' w))
    (kk : ∀ w, w = v → oGo p e below K (T.setTop (mkF m pc' (l' w) st))) : oGo p e below K (T.setTop (mkF m pc Ls (.long v :: st))) := by
  exact g_lstoreN cx o hd hp (hl v) (kk v rfl)
theorem g_dload (cx : oCx p s m meth c Z own nm code maxL ret) (o : oOn p l e R s m args below meth c Z cells slots T L) {v : UInt64} (hd : decode code pc = .ok (.dload k, 2)) (hp : pc + 2 = pc') (hl : Ls[k]? = some (.val (.double v)))
    (kk : oGo p e below K (T.setTop (mkF m pc' Ls (.double v :: st)))) : oGo p e below K (T.setTop (mkF m pc Ls (st))) := by
  subst hp; exact kk.via fun t q => XS.dload o.here cx.1 rfl (hb cx.2.2.1 hd) hl q
theorem g_dloadN (cx : oCx p s m meth c Z own nm code maxL ret) (o : oOn p l e R s m args below meth c Z cells slots T L) {f : Fin 4} {v : UInt64} (hd : decode code pc = .ok (.dload_n f, 1)) (hp : pc + 1 = pc') (hl : Ls[f.val]? = some (.val (.double v)))
    (kk : oGo p e below K (T.setTop (mkF m pc' Ls (.double v :: st)))) : oGo p e below K (T.setTop (mkF m pc Ls (st))) := by
  subst hp; exact kk.via fun t q => XS.dloadN o.here cx.1 rfl (hb cx.2.2.1 hd) hl q
theorem g_dstore (cx : oCx p s m meth c Z own nm code maxL ret) (o : oOn p l e R s m args below meth c Z cells slots T L) {v : UInt64} {l' : Array Slot} (hd : decode code pc = .ok (.dstore k, 2)) (hp : pc + 2 = pc') (hl : storeLocals Ls k (.double v) = some l')
    (kk : oGo p e below K (T.setTop (mkF m pc' l' (st)))) : oGo p e below K (T.setTop (mkF m pc Ls (.double v :: st))) := by
  subst hp; exact kk.via fun t q => XS.dstore o.here cx.1 rfl (hb cx.2.2.1 hd) rfl hl q
theorem g_dstoreN (cx : oCx p s m meth c Z own nm code maxL ret) (o : oOn p l e R s m args below meth c Z cells slots T L) {f : Fin 4} {v : UInt64} {l' : Array Slot} (hd : decode code pc = .ok (.dstore_n f, 1)) (hp : pc + 1 = pc') (hl : storeLocals Ls f.val (.double v) = some l')
    (kk : oGo p e below K (T.setTop (mkF m pc' l' (st)))) : oGo p e below K (T.setTop (mkF m pc Ls (.double v :: st))) := by
  subst hp; exact kk.via fun t q => XS.dstoreN o.here cx.1 rfl (hb cx.2.2.1 hd) rfl hl q
theorem g_dstoreV (cx : oCx p s m meth c Z own nm code maxL ret) (o : oOn p l e R s m args below meth c Z cells slots T L) {v : UInt64} (l' : UInt64 → Array Slot) (hd : decode code pc = .ok (.dstore k, 2)) (hp : pc + 2 = pc') (hl : ∀ w, storeLocals Ls k (.double w) = some (l' w))
    (kk : ∀ w, w = v → oGo p e below K (T.setTop (mkF m pc' (l' w) st))) : oGo p e below K (T.setTop (mkF m pc Ls (.double v :: st))) := by
  exact g_dstore cx o hd hp (hl v) (kk v rfl)
theorem g_dstoreNV (cx : oCx p s m meth c Z own nm code maxL ret) (o : oOn p l e R s m args below meth c Z cells slots T L) {f : Fin 4} {v : UInt64} (l' : UInt64 → Array Slot) (hd : decode code pc = .ok (.dstore_n f, 1)) (hp : pc + 1 = pc') (hl : ∀ w, storeLocals Ls f.val (.double w) = some (l' w))
    (kk : ∀ w, w = v → oGo p e below K (T.setTop (mkF m pc' (l' w) st))) : oGo p e below K (T.setTop (mkF m pc Ls (.double v :: st))) := by
  exact g_dstoreN cx o hd hp (hl v) (kk v rfl)
theorem g_aload (cx : oCx p s m meth c Z own nm code maxL ret) (o : oOn p l e R s m args below meth c Z cells slots T L) {v : Value} (hd : decode code pc = .ok (.aload k, 2)) (hp : pc + 2 = pc') (hl : Ls[k]? = some (.val v)) (hv : v.isRef = true)
    (kk : oGo p e below K (T.setTop (mkF m pc' Ls (v :: st)))) : oGo p e below K (T.setTop (mkF m pc Ls (st))) := by
  subst hp; exact kk.via fun t q => XS.aload o.here cx.1 rfl (hb cx.2.2.1 hd) hl hv q
theorem g_aloadN (cx : oCx p s m meth c Z own nm code maxL ret) (o : oOn p l e R s m args below meth c Z cells slots T L) {f : Fin 4} {v : Value} (hd : decode code pc = .ok (.aload_n f, 1)) (hp : pc + 1 = pc') (hl : Ls[f.val]? = some (.val v)) (hv : v.isRef = true)
    (kk : oGo p e below K (T.setTop (mkF m pc' Ls (v :: st)))) : oGo p e below K (T.setTop (mkF m pc Ls (st))) := by
  subst hp; exact kk.via fun t q => XS.aloadN o.here cx.1 rfl (hb cx.2.2.1 hd) hl hv q
theorem g_astore (cx : oCx p s m meth c Z own nm code maxL ret) (o : oOn p l e R s m args below meth c Z cells slots T L) {v : Value} {l' : Array Slot} (hd : decode code pc = .ok (.astore k, 2)) (hp : pc + 2 = pc') (hv : v.isRef = true) (hl : storeLocals Ls k v = some l')
    (kk : oGo p e below K (T.setTop (mkF m pc' l' (st)))) : oGo p e below K (T.setTop (mkF m pc Ls (v :: st))) := by
  subst hp; exact kk.via fun t q => XS.astore o.here cx.1 rfl (hb cx.2.2.1 hd) rfl hv hl q
theorem g_astoreN (cx : oCx p s m meth c Z own nm code maxL ret) (o : oOn p l e R s m args below meth c Z cells slots T L) {f : Fin 4} {v : Value} {l' : Array Slot} (hd : decode code pc = .ok (.astore_n f, 1)) (hp : pc + 1 = pc') (hv : v.isRef = true) (hl : storeLocals Ls f.val v = some l')
    (kk : oGo p e below K (T.setTop (mkF m pc' l' (st)))) : oGo p e below K (T.setTop (mkF m pc Ls (v :: st))) := by
  subst hp; exact kk.via fun t q => XS.astoreN o.here cx.1 rfl (hb cx.2.2.1 hd) rfl hv hl q
theorem g_iadd (cx : oCx p s m meth c Z own nm code maxL ret) (o : oOn p l e R s m args below meth c Z cells slots T L) {x y : Int32} (hd : decode code pc = .ok (.iadd, 1)) (hp : pc + 1 = pc') 
    (kk : oGo p e below K (T.setTop (mkF m pc' Ls (.int (x + y) :: st)))) : oGo p e below K (T.setTop (mkF m pc Ls (.int y :: .int x :: st))) := by
  subst hp; exact kk.via fun t q => XS.iadd o.here cx.1 rfl (hb cx.2.2.1 hd) rfl q
theorem g_isub (cx : oCx p s m meth c Z own nm code maxL ret) (o : oOn p l e R s m args below meth c Z cells slots T L) {x y : Int32} (hd : decode code pc = .ok (.isub, 1)) (hp : pc + 1 = pc') 
    (kk : oGo p e below K (T.setTop (mkF m pc' Ls (.int (x - y) :: st)))) : oGo p e below K (T.setTop (mkF m pc Ls (.int y :: .int x :: st))) := by
  subst hp; exact kk.via fun t q => XS.isub o.here cx.1 rfl (hb cx.2.2.1 hd) rfl q
theorem g_imul (cx : oCx p s m meth c Z own nm code maxL ret) (o : oOn p l e R s m args below meth c Z cells slots T L) {x y : Int32} (hd : decode code pc = .ok (.imul, 1)) (hp : pc + 1 = pc') 
    (kk : oGo p e below K (T.setTop (mkF m pc' Ls (.int (x * y) :: st)))) : oGo p e below K (T.setTop (mkF m pc Ls (.int y :: .int x :: st))) := by
  subst hp; exact kk.via fun t q => XS.imul o.here cx.1 rfl (hb cx.2.2.1 hd) rfl q
theorem g_iand (cx : oCx p s m meth c Z own nm code maxL ret) (o : oOn p l e R s m args below meth c Z cells slots T L) {x y : Int32} (hd : decode code pc = .ok (.iand, 1)) (hp : pc + 1 = pc') 
    (kk : oGo p e below K (T.setTop (mkF m pc' Ls (.int (x &&& y) :: st)))) : oGo p e below K (T.setTop (mkF m pc Ls (.int y :: .int x :: st))) := by
  subst hp; exact kk.via fun t q => XS.iand o.here cx.1 rfl (hb cx.2.2.1 hd) rfl q
theorem g_ior (cx : oCx p s m meth c Z own nm code maxL ret) (o : oOn p l e R s m args below meth c Z cells slots T L) {x y : Int32} (hd : decode code pc = .ok (.ior, 1)) (hp : pc + 1 = pc') 
    (kk : oGo p e below K (T.setTop (mkF m pc' Ls (.int (x ||| y) :: st)))) : oGo p e below K (T.setTop (mkF m pc Ls (.int y :: .int x :: st))) := by
  subst hp; exact kk.via fun t q => XT.ior o.here cx.1 rfl (hb cx.2.2.1 hd) rfl q
theorem g_ixor (cx : oCx p s m meth c Z own nm code maxL ret) (o : oOn p l e R s m args below meth c Z cells slots T L) {x y : Int32} (hd : decode code pc = .ok (.ixor, 1)) (hp : pc + 1 = pc') 
    (kk : oGo p e below K (T.setTop (mkF m pc' Ls (.int (x ^^^ y) :: st)))) : oGo p e below K (T.setTop (mkF m pc Ls (.int y :: .int x :: st))) := by
  subst hp; exact kk.via fun t q => XT.ixor o.here cx.1 rfl (hb cx.2.2.1 hd) rfl q
theorem g_ishl (cx : oCx p s m meth c Z own nm code maxL ret) (o : oOn p l e R s m args below meth c Z cells slots T L) {x y : Int32} (hd : decode code pc = .ok (.ishl, 1)) (hp : pc + 1 = pc') 
    (kk : oGo p e below K (T.setTop (mkF m pc' Ls (.int (x <<< (y &&& 31)) :: st)))) : oGo p e below K (T.setTop (mkF m pc Ls (.int y :: .int x :: st))) := by
  subst hp; exact kk.via fun t q => XT.ishl o.here cx.1 rfl (hb cx.2.2.1 hd) rfl q
theorem g_ishr (cx : oCx p s m meth c Z own nm code maxL ret) (o : oOn p l e R s m args below meth c Z cells slots T L) {x y : Int32} (hd : decode code pc = .ok (.ishr, 1)) (hp : pc + 1 = pc') 
    (kk : oGo p e below K (T.setTop (mkF m pc' Ls (.int (x >>> (y &&& 31)) :: st)))) : oGo p e below K (T.setTop (mkF m pc Ls (.int y :: .int x :: st))) := by
  subst hp; exact kk.via fun t q => XT.ishr o.here cx.1 rfl (hb cx.2.2.1 hd) rfl q
theorem g_iushr (cx : oCx p s m meth c Z own nm code maxL ret) (o : oOn p l e R s m args below meth c Z cells slots T L) {x y : Int32} (hd : decode code pc = .ok (.iushr, 1)) (hp : pc + 1 = pc') 
    (kk : oGo p e below K (T.setTop (mkF m pc' Ls (.int (XT.ushr x y) :: st)))) : oGo p e below K (T.setTop (mkF m pc Ls (.int y :: .int x :: st))) := by
  subst hp; exact kk.via fun t q => XT.iushr o.here cx.1 rfl (hb cx.2.2.1 hd) rfl q
theorem g_ladd (cx : oCx p s m meth c Z own nm code maxL ret) (o : oOn p l e R s m args below meth c Z cells slots T L) {x y : Int64} (hd : decode code pc = .ok (.ladd, 1)) (hp : pc + 1 = pc') 
    (kk : oGo p e below K (T.setTop (mkF m pc' Ls (.long (x + y) :: st)))) : oGo p e below K (T.setTop (mkF m pc Ls (.long y :: .long x :: st))) := by
  subst hp; exact kk.via fun t q => XT.ladd o.here cx.1 rfl (hb cx.2.2.1 hd) rfl q
theorem g_lsub (cx : oCx p s m meth c Z own nm code maxL ret) (o : oOn p l e R s m args below meth c Z cells slots T L) {x y : Int64} (hd : decode code pc = .ok (.lsub, 1)) (hp : pc + 1 = pc') 
    (kk : oGo p e below K (T.setTop (mkF m pc' Ls (.long (x - y) :: st)))) : oGo p e below K (T.setTop (mkF m pc Ls (.long y :: .long x :: st))) := by
  subst hp; exact kk.via fun t q => XT.lsub o.here cx.1 rfl (hb cx.2.2.1 hd) rfl q
theorem g_lmul (cx : oCx p s m meth c Z own nm code maxL ret) (o : oOn p l e R s m args below meth c Z cells slots T L) {x y : Int64} (hd : decode code pc = .ok (.lmul, 1)) (hp : pc + 1 = pc') 
    (kk : oGo p e below K (T.setTop (mkF m pc' Ls (.long (x * y) :: st)))) : oGo p e below K (T.setTop (mkF m pc Ls (.long y :: .long x :: st))) := by
  subst hp; exact kk.via fun t q => XT.lmul o.here cx.1 rfl (hb cx.2.2.1 hd) rfl q
theorem g_land (cx : oCx p s m meth c Z own nm code maxL ret) (o : oOn p l e R s m args below meth c Z cells slots T L) {x y : Int64} (hd : decode code pc = .ok (.land, 1)) (hp : pc + 1 = pc') 
    (kk : oGo p e below K (T.setTop (mkF m pc' Ls (.long (x &&& y) :: st)))) : oGo p e below K (T.setTop (mkF m pc Ls (.long y :: .long x :: st))) := by
  subst hp; exact kk.via fun t q => XT.land o.here cx.1 rfl (hb cx.2.2.1 hd) rfl q
theorem g_lor (cx : oCx p s m meth c Z own nm code maxL ret) (o : oOn p l e R s m args below meth c Z cells slots T L) {x y : Int64} (hd : decode code pc = .ok (.lor, 1)) (hp : pc + 1 = pc') 
    (kk : oGo p e below K (T.setTop (mkF m pc' Ls (.long (x ||| y) :: st)))) : oGo p e below K (T.setTop (mkF m pc Ls (.long y :: .long x :: st))) := by
  subst hp; exact kk.via fun t q => XT.lor o.here cx.1 rfl (hb cx.2.2.1 hd) rfl q
theorem g_lxor (cx : oCx p s m meth c Z own nm code maxL ret) (o : oOn p l e R s m args below meth c Z cells slots T L) {x y : Int64} (hd : decode code pc = .ok (.lxor, 1)) (hp : pc + 1 = pc') 
    (kk : oGo p e below K (T.setTop (mkF m pc' Ls (.long (x ^^^ y) :: st)))) : oGo p e below K (T.setTop (mkF m pc Ls (.long y :: .long x :: st))) := by
  subst hp; exact kk.via fun t q => XT.lxor o.here cx.1 rfl (hb cx.2.2.1 hd) rfl q
theorem g_idiv (cx : oCx p s m meth c Z own nm code maxL ret) (o : oOn p l e R s m args below meth c Z cells slots T L) {x y : Int32} (hd : decode code pc = .ok (.idiv, 1)) (hp : pc + 1 = pc') (hy : y ≠ 0)
    (kk : oGo p e below K (T.setTop (mkF m pc' Ls (.int (x / y) :: st)))) : oGo p e below K (T.setTop (mkF m pc Ls (.int y :: .int x :: st))) := by
  subst hp; exact kk.via fun t q => XS.idiv o.here cx.1 rfl (hb cx.2.2.1 hd) rfl hy q
theorem g_irem (cx : oCx p s m meth c Z own nm code maxL ret) (o : oOn p l e R s m args below meth c Z cells slots T L) {x y : Int32} (hd : decode code pc = .ok (.irem, 1)) (hp : pc + 1 = pc') (hy : y ≠ 0)
    (kk : oGo p e below K (T.setTop (mkF m pc' Ls (.int (x % y) :: st)))) : oGo p e below K (T.setTop (mkF m pc Ls (.int y :: .int x :: st))) := by
  subst hp; obtain ⟨_, X, -⟩ := o; exact kk.via fun t q => iremM X cx.1 rfl (hb cx.2.2.1 hd) rfl hy q
theorem g_ldiv (cx : oCx p s m meth c Z own nm code maxL ret) (o : oOn p l e R s m args below meth c Z cells slots T L) {x y : Int64} (hd : decode code pc = .ok (.ldiv, 1)) (hp : pc + 1 = pc') (hy : y ≠ 0)
    (kk : oGo p e below K (T.setTop (mkF m pc' Ls (.long (x / y) :: st)))) : oGo p e below K (T.setTop (mkF m pc Ls (.long y :: .long x :: st))) := by
  subst hp; exact kk.via fun t q => XT.ldiv o.here cx.1 rfl (hb cx.2.2.1 hd) rfl hy q
theorem g_lrem (cx : oCx p s m meth c Z own nm code maxL ret) (o : oOn p l e R s m args below meth c Z cells slots T L) {x y : Int64} (hd : decode code pc = .ok (.lrem, 1)) (hp : pc + 1 = pc') (hy : y ≠ 0)
    (kk : oGo p e below K (T.setTop (mkF m pc' Ls (.long (x - (x / y) * y) :: st)))) : oGo p e below K (T.setTop (mkF m pc Ls (.long y :: .long x :: st))) := by
  subst hp; exact kk.via fun t q => XT.lrem o.here cx.1 rfl (hb cx.2.2.1 hd) rfl hy q
theorem g_ineg (cx : oCx p s m meth c Z own nm code maxL ret) (o : oOn p l e R s m args below meth c Z cells slots T L) {x : Int32} (hd : decode code pc = .ok (.ineg, 1)) (hp : pc + 1 = pc') 
    (kk : oGo p e below K (T.setTop (mkF m pc' Ls (.int (-x) :: st)))) : oGo p e below K (T.setTop (mkF m pc Ls (.int x :: st))) := by
  subst hp; exact kk.via fun t q => XS.ineg o.here cx.1 rfl (hb cx.2.2.1 hd) rfl q
theorem g_lneg (cx : oCx p s m meth c Z own nm code maxL ret) (o : oOn p l e R s m args below meth c Z cells slots T L) {x : Int64} (hd : decode code pc = .ok (.lneg, 1)) (hp : pc + 1 = pc') 
    (kk : oGo p e below K (T.setTop (mkF m pc' Ls (.long (-x) :: st)))) : oGo p e below K (T.setTop (mkF m pc Ls (.long x :: st))) := by
  subst hp; exact kk.via fun t q => XT.lneg o.here cx.1 rfl (hb cx.2.2.1 hd) rfl q
theorem g_i2l (cx : oCx p s m meth c Z own nm code maxL ret) (o : oOn p l e R s m args below meth c Z cells slots T L) {x : Int32} (hd : decode code pc = .ok (.i2l, 1)) (hp : pc + 1 = pc') 
    (kk : oGo p e below K (T.setTop (mkF m pc' Ls (.long x.toInt64 :: st)))) : oGo p e below K (T.setTop (mkF m pc Ls (.int x :: st))) := by
  subst hp; exact kk.via fun t q => XT.i2l o.here cx.1 rfl (hb cx.2.2.1 hd) rfl q
theorem g_l2i (cx : oCx p s m meth c Z own nm code maxL ret) (o : oOn p l e R s m args below meth c Z cells slots T L) {x : Int64} (hd : decode code pc = .ok (.l2i, 1)) (hp : pc + 1 = pc') 
    (kk : oGo p e below K (T.setTop (mkF m pc' Ls (.int x.toInt32 :: st)))) : oGo p e below K (T.setTop (mkF m pc Ls (.long x :: st))) := by
  subst hp; exact kk.via fun t q => XT.l2i o.here cx.1 rfl (hb cx.2.2.1 hd) rfl q
theorem g_lcmp (cx : oCx p s m meth c Z own nm code maxL ret) (o : oOn p l e R s m args below meth c Z cells slots T L) {x y : Int64} (hd : decode code pc = .ok (.lcmp, 1)) (hp : pc + 1 = pc') 
    (kk : oGo p e below K (T.setTop (mkF m pc' Ls (.int (XT.cmpL x y) :: st)))) : oGo p e below K (T.setTop (mkF m pc Ls (.long y :: .long x :: st))) := by
  subst hp; exact kk.via fun t q => XT.lcmp o.here cx.1 rfl (hb cx.2.2.1 hd) rfl q
theorem g_iconst (cx : oCx p s m meth c Z own nm code maxL ret) (o : oOn p l e R s m args below meth c Z cells slots T L) {q : Int} (z : Int32) (hd : decode code pc = .ok (.iconst q, 1)) (hp : pc + 1 = pc') (hz : Int32.ofInt q = z)
    (kk : oGo p e below K (T.setTop (mkF m pc' Ls (.int z :: st)))) : oGo p e below K (T.setTop (mkF m pc Ls st)) := by
  subst hp hz; exact kk.via fun t r => XS.iconst o.here cx.1 rfl (hb cx.2.2.1 hd) r
theorem g_bipush (cx : oCx p s m meth c Z own nm code maxL ret) (o : oOn p l e R s m args below meth c Z cells slots T L) {q : Int} (z : Int32) (hd : decode code pc = .ok (.bipush q, 2)) (hp : pc + 2 = pc') (hz : (Int8.ofInt q).toInt32 = z)
    (kk : oGo p e below K (T.setTop (mkF m pc' Ls (.int z :: st)))) : oGo p e below K (T.setTop (mkF m pc Ls st)) := by
  subst hp hz; exact kk.via fun t r => XS.bipush o.here cx.1 rfl (hb cx.2.2.1 hd) r
theorem g_sipush (cx : oCx p s m meth c Z own nm code maxL ret) (o : oOn p l e R s m args below meth c Z cells slots T L) {q : Int} (z : Int32) (hd : decode code pc = .ok (.sipush q, 3)) (hp : pc + 3 = pc') (hz : (Int16.ofInt q).toInt32 = z)
    (kk : oGo p e below K (T.setTop (mkF m pc' Ls (.int z :: st)))) : oGo p e below K (T.setTop (mkF m pc Ls st)) := by
  subst hp hz; exact kk.via fun t r => XS.sipush o.here cx.1 rfl (hb cx.2.2.1 hd) r
theorem g_lconst (cx : oCx p s m meth c Z own nm code maxL ret) (o : oOn p l e R s m args below meth c Z cells slots T L) {f : Fin 2} (z : Int64) (hd : decode code pc = .ok (.lconst f, 1)) (hp : pc + 1 = pc') (hz : Int64.ofNat f = z)
    (kk : oGo p e below K (T.setTop (mkF m pc' Ls (.long z :: st)))) : oGo p e below K (T.setTop (mkF m pc Ls st)) := by
  subst hp hz; exact kk.via fun t r => XT.lconst o.here cx.1 rfl (hb cx.2.2.1 hd) r
theorem g_dconst0 (cx : oCx p s m meth c Z own nm code maxL ret) (o : oOn p l e R s m args below meth c Z cells slots T L) (hd : decode code pc = .ok (.dconst 0, 1)) (hp : pc + 1 = pc')
    (kk : oGo p e below K (T.setTop (mkF m pc' Ls (.double FP.dconst0 :: st)))) : oGo p e below K (T.setTop (mkF m pc Ls st)) := by
  subst hp; exact kk.via fun t r => XS.dconst0 o.here cx.1 rfl (hb cx.2.2.1 hd) rfl r
theorem g_dconst1 (cx : oCx p s m meth c Z own nm code maxL ret) (o : oOn p l e R s m args below meth c Z cells slots T L) (hd : decode code pc = .ok (.dconst 1, 1)) (hp : pc + 1 = pc')
    (kk : oGo p e below K (T.setTop (mkF m pc' Ls (.double FP.dconst1 :: st)))) : oGo p e below K (T.setTop (mkF m pc Ls st)) := by
  subst hp; exact kk.via fun t r => XS.dconst1 o.here cx.1 rfl (hb cx.2.2.1 hd) rfl r
theorem g_aconst_null (cx : oCx p s m meth c Z own nm code maxL ret) (o : oOn p l e R s m args below meth c Z cells slots T L)  (hd : decode code pc = .ok (.aconst_null, 1)) (hp : pc + 1 = pc') 
    (kk : oGo p e below K (T.setTop (mkF m pc' Ls (.null :: st)))) : oGo p e below K (T.setTop (mkF m pc Ls (st))) := by
  subst hp; exact kk.via fun t q => XS.aconstNull o.here cx.1 rfl (hb cx.2.2.1 hd)  q
theorem g_dup (cx : oCx p s m meth c Z own nm code maxL ret) (o : oOn p l e R s m args below meth c Z cells slots T L) {v : Value} (hd : decode code pc = .ok (.dup, 1)) (hp : pc + 1 = pc') (hc : v.category = 1)
    (kk : oGo p e below K (T.setTop (mkF m pc' Ls (v :: v :: st)))) : oGo p e below K (T.setTop (mkF m pc Ls (v :: st))) := by
  subst hp; exact kk.via fun t q => XS.dup o.here cx.1 rfl (hb cx.2.2.1 hd) rfl hc q
theorem g_pop (cx : oCx p s m meth c Z own nm code maxL ret) (o : oOn p l e R s m args below meth c Z cells slots T L) {v : Value} (hd : decode code pc = .ok (.pop, 1)) (hp : pc + 1 = pc') (hc : v.category = 1)
    (kk : oGo p e below K (T.setTop (mkF m pc' Ls (st)))) : oGo p e below K (T.setTop (mkF m pc Ls (v :: st))) := by
  subst hp; exact kk.via fun t q => XT.pop o.here cx.1 rfl (hb cx.2.2.1 hd) rfl hc q
theorem g_dup_x1 (cx : oCx p s m meth c Z own nm code maxL ret) (o : oOn p l e R s m args below meth c Z cells slots T L) {v w : Value} (hd : decode code pc = .ok (.dup_x1, 1)) (hp : pc + 1 = pc') (hc : v.category = 1) (hc' : w.category = 1)
    (kk : oGo p e below K (T.setTop (mkF m pc' Ls (v :: w :: v :: st)))) : oGo p e below K (T.setTop (mkF m pc Ls (v :: w :: st))) := by
  subst hp; exact kk.via fun t q => XT.dupX1 o.here cx.1 rfl (hb cx.2.2.1 hd) rfl hc hc' q
theorem g_dup2 (cx : oCx p s m meth c Z own nm code maxL ret) (o : oOn p l e R s m args below meth c Z cells slots T L) {v w : Value} (hd : decode code pc = .ok (.dup2, 1)) (hp : pc + 1 = pc') (hc : v.category = 1) (hc' : w.category = 1)
    (kk : oGo p e below K (T.setTop (mkF m pc' Ls (v :: w :: v :: w :: st)))) : oGo p e below K (T.setTop (mkF m pc Ls (v :: w :: st))) := by
  subst hp; exact kk.via fun t q => XT.dup2 o.here cx.1 rfl (hb cx.2.2.1 hd) rfl hc hc' q
theorem g_dup2L (cx : oCx p s m meth c Z own nm code maxL ret) (o : oOn p l e R s m args below meth c Z cells slots T L) {x : Int64} (hd : decode code pc = .ok (.dup2, 1)) (hp : pc + 1 = pc') 
    (kk : oGo p e below K (T.setTop (mkF m pc' Ls (.long x :: .long x :: st)))) : oGo p e below K (T.setTop (mkF m pc Ls (.long x :: st))) := by
  subst hp; exact kk.via fun t q => XT.dup2L o.here cx.1 rfl (hb cx.2.2.1 hd) rfl q
theorem g_i2d (cx : oCx p s m meth c Z own nm code maxL ret) (o : oOn p l e R s m args below meth c Z cells slots T L) {x : Int32} (hd : decode code pc = .ok (.i2d, 1)) (hp : pc + 1 = pc') 
    (kk : oGo p e below K (T.setTop (mkF m pc' Ls (.double (FP.i2d x) :: st)))) : oGo p e below K (T.setTop (mkF m pc Ls (.int x :: st))) := by
  subst hp; exact kk.via fun t q => XS.i2dS o.here cx.1 rfl (hb cx.2.2.1 hd) rfl rfl q
theorem g_l2d (cx : oCx p s m meth c Z own nm code maxL ret) (o : oOn p l e R s m args below meth c Z cells slots T L) {x : Int64} (hd : decode code pc = .ok (.l2d, 1)) (hp : pc + 1 = pc') 
    (kk : oGo p e below K (T.setTop (mkF m pc' Ls (.double (FP.l2d x) :: st)))) : oGo p e below K (T.setTop (mkF m pc Ls (.long x :: st))) := by
  subst hp; exact kk.via fun t q => XS.l2dS o.here cx.1 rfl (hb cx.2.2.1 hd) rfl rfl q
theorem g_d2l (cx : oCx p s m meth c Z own nm code maxL ret) (o : oOn p l e R s m args below meth c Z cells slots T L) {x : UInt64} (hd : decode code pc = .ok (.d2l, 1)) (hp : pc + 1 = pc') 
    (kk : oGo p e below K (T.setTop (mkF m pc' Ls (.long (FP.d2l x) :: st)))) : oGo p e below K (T.setTop (mkF m pc Ls (.double x :: st))) := by
  subst hp; exact kk.via fun t q => XS.d2lS o.here cx.1 rfl (hb cx.2.2.1 hd) rfl rfl q
theorem g_d2i (cx : oCx p s m meth c Z own nm code maxL ret) (o : oOn p l e R s m args below meth c Z cells slots T L) {x : UInt64} (hd : decode code pc = .ok (.d2i, 1)) (hp : pc + 1 = pc') 
    (kk : oGo p e below K (T.setTop (mkF m pc' Ls (.int (FP.d2i x) :: st)))) : oGo p e below K (T.setTop (mkF m pc Ls (.double x :: st))) := by
  subst hp; exact kk.via fun t q => XS.d2iS o.here cx.1 rfl (hb cx.2.2.1 hd) rfl rfl q
theorem g_dneg (cx : oCx p s m meth c Z own nm code maxL ret) (o : oOn p l e R s m args below meth c Z cells slots T L) {x : UInt64} (hd : decode code pc = .ok (.dneg, 1)) (hp : pc + 1 = pc') 
    (kk : oGo p e below K (T.setTop (mkF m pc' Ls (.double (FP.dneg x) :: st)))) : oGo p e below K (T.setTop (mkF m pc Ls (.double x :: st))) := by
  subst hp; exact kk.via fun t q => XS.dnegS o.here cx.1 rfl (hb cx.2.2.1 hd) rfl rfl q
theorem g_dcmp (cx : oCx p s m meth c Z own nm code maxL ret) (o : oOn p l e R s m args below meth c Z cells slots T L) {f : CmpOp} {x y : UInt64} (hd : decode code pc = .ok (.dcmp f, 1)) (hp : pc + 1 = pc') 
    (kk : oGo p e below K (T.setTop (mkF m pc' Ls (.int (cmpValue (FP.dcmp x y) f) :: st)))) : oGo p e below K (T.setTop (mkF m pc Ls (.double y :: .double x :: st))) := by
  subst hp; exact kk.via fun t q => XS.dcmpS o.here cx.1 rfl (hb cx.2.2.1 hd) rfl rfl q
theorem g_dadd (cx : oCx p s m meth c Z own nm code maxL ret) (o : oOn p l e R s m args below meth c Z cells slots T L) {x y : UInt64} (hd : decode code pc = .ok (.dadd, 1)) (hp : pc + 1 = pc') (hn : NoNaN64 (FP.dadd x y))
    (kk : oGo p e below K (T.setTop (mkF m pc' Ls (.double (FP.dadd x y) :: st)))) : oGo p e below K (T.setTop (mkF m pc Ls (.double y :: .double x :: st))) := by
  subst hp; exact kk.via fun t q => XS.daddS o.here cx.1 rfl (hb cx.2.2.1 hd) rfl hn rfl q
theorem g_dsub (cx : oCx p s m meth c Z own nm code maxL ret) (o : oOn p l e R s m args below meth c Z cells slots T L) {x y : UInt64} (hd : decode code pc = .ok (.dsub, 1)) (hp : pc + 1 = pc') (hn : NoNaN64 (FP.dsub x y))
    (kk : oGo p e below K (T.setTop (mkF m pc' Ls (.double (FP.dsub x y) :: st)))) : oGo p e below K (T.setTop (mkF m pc Ls (.double y :: .double x :: st))) := by
  subst hp; exact kk.via fun t q => XS.dsubS o.here cx.1 rfl (hb cx.2.2.1 hd) rfl hn rfl q
theorem g_dmul (cx : oCx p s m meth c Z own nm code maxL ret) (o : oOn p l e R s m args below meth c Z cells slots T L) {x y : UInt64} (hd : decode code pc = .ok (.dmul, 1)) (hp : pc + 1 = pc') (hn : NoNaN64 (FP.dmul x y))
    (kk : oGo p e below K (T.setTop (mkF m pc' Ls (.double (FP.dmul x y) :: st)))) : oGo p e below K (T.setTop (mkF m pc Ls (.double y :: .double x :: st))) := by
  subst hp; exact kk.via fun t q => XS.dmulS o.here cx.1 rfl (hb cx.2.2.1 hd) rfl hn rfl q
theorem g_ddiv (cx : oCx p s m meth c Z own nm code maxL ret) (o : oOn p l e R s m args below meth c Z cells slots T L) {x y : UInt64} (hd : decode code pc = .ok (.ddiv, 1)) (hp : pc + 1 = pc') (hn : NoNaN64 (FP.ddiv x y))
    (kk : oGo p e below K (T.setTop (mkF m pc' Ls (.double (FP.ddiv x y) :: st)))) : oGo p e below K (T.setTop (mkF m pc Ls (.double y :: .double x :: st))) := by
  subst hp; exact kk.via fun t q => XS.ddivS o.here cx.1 rfl (hb cx.2.2.1 hd) rfl hn rfl q
theorem g_iinc (cx : oCx p s m meth c Z own nm code maxL ret) (o : oOn p l e R s m args below meth c Z cells slots T L) {cst : Int} {x : Int32} (z : Int32) {l' : Array Slot} (hd : decode code pc = .ok (.iinc k cst, 3)) (hp : pc + 3 = pc') (hl : Ls[k]? = some (.val (.int x))) (hz : x + Int32.ofInt cst = z) (hl' : storeLocals Ls k (.int z) = some l')
    (kk : oGo p e below K (T.setTop (mkF m pc' l' st))) : oGo p e below K (T.setTop (mkF m pc Ls st)) := by
  subst hp hz; exact kk.via fun t r => XS.iinc o.here cx.1 rfl (hb cx.2.2.1 hd) hl hl' r
theorem g_lshl (cx : oCx p s m meth c Z own nm code maxL ret) (o : oOn p l e R s m args below meth c Z cells slots T L) {x : Int64} {y : Int32} (hd : decode code pc = .ok (.lshl, 1)) (hp : pc + 1 = pc') 
    (kk : oGo p e below K (T.setTop (mkF m pc' Ls (.long (x <<< (y.toInt64 &&& 63)) :: st)))) : oGo p e below K (T.setTop (mkF m pc Ls (.int y :: .long x :: st))) := by
  subst hp; exact kk.via fun t q => XT.lshl o.here cx.1 rfl (hb cx.2.2.1 hd) rfl q
theorem g_lshr (cx : oCx p s m meth c Z own nm code maxL ret) (o : oOn p l e R s m args below meth c Z cells slots T L) {x : Int64} {y : Int32} (hd : decode code pc = .ok (.lshr, 1)) (hp : pc + 1 = pc') 
    (kk : oGo p e below K (T.setTop (mkF m pc' Ls (.long (x >>> (y.toInt64 &&& 63)) :: st)))) : oGo p e below K (T.setTop (mkF m pc Ls (.int y :: .long x :: st))) := by
  subst hp; exact kk.via fun t q => XT.lshr o.here cx.1 rfl (hb cx.2.2.1 hd) rfl q
theorem g_lushr (cx : oCx p s m meth c Z own nm code maxL ret) (o : oOn p l e R s m args below meth c Z cells slots T L) {x : Int64} {y : Int32} (hd : decode code pc = .ok (.lushr, 1)) (hp : pc + 1 = pc') 
    (kk : oGo p e below K (T.setTop (mkF m pc' Ls (.long (XT.ushrL x y) :: st)))) : oGo p e below K (T.setTop (mkF m pc Ls (.int y :: .long x :: st))) := by
  subst hp; exact kk.via fun t q => XT.lushr o.here cx.1 rfl (hb cx.2.2.1 hd) rfl q
theorem g_i2b (cx : oCx p s m meth c Z own nm code maxL ret) (o : oOn p l e R s m args below meth c Z cells slots T L) {x : Int32} (hd : decode code pc = .ok (.i2b, 1)) (hp : pc + 1 = pc') 
    (kk : oGo p e below K (T.setTop (mkF m pc' Ls (.int (x.toInt8.toInt32) :: st)))) : oGo p e below K (T.setTop (mkF m pc Ls (.int x :: st))) := by
  subst hp; exact kk.via fun t q => XT.i2b o.here cx.1 rfl (hb cx.2.2.1 hd) rfl q
theorem g_i2s (cx : oCx p s m meth c Z own nm code maxL ret) (o : oOn p l e R s m args below meth c Z cells slots T L) {x : Int32} (hd : decode code pc = .ok (.i2s, 1)) (hp : pc + 1 = pc') 
    (kk : oGo p e below K (T.setTop (mkF m pc' Ls (.int (x.toInt16.toInt32) :: st)))) : oGo p e below K (T.setTop (mkF m pc Ls (.int x :: st))) := by
  subst hp; exact kk.via fun t q => XT.i2s o.here cx.1 rfl (hb cx.2.2.1 hd) rfl q
theorem g_goto (cx : oCx p s m meth c Z own nm code maxL ret) (o : oOn p l e R s m args below meth c Z cells slots T L) {off : Int} (hd : decode code pc = .ok (.goto off, 3)) (ho : 0 ≤ (pc : Int) + off) (hp : ((pc : Int) + off).toNat = pc')
    (kk : oGo p e below K (T.setTop (mkF m pc' Ls st))) : oGo p e below K (T.setTop (mkF m pc Ls st)) := by
  exact kk.via fun t q => XS.goto o.here cx.1 rfl rfl (hb cx.2.2.1 hd) ho hp q
theorem g_if_eq (cx : oCx p s m meth c Z own nm code maxL ret) (o : oOn p l e R s m args below meth c Z cells slots T L) {x : Int32} {off : Int} (hd : decode code pc = .ok (.ifCond .eq off, 3)) (ho : 0 ≤ (pc : Int) + off) (hp' : ((pc : Int) + off).toNat = pc') (hp : pc + 3 = pc2)
    (ky : x = 0 → oGo p e below K (T.setTop (mkF m pc' Ls st))) (kn : ¬ (x = 0) → oGo p e below K (T.setTop (mkF m pc2 Ls st))) : oGo p e below K (T.setTop (mkF m pc Ls (.int x :: st))) := by
  by_cases q : x = 0
  · exact (ky q).via fun t r => XS.ifYes o.here cx.1 rfl rfl (hb cx.2.2.1 hd) rfl ((if0 _ _).trans (teq q).1) ho hp' r
  · subst hp; exact (kn q).via fun t r => XS.ifNo o.here cx.1 rfl (hb cx.2.2.1 hd) rfl ((if0 _ _).trans (feq q).1) r
theorem g_icmp_eq (cx : oCx p s m meth c Z own nm code maxL ret) (o : oOn p l e R s m args below meth c Z cells slots T L) {x y : Int32} {off : Int} (hd : decode code pc = .ok (.if_icmp .eq off, 3)) (ho : 0 ≤ (pc : Int) + off) (hp' : ((pc : Int) + off).toNat = pc') (hp : pc + 3 = pc2)
    (ky : x = y → oGo p e below K (T.setTop (mkF m pc' Ls st))) (kn : ¬ (x = y) → oGo p e below K (T.setTop (mkF m pc2 Ls st))) : oGo p e below K (T.setTop (mkF m pc Ls (.int y :: .int x :: st))) := by
  by_cases q : x = y
  · exact (ky q).via fun t r => XS.icmpYes o.here cx.1 rfl rfl (hb cx.2.2.1 hd) rfl (teq q).1 ho hp' r
  · subst hp; exact (kn q).via fun t r => XS.icmpNo o.here cx.1 rfl (hb cx.2.2.1 hd) rfl (feq q).1 r
theorem g_if_ne (cx : oCx p s m meth c Z own nm code maxL ret) (o : oOn p l e R s m args below meth c Z cells slots T L) {x : Int32} {off : Int} (hd : decode code pc = .ok (.ifCond .ne off, 3)) (ho : 0 ≤ (pc : Int) + off) (hp' : ((pc : Int) + off).toNat = pc') (hp : pc + 3 = pc2)
    (ky : ¬ (x = 0) → oGo p e below K (T.setTop (mkF m pc' Ls st))) (kn : x = 0 → oGo p e below K (T.setTop (mkF m pc2 Ls st))) : oGo p e below K (T.setTop (mkF m pc Ls (.int x :: st))) := by
  by_cases q : ¬ (x = 0)
  · exact (ky q).via fun t r => XS.ifYes o.here cx.1 rfl rfl (hb cx.2.2.1 hd) rfl ((if0 _ _).trans (feq q).2) ho hp' r
  · subst hp; exact (kn (Decidable.not_not.mp q)).via fun t r => XS.ifNo o.here cx.1 rfl (hb cx.2.2.1 hd) rfl ((if0 _ _).trans (teq (Decidable.not_not.mp q)).2) r
theorem g_icmp_ne (cx : oCx p s m meth c Z own nm code maxL ret) (o : oOn p l e R s m args below meth c Z cells slots T L) {x y : Int32} {off : Int} (hd : decode code pc = .ok (.if_icmp .ne off, 3)) (ho : 0 ≤ (pc : Int) + off) (hp' : ((pc : Int) + off).toNat = pc') (hp : pc + 3 = pc2)
    (ky : ¬ (x = y) → oGo p e below K (T.setTop (mkF m pc' Ls st))) (kn : x = y → oGo p e below K (T.setTop (mkF m pc2 Ls st))) : oGo p e below K (T.setTop (mkF m pc Ls (.int y :: .int x :: st))) := by
  by_cases q : ¬ (x = y)
  · exact (ky q).via fun t r => XS.icmpYes o.here cx.1 rfl rfl (hb cx.2.2.1 hd) rfl (feq q).2 ho hp' r
  · subst hp; exact (kn (Decidable.not_not.mp q)).via fun t r => XS.icmpNo o.here cx.1 rfl (hb cx.2.2.1 hd) rfl (teq (Decidable.not_not.mp q)).2 r
theorem g_if_lt (cx : oCx p s m meth c Z own nm code maxL ret) (o : oOn p l e R s m args below meth c Z cells slots T L) {x : Int32} {off : Int} (hd : decode code pc = .ok (.ifCond .lt off, 3)) (ho : 0 ≤ (pc : Int) + off) (hp' : ((pc : Int) + off).toNat = pc') (hp : pc + 3 = pc2)
    (ky : x < 0 → oGo p e below K (T.setTop (mkF m pc' Ls st))) (kn : ¬ (x < 0) → oGo p e below K (T.setTop (mkF m pc2 Ls st))) : oGo p e below K (T.setTop (mkF m pc Ls (.int x :: st))) := by
  by_cases q : x < 0
  · exact (ky q).via fun t r => XS.ifYes o.here cx.1 rfl rfl (hb cx.2.2.1 hd) rfl ((if0 _ _).trans (tlt q).1) ho hp' r
  · subst hp; exact (kn q).via fun t r => XS.ifNo o.here cx.1 rfl (hb cx.2.2.1 hd) rfl ((if0 _ _).trans (flt q).1) r
theorem g_icmp_lt (cx : oCx p s m meth c Z own nm code maxL ret) (o : oOn p l e R s m args below meth c Z cells slots T L) {x y : Int32} {off : Int} (hd : decode code pc = .ok (.if_icmp .lt off, 3)) (ho : 0 ≤ (pc : Int) + off) (hp' : ((pc : Int) + off).toNat = pc') (hp : pc + 3 = pc2)
    (ky : x < y → oGo p e below K (T.setTop (mkF m pc' Ls st))) (kn : ¬ (x < y) → oGo p e below K (T.setTop (mkF m pc2 Ls st))) : oGo p e below K (T.setTop (mkF m pc Ls (.int y :: .int x :: st))) := by
  by_cases q : x < y
  · exact (ky q).via fun t r => XS.icmpYes o.here cx.1 rfl rfl (hb cx.2.2.1 hd) rfl (tlt q).1 ho hp' r
  · subst hp; exact (kn q).via fun t r => XS.icmpNo o.here cx.1 rfl (hb cx.2.2.1 hd) rfl (flt q).1 r
theorem g_if_ge (cx : oCx p s m meth c Z own nm code maxL ret) (o : oOn p l e R s m args below meth c Z cells slots T L) {x : Int32} {off : Int} (hd : decode code pc = .ok (.ifCond .ge off, 3)) (ho : 0 ≤ (pc : Int) + off) (hp' : ((pc : Int) + off).toNat = pc') (hp : pc + 3 = pc2)
    (ky : ¬ (x < 0) → oGo p e below K (T.setTop (mkF m pc' Ls st))) (kn : x < 0 → oGo p e below K (T.setTop (mkF m pc2 Ls st))) : oGo p e below K (T.setTop (mkF m pc Ls (.int x :: st))) := by
  by_cases q : ¬ (x < 0)
  · exact (ky q).via fun t r => XS.ifYes o.here cx.1 rfl rfl (hb cx.2.2.1 hd) rfl ((if0 _ _).trans (flt q).2.1) ho hp' r
  · subst hp; exact (kn (Decidable.not_not.mp q)).via fun t r => XS.ifNo o.here cx.1 rfl (hb cx.2.2.1 hd) rfl ((if0 _ _).trans (tlt (Decidable.not_not.mp q)).2.1) r
theorem g_icmp_ge (cx : oCx p s m meth c Z own nm code maxL ret) (o : oOn p l e R s m args below meth c Z cells slots T L) {x y : Int32} {off : Int} (hd : decode code pc = .ok (.if_icmp .ge off, 3)) (ho : 0 ≤ (pc : Int) + off) (hp' : ((pc : Int) + off).toNat = pc') (hp : pc + 3 = pc2)
    (ky : ¬ (x < y) → oGo p e below K (T.setTop (mkF m pc' Ls st))) (kn : x < y → oGo p e below K (T.setTop (mkF m pc2 Ls st))) : oGo p e below K (T.setTop (mkF m pc Ls (.int y :: .int x :: st))) := by
  by_cases q : ¬ (x < y)
  · exact (ky q).via fun t r => XS.icmpYes o.here cx.1 rfl rfl (hb cx.2.2.1 hd) rfl (flt q).2.1 ho hp' r
  · subst hp; exact (kn (Decidable.not_not.mp q)).via fun t r => XS.icmpNo o.here cx.1 rfl (hb cx.2.2.1 hd) rfl (tlt (Decidable.not_not.mp q)).2.1 r
theorem g_if_gt (cx : oCx p s m meth c Z own nm code maxL ret) (o : oOn p l e R s m args below meth c Z cells slots T L) {x : Int32} {off : Int} (hd : decode code pc = .ok (.ifCond .gt off, 3)) (ho : 0 ≤ (pc : Int) + off) (hp' : ((pc : Int) + off).toNat = pc') (hp : pc + 3 = pc2)
    (ky : 0 < x → oGo p e below K (T.setTop (mkF m pc' Ls st))) (kn : ¬ (0 < x) → oGo p e below K (T.setTop (mkF m pc2 Ls st))) : oGo p e below K (T.setTop (mkF m pc Ls (.int x :: st))) := by
  by_cases q : 0 < x
  · exact (ky q).via fun t r => XS.ifYes o.here cx.1 rfl rfl (hb cx.2.2.1 hd) rfl ((if0 _ _).trans (tlt q).2.2.1) ho hp' r
  · subst hp; exact (kn q).via fun t r => XS.ifNo o.here cx.1 rfl (hb cx.2.2.1 hd) rfl ((if0 _ _).trans (flt q).2.2.1) r
theorem g_icmp_gt (cx : oCx p s m meth c Z own nm code maxL ret) (o : oOn p l e R s m args below meth c Z cells slots T L) {x y : Int32} {off : Int} (hd : decode code pc = .ok (.if_icmp .gt off, 3)) (ho : 0 ≤ (pc : Int) + off) (hp' : ((pc : Int) + off).toNat = pc') (hp : pc + 3 = pc2)
    (ky : y < x → oGo p e below K (T.setTop (mkF m pc' Ls st))) (kn : ¬ (y < x) → oGo p e below K (T.setTop (mkF m pc2 Ls st))) : oGo p e below K (T.setTop (mkF m pc Ls (.int y :: .int x :: st))) := by
  by_cases q : y < x
  · exact (ky q).via fun t r => XS.icmpYes o.here cx.1 rfl rfl (hb cx.2.2.1 hd) rfl (tlt q).2.2.1 ho hp' r
  · subst hp; exact (kn q).via fun t r => XS.icmpNo o.here cx.1 rfl (hb cx.2.2.1 hd) rfl (flt q).2.2.1 r
theorem g_if_le (cx : oCx p s m meth c Z own nm code maxL ret) (o : oOn p l e R s m args below meth c Z cells slots T L) {x : Int32} {off : Int} (hd : decode code pc = .ok (.ifCond .le off, 3)) (ho : 0 ≤ (pc : Int) + off) (hp' : ((pc : Int) + off).toNat = pc') (hp : pc + 3 = pc2)
    (ky : ¬ (0 < x) → oGo p e below K (T.setTop (mkF m pc' Ls st))) (kn : 0 < x → oGo p e below K (T.setTop (mkF m pc2 Ls st))) : oGo p e below K (T.setTop (mkF m pc Ls (.int x :: st))) := by
  by_cases q : ¬ (0 < x)
  · exact (ky q).via fun t r => XS.ifYes o.here cx.1 rfl rfl (hb cx.2.2.1 hd) rfl ((if0 _ _).trans (flt q).2.2.2) ho hp' r
  · subst hp; exact (kn (Decidable.not_not.mp q)).via fun t r => XS.ifNo o.here cx.1 rfl (hb cx.2.2.1 hd) rfl ((if0 _ _).trans (tlt (Decidable.not_not.mp q)).2.2.2) r
theorem g_icmp_le (cx : oCx p s m meth c Z own nm code maxL ret) (o : oOn p l e R s m args below meth c Z cells slots T L) {x y : Int32} {off : Int} (hd : decode code pc = .ok (.if_icmp .le off, 3)) (ho : 0 ≤ (pc : Int) + off) (hp' : ((pc : Int) + off).toNat = pc') (hp : pc + 3 = pc2)
    (ky : ¬ (y < x) → oGo p e below K (T.setTop (mkF m pc' Ls st))) (kn : y < x → oGo p e below K (T.setTop (mkF m pc2 Ls st))) : oGo p e below K (T.setTop (mkF m pc Ls (.int y :: .int x :: st))) := by
  by_cases q : ¬ (y < x)
  · exact (ky q).via fun t r => XS.icmpYes o.here cx.1 rfl rfl (hb cx.2.2.1 hd) rfl (flt q).2.2.2 ho hp' r
  · subst hp; exact (kn (Decidable.not_not.mp q)).via fun t r => XS.icmpNo o.here cx.1 rfl (hb cx.2.2.1 hd) rfl (tlt (Decidable.not_not.mp q)).2.2.2 r
theorem g_ldc (cx : oCx p s m meth c Z own nm code maxL ret) (o : oOn p l e R s m args below meth c Z cells slots T L) {index : Nat} {z : Int32} (w : (Jvm.Cond.constant own index z).before a0 Z = true) (hd : decode code pc = .ok (.ldc index, 2)) (hp : pc + 2 = pc')
    (kk : oGo p e below K (T.setTop (mkF m pc' Ls (.int z :: st)))) : oGo p e below K (T.setTop (mkF m pc Ls st)) := by
  subst hp; obtain ⟨_, X, -⟩ := o
  exact kk.via fun t q => X.ldcInt cx.1 cx.2.2.2.2.1 (mvT cx.2.1 w) (g := mkF m pc Ls st) rfl (hb cx.2.2.1 hd) t q
theorem g_ldc2L (cx : oCx p s m meth c Z own nm code maxL ret) (o : oOn p l e R s m args below meth c Z cells slots T L) {index : Nat} {z : Int64} (w : (Jvm.Cond.constantLong own index z).before a0 Z = true) (hd : decode code pc = .ok (.ldc2_w index, 3)) (hp : pc + 3 = pc')
    (kk : oGo p e below K (T.setTop (mkF m pc' Ls (.long z :: st)))) : oGo p e below K (T.setTop (mkF m pc Ls st)) := by
  subst hp; obtain ⟨_, X, -⟩ := o
  exact kk.via fun t q => X.ldc2Long cx.1 cx.2.2.2.2.1 (mvT cx.2.1 w) (g := mkF m pc Ls st) rfl (hb cx.2.2.1 hd) t q
theorem g_ldc2D (cx : oCx p s m meth c Z own nm code maxL ret) (o : oOn p l e R s m args below meth c Z cells slots T L) {index : Nat} {z : UInt64} (w : (Jvm.Cond.constantDouble own index z).before a0 Z = true) (hd : decode code pc = .ok (.ldc2_w index, 3)) (hp : pc + 3 = pc')
    (kk : oGo p e below K (T.setTop (mkF m pc' Ls (.double z :: st)))) : oGo p e below K (T.setTop (mkF m pc Ls st)) := by
  subst hp; obtain ⟨_, X, -⟩ := o
  exact kk.via fun t q => X.ldc2DoubleC cx.1 cx.2.2.2.2.1 (mvT cx.2.1 w) (g := mkF m pc Ls st) rfl (hb cx.2.2.1 hd) t q
theorem g_getfield (cx : oCx p s m meth c Z own nm code maxL ret) (o : oOn p l e R s m args below meth c Z cells slots T L) {index : Nat} {C O n d : String} {fs : oFs} (w : (Jvm.Cond.fieldLink own index O n d).before a0 Z = true) (i j : Nat) (hi : L[i]? = some (a, oObj Z a0 C fs)) (hj : fs[j]? = some (O, n, d, v)) (hd : decode code pc = .ok (.getfield index, 3)) (hp : pc + 3 = pc')
    (kk : ∀ T', oOn p l e R s m args below meth c Z cells slots T' L → oGo p e below K (T'.setTop (mkF m pc' Ls (v :: st)))) : oGo p e below K (T.setTop (mkF m pc Ls (.ref a :: st))) := by
  subst hp; obtain ⟨lc, X, N, H⟩ := o
  obtain ⟨-, cl, hc, B⟩ := H.at_ hi
  obtain ⟨T', X', e', stp⟩ := getF X cx.1 cx.2.1 cx.2.2.2.2.1 (host := "") (Or.inl w) Via.refl rfl ((B.2 _ (List.mem_of_getElem? hj)).2.2.fld hc) (g := mkF m pc Ls (.ref a :: st)) rfl rfl (hb cx.2.2.1 hd)
  exact (kk T' ⟨lc, X', N, e' ▸ H⟩).via stp
theorem g_getfieldN (cx : oCx p s m meth c Z own nm code maxL ret) (o : oOn p l e R s m args below meth c Z cells slots T L) {index : Nat} {C O n d host : String} {fs : oFs} (w : (Jvm.Cond.fieldLinkNest own index O n d host).before a0 Z = true) (i j : Nat) (hi : L[i]? = some (a, oObj Z a0 C fs)) (hj : fs[j]? = some (O, n, d, v)) (hd : decode code pc = .ok (.getfield index, 3)) (hp : pc + 3 = pc')
    (kk : ∀ T', oOn p l e R s m args below meth c Z cells slots T' L → oGo p e below K (T'.setTop (mkF m pc' Ls (v :: st)))) : oGo p e below K (T.setTop (mkF m pc Ls (.ref a :: st))) := by
  subst hp; obtain ⟨lc, X, N, H⟩ := o
  obtain ⟨-, cl, hc, B⟩ := H.at_ hi
  obtain ⟨T', X', e', stp⟩ := getF X cx.1 cx.2.1 cx.2.2.2.2.1 (host := host) (Or.inr w) Via.refl rfl ((B.2 _ (List.mem_of_getElem? hj)).2.2.fld hc) (g := mkF m pc Ls (.ref a :: st)) rfl rfl (hb cx.2.2.1 hd)
  exact (kk T' ⟨lc, X', N, e' ▸ H⟩).via stp
theorem g_putfield (cx : oCx p s m meth c Z own nm code maxL ret) (o : oOn p l e R s m args below meth c Z cells slots T L) {index kk0 : Nat} {C O n d : String} {fs : oFs} {old : Value} {ty : FieldType} (w : (Jvm.Cond.fieldLink own index O n d).before a0 Z = true) (wl : (Jvm.Cond.lays C O n d).before a0 Z = true ∨ ((Jvm.Cond.laysFinal C O n d).before a0 Z = true ∧ own = O ∧ nm = "<init>")) (wi : (Jvm.Cond.instantiable C kk0).before a0 Z = true)
    (i j : Nat) (hi : L[i]? = some (a, oObj Z a0 C fs)) (hj : fs[j]? = some (O, n, d, old)) (ns : List String) (hns : fs.map (fun t => t.2.1) = ns) (hnd : ns.Nodup) (hty : parseFieldDescriptor d = some ty) (hn : narrow ty v = v) (hf : fits ty v = true) (hd : decode code pc = .ok (.putfield index, 3)) (hp : pc + 3 = pc')
    (kk : ∀ T', oOn p l e R s m args below meth c Z cells slots T' (L.set i (a, oObj Z a0 C (fs.set j (O, n, d, v)))) → oGo p e below K (T'.setTop (mkF m pc' Ls st))) : oGo p e below K (T.setTop (mkF m pc Ls (v :: .ref a :: st))) := by
  subst hp; obtain ⟨lc, X, N, H⟩ := o
  obtain ⟨q, cl, hc, B⟩ := H.at_ hi
  obtain ⟨T', h', X', e', Wd, stp⟩ := putF X cx.1 cx.2.1 cx.2.2.2.2.1 (host := "") (Or.inl w) Via.refl rfl ((B.2 _ (List.mem_of_getElem? hj)).2.2.fld hc) (B.1.exa hc) (wl.imp id fun z => ⟨z.1, z.2.1, cx.2.2.2.2.2.1.trans z.2.2⟩) wi hty hn hf (g := mkF m pc Ls (v :: .ref a :: st)) rfl rfl (hb cx.2.2.1 hd)
  subst e'
  exact (kk T' ⟨_, X', Fr.snoc X' N q, H.wr hi Wd fun c' hc' => hc'.put hj (hns ▸ hnd)⟩).via stp
theorem g_putfieldN (cx : oCx p s m meth c Z own nm code maxL ret) (o : oOn p l e R s m args below meth c Z cells slots T L) {index kk0 : Nat} {C O n d : String} {fs : oFs} {old v' : Value} {ty : FieldType} (w : (Jvm.Cond.fieldLink own index O n d).before a0 Z = true) (wl : (Jvm.Cond.lays C O n d).before a0 Z = true ∨ ((Jvm.Cond.laysFinal C O n d).before a0 Z = true ∧ own = O ∧ nm = "<init>")) (wi : (Jvm.Cond.instantiable C kk0).before a0 Z = true)
    (i j : Nat) (hi : L[i]? = some (a, oObj Z a0 C fs)) (hj : fs[j]? = some (O, n, d, old)) (ns : List String) (hns : fs.map (fun t => t.2.1) = ns) (hnd : ns.Nodup) (hty : parseFieldDescriptor d = some ty) (hn : narrow ty v = v') (hf : fits ty v' = true) (hd : decode code pc = .ok (.putfield index, 3)) (hp : pc + 3 = pc')
    (kk : ∀ T', oOn p l e R s m args below meth c Z cells slots T' (L.set i (a, oObj Z a0 C (fs.set j (O, n, d, v')))) → oGo p e below K (T'.setTop (mkF m pc' Ls st))) : oGo p e below K (T.setTop (mkF m pc Ls (v :: .ref a :: st))) := by
  subst hp; obtain ⟨lc, X, N, H⟩ := o
  obtain ⟨q, cl, hc, B⟩ := H.at_ hi
  obtain ⟨T', h', X', e', Wd, stp⟩ := putFN X cx.1 cx.2.1 cx.2.2.2.2.1 w Via.refl rfl ((B.2 _ (List.mem_of_getElem? hj)).2.2.fld hc) (B.1.exa hc) (wl.imp id fun z => ⟨z.1, z.2.1, cx.2.2.2.2.2.1.trans z.2.2⟩) wi hty hn hf (g := mkF m pc Ls (v :: .ref a :: st)) rfl rfl (hb cx.2.2.1 hd)
  subst e'
  exact (kk T' ⟨_, X', Fr.snoc X' N q, H.wr hi Wd fun c' hc' => hc'.put hj (hns ▸ hnd)⟩).via stp
theorem g_new (cx : oCx p s m meth c Z own nm code maxL ret) (o : oOn p l e R s m args below meth c Z cells slots T L) {index n : Nat} {C : String} {fs : oFs} (w : (Jvm.Cond.classLink own index C).before a0 Z = true) (wi : (Jvm.Cond.instantiable C n).before a0 Z = true) (wz : (Jvm.Cond.initialized C).before a0 Z = true) (hfs : ∀ t ∈ fs, Laid Z a0 C t.1 t.2.1 t.2.2.1 ∧ ∃ ty, parseFieldDescriptor t.2.2.1 = some ty ∧ defaultValue ty = t.2.2.2)
    (hc : cells + 1 ≤ R.cells) (hl : slots + n ≤ R.slots) (hd : decode code pc = .ok (.new index, 3)) (hp : pc + 3 = pc')
    (kk : ∀ T' b, oOn p l e R s m args below meth c Z (cells + 1) (slots + n) T' ((b, oObj Z a0 C fs) :: L) → oGo p e below K (T'.setTop (mkF m pc' Ls (.ref b :: st)))) : oGo p e below K (T.setTop (mkF m pc Ls st)) := by
  subst hp; obtain ⟨lc, X, N, H⟩ := o
  obtain ⟨T', h', X', e', E, A, D, ⟨cl, hcl, -, -⟩, stp⟩ := newO X cx.1 cx.2.1 cx.2.2.2.2.1 w wi wz rfl (g := mkF m pc Ls st) rfl (hb cx.2.2.1 hd) hc hl
  subst e'
  refine (kk T' _ ⟨_, X', N, H.new E hcl ⟨oExa.of A hcl, fun t ht => ?_⟩⟩).via stp
  obtain ⟨h1, ty, h2, h3⟩ := hfs t ht
  exact ⟨h1, ⟨ty, h2⟩, h3 ▸ oFld.of (D h1 h2) hcl⟩
theorem g_initO (cx : oCx p s m meth c Z own nm code maxL ret) (o : oOn p l e R s m args below meth c Z cells slots T L) {index : Nat} (w1 : (Jvm.Cond.methodLink own index Lib.objectInit).before a0 Z = true) (w2 : (Jvm.Cond.instanceMethod Lib.objectInit).before a0 Z = true) (w3 : (Jvm.Cond.code Lib.objectInit object_method_1_code 1 none).before a0 Z = true)
    (hsz : Ls.size = maxL) (W : Nat) (hW : (st.map fun v => v.category).sum ≤ W) (hf : 1 ≤ R.frames) (hl : W + 12 ≤ R.locals) (hd : decode code pc = .ok (.invokespecial index, 3)) (hp : pc + 3 = pc')
    (kk : ∀ T', oOn p l e R s m args below meth c Z cells slots T' L → oGo p e below K (T'.setTop (mkF m pc' Ls st))) : oGo p e below K (T.setTop (mkF m pc Ls (.ref a :: st))) := by
  subst hp; obtain ⟨lc, X, N, H⟩ := o
  obtain ⟨T', X', e', stp⟩ := initO X cx.1 cx.2.1 cx.2.2.2.2.1 w1 w2 w3 rfl (g := mkF m pc Ls (.ref a :: st)) rfl (hsz.trans cx.2.2.2.1.symm) rfl (hb cx.2.2.1 hd) hf (W := W) (by show 2 * 0 + _ ≤ _; omega) hl
  exact (kk T' ⟨lc, X', N, e' ▸ H⟩).via stp
theorem g_newarray (cx : oCx p s m meth c Z own nm code maxL ret) (o : oOn p l e R s m args below meth c Z cells slots T L) {aty : ArrayType} {x : Int32} {ty : FieldType} {vs : List Value} (w : (Jvm.Cond.arrayClass ty).before a0 Z = true) (hty : newarray.typeOf aty = ty) (k cap : Nat) (hk : x = Int32.ofNat k) (hvs : List.replicate k (defaultValue ty) = vs) (hcap : k ≤ cap) (hcb : cap * 8 ≤ 536870912) (hc : cells + 1 ≤ R.cells) (hl : slots + cap ≤ R.slots) (hd : decode code pc = .ok (.newarray aty, 2)) (hp : pc + 2 = pc')
    (kk : ∀ T' b, oOn p l e R s m args below meth c Z (cells + 1) (slots + cap) T' ((b, oArr Z ty vs) :: L) → oGo p e below K (T'.setTop (mkF m pc' Ls (.ref b :: st)))) : oGo p e below K (T.setTop (mkF m pc Ls (.int x :: st))) := by
  subst hp hk hty hvs; obtain ⟨lc, X, N, H⟩ := o
  have hk2 : k < 2 ^ 31 := by omega
  obtain ⟨q1, q2⟩ := o_clamp hk2
  obtain ⟨T', h', cA, X', e', E, A, stp⟩ := newP X cx.1 cx.2.1 w rfl (g := mkF m pc Ls (.int (Int32.ofNat k) :: st)) rfl (hb cx.2.2.1 hd) rfl q2 (cap := cap) (by rw [q1]; exact hcap) hcb hc hl
  subst e'
  refine (kk T' _ ⟨_, X', N, H.new E A.1 ⟨A.2.1, A.2.2, ?_, by simpa using hk2, fun u hu => ?_⟩⟩).via stp
  · show (Array.replicate (Int32.ofNat k).toNatClampNeg (defaultValue (newarray.typeOf aty))).toList = _; rw [q1, Array.toList_replicate]
  · rw [(List.mem_replicate.mp hu).2]; cases aty <;> rfl
theorem g_arraylength (cx : oCx p s m meth c Z own nm code maxL ret) (o : oOn p l e R s m args below meth c Z cells slots T L) {ty : FieldType} (i : Nat) (z : Int32) (hi : L[i]? = some (a, oArr Z ty vs)) (hz : Int32.ofNat vs.length = z) (hd : decode code pc = .ok (.arraylength, 1)) (hp : pc + 1 = pc')
    (kk : oGo p e below K (T.setTop (mkF m pc' Ls (.int z :: st)))) : oGo p e below K (T.setTop (mkF m pc Ls (.ref a :: st))) := by
  subst hp hz; obtain ⟨lc, X, N, H⟩ := o
  obtain ⟨-, cl, hc, B⟩ := H.at_ hi
  refine kk.via fun t q => X.arraylength cx.1 hc (State.isArrayOf_alike cx.2.1.alike B.1) (g := mkF m pc Ls (.ref a :: st)) rfl rfl (hb cx.2.2.1 hd) t ?_
  rw [B.size]; exact q
theorem g_getfieldO (cx : oCx p s m meth c Z own nm code maxL ret) (o : oOn p l e R s m args below meth c Z cells slots T L) {index : Nat} {O n d : String} (w : (Jvm.Cond.fieldLink own index O n d).before a0 Z = true) (F : Fld Z Z.heap a O n d v) (hd : decode code pc = .ok (.getfield index, 3)) (hp : pc + 3 = pc')
    (kk : ∀ T', oOn p l e R s m args below meth c Z cells slots T' L → oGo p e below K (T'.setTop (mkF m pc' Ls (v :: st)))) : oGo p e below K (T.setTop (mkF m pc Ls (.ref a :: st))) := by
  subst hp; obtain ⟨lc, X, N, H⟩ := o
  obtain ⟨T', X', e', stp⟩ := getF X cx.1 cx.2.1 cx.2.2.2.2.1 (host := "") (Or.inl w) Via.refl rfl (F.ext H.1) (g := mkF m pc Ls (.ref a :: st)) rfl rfl (hb cx.2.2.1 hd)
  exact (kk T' ⟨lc, X', N, e' ▸ H⟩).via stp
/-- an array of references to C's objects, with just these components -/
def oArrR (Z : State) (C : String) (vs : List Value) (cell : Cell) : Prop := oArr Z (.object C) vs cell ∧ Ovr Z cell.cls C
theorem oOn.lenR {C : String} (o : oOn p l e R s m args below meth c Z cells slots T L) (hi : L[i]? = some (a, oArrR Z C vs)) : vs.length < 2 ^ 31 := by
  obtain ⟨lc, X, N, H⟩ := o
  obtain ⟨-, cl, -, A⟩ := H.at_ hi
  exact A.1.2.2.2.1
theorem g_anewarray (cx : oCx p s m meth c Z own nm code maxL ret) (o : oOn p l e R s m args below meth c Z cells slots T L) {x : Int32} {index : Nat} {C : String} {vs : List Value} (w1 : (Jvm.Cond.classLink own index C).before a0 Z = true) (w2 : (Jvm.Cond.arrayOver (.object C)).before a0 Z = true) (k cap : Nat) (hk : x = Int32.ofNat k) (hvs : List.replicate k .null = vs) (hcap : k ≤ cap) (hcb : cap * 8 ≤ 536870912) (hc : cells + 1 ≤ R.cells) (hl : slots + cap ≤ R.slots) (hd : decode code pc = .ok (.anewarray index, 3)) (hp : pc + 3 = pc')
    (kk : ∀ T' b, oOn p l e R s m args below meth c Z (cells + 1) (slots + cap) T' ((b, oArrR Z C vs) :: L) → oGo p e below K (T'.setTop (mkF m pc' Ls (.ref b :: st)))) : oGo p e below K (T.setTop (mkF m pc Ls (.int x :: st))) := by
  subst hp hk hvs; obtain ⟨lc, X, N, H⟩ := o
  have hk2 : k < 2 ^ 31 := by omega
  obtain ⟨q1, q2⟩ := o_clamp hk2
  obtain ⟨T', h', cA, X', e', E, A, O, stp⟩ := newR X cx.1 cx.2.1 cx.2.2.2.2.1 w1 w2 rfl (g := mkF m pc Ls (.int (Int32.ofNat k) :: st)) rfl (hb cx.2.2.1 hd) rfl q2 (cap := cap) (by rw [q1]; exact hcap) hcb hc hl
  subst e'
  refine (kk T' _ ⟨_, X', N, H.new E A.1 ⟨⟨A.2.1, A.2.2, ?_, by simpa using hk2, fun u hu => ?_⟩, O⟩⟩).via stp
  · show (Array.replicate (Int32.ofNat k).toNatClampNeg Value.null).toList = _; rw [q1, Array.toList_replicate]
  · rw [(List.mem_replicate.mp hu).2]; rfl
theorem g_aastoreO (cx : oCx p s m meth c Z own nm code maxL ret) (o : oOn p l e R s m args below meth c Z cells slots T L) {x : Int32} {C : String} {y : Addr} (i k : Nat) (hi : L[i]? = some (a, oArrR Z C vs)) (hk : x = Int32.ofNat k) (hlt : k < vs.length) (I : Ins Z Z.heap y C true) (hd : decode code pc = .ok (.aastore, 1)) (hp : pc + 1 = pc')
    (kk : ∀ T', oOn p l e R s m args below meth c Z cells slots T' (L.set i (a, oArrR Z C (vs.set k (.ref y)))) → oGo p e below K (T'.setTop (mkF m pc' Ls st))) : oGo p e below K (T.setTop (mkF m pc Ls (.ref y :: .int x :: .ref a :: st))) := by
  subst hp; obtain ⟨lc, X, N, H⟩ := o
  obtain ⟨q0, cl, hc, B⟩ := H.at_ hi
  obtain ⟨q1, q2⟩ := B.1.inb hk hlt
  obtain ⟨T', h', X', e', Wd, stp⟩ := stR X cx.1 cx.2.1 rfl (B.1.arr hc) q2 rfl (Sto.of (B.1.arr hc) B.2 (I.ext H.1)) (g := mkF m pc Ls (.ref y :: .int x :: .ref a :: st)) rfl rfl (hb cx.2.2.1 hd)
  subst e'
  rw [q1] at Wd X'
  exact (kk T' ⟨_, X', Fr.snoc X' N q0, H.wr hi Wd fun c' hc' => ⟨hc'.1.put rfl, hc'.2⟩⟩).via stp
theorem g_aaloadR (cx : oCx p s m meth c Z own nm code maxL ret) (o : oOn p l e R s m args below meth c Z cells slots T L) {x : Int32} {C : String} (i k : Nat) (hi : L[i]? = some (a, oArrR Z C vs)) (hk : x = Int32.ofNat k) (hv : vs[k]? = some v) (hd : decode code pc = .ok (.aaload, 1)) (hp : pc + 1 = pc')
    (kk : oGo p e below K (T.setTop (mkF m pc' Ls (v :: st)))) : oGo p e below K (T.setTop (mkF m pc Ls (.int x :: .ref a :: st))) := by
  subst hp; obtain ⟨lc, X, N, H⟩ := o
  obtain ⟨-, cl, hc, B⟩ := H.at_ hi
  obtain ⟨q1, q2⟩ := B.1.inb hk (List.getElem?_eq_some_iff.mp hv).1
  exact kk.via fun t q => X.aaload cx.1 hc (State.isArrayOf_alike cx.2.1.alike B.1.1) rfl B.1.2.1 q2 (by rw [q1]; exact B.1.get hv) (g := mkF m pc Ls (.int x :: .ref a :: st)) rfl rfl (hb cx.2.2.1 hd) t q
theorem g_acmp_ne (cx : oCx p s m meth c Z own nm code maxL ret) (o : oOn p l e R s m args below meth c Z cells slots T L) {x y : Value} {off : Int} (hx : x.isRef = true) (hy : y.isRef = true) (hd : decode code pc = .ok (.if_acmp .ne off, 3)) (ho : 0 ≤ (pc : Int) + off) (hp' : ((pc : Int) + off).toNat = pc') (hp : pc + 3 = pc2)
    (ky : ¬ x = y → oGo p e below K (T.setTop (mkF m pc' Ls st))) (kn : x = y → oGo p e below K (T.setTop (mkF m pc2 Ls st))) : oGo p e below K (T.setTop (mkF m pc Ls (y :: x :: st))) := by
  by_cases q : x = y
  · subst hp; exact (kn q).via fun t r => XT.acmpNo o.here cx.1 rfl (hb cx.2.2.1 hd) rfl hx hy (show decide (x ≠ y) = false from decide_eq_false fun z => z q) r
  · exact (ky q).via fun t r => XT.acmpYes o.here cx.1 rfl rfl (hb cx.2.2.1 hd) rfl hx hy (show decide (x ≠ y) = true from decide_eq_true q) ho hp' r
theorem g_acmp_eq (cx : oCx p s m meth c Z own nm code maxL ret) (o : oOn p l e R s m args below meth c Z cells slots T L) {x y : Value} {off : Int} (hx : x.isRef = true) (hy : y.isRef = true) (hd : decode code pc = .ok (.if_acmp .eq off, 3)) (ho : 0 ≤ (pc : Int) + off) (hp' : ((pc : Int) + off).toNat = pc') (hp : pc + 3 = pc2)
    (ky : x = y → oGo p e below K (T.setTop (mkF m pc' Ls st))) (kn : ¬ x = y → oGo p e below K (T.setTop (mkF m pc2 Ls st))) : oGo p e below K (T.setTop (mkF m pc Ls (y :: x :: st))) := by
  by_cases q : x = y
  · exact (ky q).via fun t r => XT.acmpYes o.here cx.1 rfl rfl (hb cx.2.2.1 hd) rfl hx hy (show decide (x = y) = true from decide_eq_true q) ho hp' r
  · subst hp; exact (kn q).via fun t r => XT.acmpNo o.here cx.1 rfl (hb cx.2.2.1 hd) rfl hx hy (show decide (x = y) = false from decide_eq_false q) r
theorem g_ifnull0 (cx : oCx p s m meth c Z own nm code maxL ret) (o : oOn p l e R s m args below meth c Z cells slots T L) {off : Int} (hd : decode code pc = .ok (.ifnull off, 3)) (ho : 0 ≤ (pc : Int) + off) (hp' : ((pc : Int) + off).toNat = pc')
    (kk : oGo p e below K (T.setTop (mkF m pc' Ls st))) : oGo p e below K (T.setTop (mkF m pc Ls (.null :: st))) := kk.via fun t r => XS.ifnullYes o.here cx.1 rfl rfl (hb cx.2.2.1 hd) rfl ho hp' r
theorem g_ifnull1 (cx : oCx p s m meth c Z own nm code maxL ret) (o : oOn p l e R s m args below meth c Z cells slots T L) {off : Int} {b : Addr} (hd : decode code pc = .ok (.ifnull off, 3)) (hp : pc + 3 = pc')
    (kk : oGo p e below K (T.setTop (mkF m pc' Ls st))) : oGo p e below K (T.setTop (mkF m pc Ls (.ref b :: st))) := by subst hp; exact kk.via fun t r => XS.ifnullNo o.here cx.1 rfl (hb cx.2.2.1 hd) rfl r
theorem g_ifnonnull1 (cx : oCx p s m meth c Z own nm code maxL ret) (o : oOn p l e R s m args below meth c Z cells slots T L) {off : Int} {b : Addr} (hd : decode code pc = .ok (.ifnonnull off, 3)) (ho : 0 ≤ (pc : Int) + off) (hp' : ((pc : Int) + off).toNat = pc')
    (kk : oGo p e below K (T.setTop (mkF m pc' Ls st))) : oGo p e below K (T.setTop (mkF m pc Ls (.ref b :: st))) := kk.via fun t r => XT.ifnonnullYes o.here cx.1 rfl rfl (hb cx.2.2.1 hd) rfl ho hp' r
theorem g_ifnonnull0 (cx : oCx p s m meth c Z own nm code maxL ret) (o : oOn p l e R s m args below meth c Z cells slots T L) {off : Int} (hd : decode code pc = .ok (.ifnonnull off, 3)) (hp : pc + 3 = pc')
    (kk : oGo p e below K (T.setTop (mkF m pc' Ls st))) : oGo p e below K (T.setTop (mkF m pc Ls (.null :: st))) := by subst hp; exact kk.via fun t r => XT.ifnonnullNo o.here cx.1 rfl (hb cx.2.2.1 hd) rfl r
theorem g_getstatic (cx : oCx p s m meth c Z own nm code maxL ret) (o : oOn p l e R s m args below meth c Z cells slots T L) {index : Nat} {O n d : String} (w : (Jvm.Cond.fieldLink own index O n d).before a0 Z = true) (hS : Sta Z Z.heap O n d v) (hd : decode code pc = .ok (.getstatic index, 3)) (hp : pc + 3 = pc')
    (kk : ∀ T', oOn p l e R s m args below meth c Z cells slots T' L → oGo p e below K (T'.setTop (mkF m pc' Ls (v :: st)))) : oGo p e below K (T.setTop (mkF m pc Ls st)) := by
  subst hp; obtain ⟨lc, X, N, H⟩ := o
  obtain ⟨T', X', e', stp⟩ := getS (host := "") X cx.1 cx.2.1 cx.2.2.2.2.1 w Via.refl rfl (hS.ext H.1) (g := mkF m pc Ls st) rfl (hb cx.2.2.1 hd)
  exact (kk T' ⟨lc, X', N, e' ▸ H⟩).via stp
theorem g_iaload (cx : oCx p s m meth c Z own nm code maxL ret) (o : oOn p l e R s m args below meth c Z cells slots T L) {x : Int32} (i k : Nat) (hi : L[i]? = some (a, oArr Z .int vs)) (hk : x = Int32.ofNat k) (hv : vs[k]? = some v) (hd : decode code pc = .ok (.iaload, 1)) (hp : pc + 1 = pc')
    (kk : oGo p e below K (T.setTop (mkF m pc' Ls (v :: st)))) : oGo p e below K (T.setTop (mkF m pc Ls (.int x :: .ref a :: st))) := by
  subst hp; obtain ⟨lc, X, N, H⟩ := o
  obtain ⟨-, cl, hc, B⟩ := H.at_ hi
  obtain ⟨q1, q2⟩ := B.inb hk (List.getElem?_eq_some_iff.mp hv).1
  exact kk.via fun t q => X.iaload cx.1 hc (State.isArrayOf_alike cx.2.1.alike B.1) B.2.1 q2 (by rw [q1]; exact B.get hv) (g := mkF m pc Ls (.int x :: .ref a :: st)) rfl rfl (hb cx.2.2.1 hd) t q
theorem g_laload (cx : oCx p s m meth c Z own nm code maxL ret) (o : oOn p l e R s m args below meth c Z cells slots T L) {x : Int32} (i k : Nat) (hi : L[i]? = some (a, oArr Z .long vs)) (hk : x = Int32.ofNat k) (hv : vs[k]? = some v) (hd : decode code pc = .ok (.laload, 1)) (hp : pc + 1 = pc')
    (kk : oGo p e below K (T.setTop (mkF m pc' Ls (v :: st)))) : oGo p e below K (T.setTop (mkF m pc Ls (.int x :: .ref a :: st))) := by
  subst hp; obtain ⟨lc, X, N, H⟩ := o
  obtain ⟨-, cl, hc, B⟩ := H.at_ hi
  obtain ⟨q1, q2⟩ := B.inb hk (List.getElem?_eq_some_iff.mp hv).1
  exact kk.via fun t q => X.laload cx.1 hc (State.isArrayOf_alike cx.2.1.alike B.1) B.2.1 q2 (by rw [q1]; exact B.get hv) (g := mkF m pc Ls (.int x :: .ref a :: st)) rfl rfl (hb cx.2.2.1 hd) t q
theorem g_daload (cx : oCx p s m meth c Z own nm code maxL ret) (o : oOn p l e R s m args below meth c Z cells slots T L) {x : Int32} (i k : Nat) (hi : L[i]? = some (a, oArr Z .double vs)) (hk : x = Int32.ofNat k) (hv : vs[k]? = some v) (hd : decode code pc = .ok (.daload, 1)) (hp : pc + 1 = pc')
    (kk : oGo p e below K (T.setTop (mkF m pc' Ls (v :: st)))) : oGo p e below K (T.setTop (mkF m pc Ls (.int x :: .ref a :: st))) := by
  subst hp; obtain ⟨lc, X, N, H⟩ := o
  obtain ⟨-, cl, hc, B⟩ := H.at_ hi
  obtain ⟨q1, q2⟩ := B.inb hk (List.getElem?_eq_some_iff.mp hv).1
  exact kk.via fun t q => X.daload cx.1 hc (State.isArrayOf_alike cx.2.1.alike B.1) B.2.1 q2 (by rw [q1]; exact B.get hv) (g := mkF m pc Ls (.int x :: .ref a :: st)) rfl rfl (hb cx.2.2.1 hd) t q
theorem g_zaload (cx : oCx p s m meth c Z own nm code maxL ret) (o : oOn p l e R s m args below meth c Z cells slots T L) {x : Int32} (i k : Nat) (hi : L[i]? = some (a, oArr Z .boolean vs)) (hk : x = Int32.ofNat k) (hv : vs[k]? = some v) (hd : decode code pc = .ok (.baload, 1)) (hp : pc + 1 = pc')
    (kk : oGo p e below K (T.setTop (mkF m pc' Ls (v :: st)))) : oGo p e below K (T.setTop (mkF m pc Ls (.int x :: .ref a :: st))) := by
  subst hp; obtain ⟨lc, X, N, H⟩ := o
  obtain ⟨-, cl, hc, B⟩ := H.at_ hi
  obtain ⟨q1, q2⟩ := B.inb hk (List.getElem?_eq_some_iff.mp hv).1
  exact kk.via fun t q => X.baloadBooleans cx.1 hc (State.isArrayOf_alike cx.2.1.alike B.1) B.2.1 q2 (by rw [q1]; exact B.get hv) (g := mkF m pc Ls (.int x :: .ref a :: st)) rfl rfl (hb cx.2.2.1 hd) t q
theorem g_aaload (cx : oCx p s m meth c Z own nm code maxL ret) (o : oOn p l e R s m args below meth c Z cells slots T L) {x : Int32} {ty : FieldType} (hty : ty.isReference = true) (i k : Nat) (hi : L[i]? = some (a, oArr Z ty vs)) (hk : x = Int32.ofNat k) (hv : vs[k]? = some v) (hd : decode code pc = .ok (.aaload, 1)) (hp : pc + 1 = pc')
    (kk : oGo p e below K (T.setTop (mkF m pc' Ls (v :: st)))) : oGo p e below K (T.setTop (mkF m pc Ls (.int x :: .ref a :: st))) := by
  subst hp; obtain ⟨lc, X, N, H⟩ := o
  obtain ⟨-, cl, hc, B⟩ := H.at_ hi
  obtain ⟨q1, q2⟩ := B.inb hk (List.getElem?_eq_some_iff.mp hv).1
  exact kk.via fun t q => X.aaload cx.1 hc (State.isArrayOf_alike cx.2.1.alike B.1) hty B.2.1 q2 (by rw [q1]; exact B.get hv) (g := mkF m pc Ls (.int x :: .ref a :: st)) rfl rfl (hb cx.2.2.1 hd) t q
theorem g_iastore (cx : oCx p s m meth c Z own nm code maxL ret) (o : oOn p l e R s m args below meth c Z cells slots T L) {x : Int32} {y : Int32} (i k : Nat) (hi : L[i]? = some (a, oArr Z .int vs)) (hk : x = Int32.ofNat k) (hlt : k < vs.length) (hd : decode code pc = .ok (.iastore, 1)) (hp : pc + 1 = pc')
    (kk : ∀ T', oOn p l e R s m args below meth c Z cells slots T' (L.set i (a, oArr Z .int (vs.set k (.int y)))) → oGo p e below K (T'.setTop (mkF m pc' Ls st))) : oGo p e below K (T.setTop (mkF m pc Ls (.int y :: .int x :: .ref a :: st))) := by
  subst hp; obtain ⟨lc, X, N, H⟩ := o
  obtain ⟨q0, cl, hc, B⟩ := H.at_ hi
  obtain ⟨q1, q2⟩ := B.inb hk hlt
  obtain ⟨T', h', X', e', Wd, stp⟩ := stI X cx.1 cx.2.1 rfl (B.arr hc) q2 (g := mkF m pc Ls (.int y :: .int x :: .ref a :: st)) rfl rfl (hb cx.2.2.1 hd)
  subst e'
  rw [q1] at Wd X'
  exact (kk T' ⟨_, X', Fr.snoc X' N q0, H.wr hi Wd fun c' hc' => hc'.put rfl⟩).via stp
theorem g_lastore (cx : oCx p s m meth c Z own nm code maxL ret) (o : oOn p l e R s m args below meth c Z cells slots T L) {x : Int32} {y : Int64} (i k : Nat) (hi : L[i]? = some (a, oArr Z .long vs)) (hk : x = Int32.ofNat k) (hlt : k < vs.length) (hd : decode code pc = .ok (.lastore, 1)) (hp : pc + 1 = pc')
    (kk : ∀ T', oOn p l e R s m args below meth c Z cells slots T' (L.set i (a, oArr Z .long (vs.set k (.long y)))) → oGo p e below K (T'.setTop (mkF m pc' Ls st))) : oGo p e below K (T.setTop (mkF m pc Ls (.long y :: .int x :: .ref a :: st))) := by
  subst hp; obtain ⟨lc, X, N, H⟩ := o
  obtain ⟨q0, cl, hc, B⟩ := H.at_ hi
  obtain ⟨q1, q2⟩ := B.inb hk hlt
  obtain ⟨T', h', X', e', Wd, stp⟩ := stJ X cx.1 cx.2.1 rfl (B.arr hc) q2 (g := mkF m pc Ls (.long y :: .int x :: .ref a :: st)) rfl rfl (hb cx.2.2.1 hd)
  subst e'
  rw [q1] at Wd X'
  exact (kk T' ⟨_, X', Fr.snoc X' N q0, H.wr hi Wd fun c' hc' => hc'.put rfl⟩).via stp
theorem g_dastore (cx : oCx p s m meth c Z own nm code maxL ret) (o : oOn p l e R s m args below meth c Z cells slots T L) {x : Int32} {y : UInt64} (i k : Nat) (hi : L[i]? = some (a, oArr Z .double vs)) (hk : x = Int32.ofNat k) (hlt : k < vs.length) (hd : decode code pc = .ok (.dastore, 1)) (hp : pc + 1 = pc')
    (kk : ∀ T', oOn p l e R s m args below meth c Z cells slots T' (L.set i (a, oArr Z .double (vs.set k (.double y)))) → oGo p e below K (T'.setTop (mkF m pc' Ls st))) : oGo p e below K (T.setTop (mkF m pc Ls (.double y :: .int x :: .ref a :: st))) := by
  subst hp; obtain ⟨lc, X, N, H⟩ := o
  obtain ⟨q0, cl, hc, B⟩ := H.at_ hi
  obtain ⟨q1, q2⟩ := B.inb hk hlt
  obtain ⟨T', h', X', e', Wd, stp⟩ := stD X cx.1 cx.2.1 rfl (B.arr hc) q2 (g := mkF m pc Ls (.double y :: .int x :: .ref a :: st)) rfl rfl (hb cx.2.2.1 hd)
  subst e'
  rw [q1] at Wd X'
  exact (kk T' ⟨_, X', Fr.snoc X' N q0, H.wr hi Wd fun c' hc' => hc'.put rfl⟩).via stp
theorem g_zastore (cx : oCx p s m meth c Z own nm code maxL ret) (o : oOn p l e R s m args below meth c Z cells slots T L) {x : Int32} {y : Int32} (i k : Nat) (hi : L[i]? = some (a, oArr Z .boolean vs)) (hk : x = Int32.ofNat k) (hlt : k < vs.length) (hd : decode code pc = .ok (.bastore, 1)) (hp : pc + 1 = pc')
    (kk : ∀ T', oOn p l e R s m args below meth c Z cells slots T' (L.set i (a, oArr Z .boolean (vs.set k (.int (nar .boolean y))))) → oGo p e below K (T'.setTop (mkF m pc' Ls st))) : oGo p e below K (T.setTop (mkF m pc Ls (.int y :: .int x :: .ref a :: st))) := by
  subst hp; obtain ⟨lc, X, N, H⟩ := o
  obtain ⟨q0, cl, hc, B⟩ := H.at_ hi
  obtain ⟨q1, q2⟩ := B.inb hk hlt
  obtain ⟨T', h', X', e', Wd, stp⟩ := stZ X cx.1 cx.2.1 rfl (B.arr hc) q2 (g := mkF m pc Ls (.int y :: .int x :: .ref a :: st)) rfl rfl (hb cx.2.2.1 hd)
  subst e'
  rw [q1] at Wd X'
  exact (kk T' ⟨_, X', Fr.snoc X' N q0, H.wr hi Wd fun c' hc' => hc'.put (fits_nar_bool y)⟩).via stp
theorem g_static (cx : oCx p s m meth c Z own nm code maxL ret) (o : oOn p l e R s m args below meth c Z cells slots T L) {index : Nat} {y : MethodName} {code' : ByteArray} {maxL' : Nat} {ret' : Option FieldType} {rm : Room} {Q : Option Value → List oEnt → Prop} {as : List Value} (w1 : (Jvm.Cond.methodLink own index y).before a0 Z = true) (w2 : (Jvm.Cond.static y).before a0 Z = true) (w3 : (Jvm.Cond.initialized y.cls).before a0 Z = true) (w4 : (Jvm.Cond.code y code' maxL' ret').before a0 Z = true)
    (hM : oMeets l Z y code' maxL' ret' rm as L Q) {st0 rest : List Value} (hst : st0 = as.reverse ++ rest) {ps : List FieldType} {rr : Option FieldType} (pd : parseMethodDescriptor y.desc = some ⟨ps, rr⟩) (hln : as.length = ps.length) (hy : y.cls ≠ "java/lang/invoke/MethodHandle" ∧ y.cls ≠ "java/lang/invoke/VarHandle")
    (hsz : Ls.size = maxL) (W : Nat) (hW : (rest.map fun v => v.category).sum ≤ W) (hf : rm.frames + 1 ≤ R.frames) (hl : W + (maxL' + 11) + rm.locals ≤ R.locals) (hc : cells + rm.cells ≤ R.cells) (hs : slots + rm.slots ≤ R.slots) (hd : decode code pc = .ok (.invokestatic index, 3)) (hp : pc + 3 = pc')
    (kk : ∀ T' v L', Q v L' → oOn p l e R s m args below meth c Z (cells + rm.cells) (slots + rm.slots) T' L' → oGo p e below K (T'.setTop (mkF m pc' Ls (v.toList ++ rest)))) : oGo p e below K (T.setTop (mkF m pc Ls st0)) := by
  subst hp hst; obtain ⟨lc, X, N, H⟩ := o
  obtain ⟨v, _, ⟨T', lc', k', n'⟩, -, X', ⟨Lc, hQ, l', y', z'⟩, stp⟩ := Jvm.LawKit.callS X cx.1 (y := y) cx.2.2.2.2.1 (mvT cx.2.1 w1) (mvT cx.2.1 w2) (mvT cx.2.1 w3) (mvT cx.2.1 w4) hy (backOf (W := W) (Q := fun v hp Lc => Fr Z.heap.size Lc ∧ ∃ L', oHp Z hp L' ∧ Q v L') (hM [] T.heap H) cx.2.1 w4 w3 hf hl) (g := mkF m pc Ls (as.reverse ++ rest)) rfl (hsz.trans cx.2.2.2.1.symm) (argsL := as) (rest := rest) (lenOf pd hln) rfl (by show 2 * 0 + _ ≤ _; omega) (hb cx.2.2.1 hd) (fun _ _ => ⟨rfl, rfl, hc, hs⟩)
  dsimp only [Pt.U, Pt.locs, Pt.cells, Pt.slots] at X' l' y' z' stp hQ
  subst l' y' z'
  obtain ⟨N', L', H', q⟩ := hQ
  exact (kk T' v L' q ⟨_, X', Fr.app N N', H'⟩).via stp
theorem g_special (cx : oCx p s m meth c Z own nm code maxL ret) (o : oOn p l e R s m args below meth c Z cells slots T L) {index : Nat} {y : MethodName} {code' : ByteArray} {maxL' : Nat} {rm : Room} {Q : Option Value → List oEnt → Prop} {as : List Value} (hy1 : y.name = "<init>") (w1 : (Jvm.Cond.methodLink own index y).before a0 Z = true) (w2 : (Jvm.Cond.instanceMethod y).before a0 Z = true) (w3 : (Jvm.Cond.initialized y.cls).before a0 Z = true) (w4 : (Jvm.Cond.code y code' maxL' none).before a0 Z = true)
    (hM : oMeets l Z y code' maxL' none rm (.ref a :: as) L Q) {st0 rest : List Value} (hst : st0 = as.reverse ++ .ref a :: rest) {ps : List FieldType} {rr : Option FieldType} (pd : parseMethodDescriptor y.desc = some ⟨ps, rr⟩) (hln : as.length = ps.length) (hy : y.cls ≠ "java/lang/invoke/MethodHandle" ∧ y.cls ≠ "java/lang/invoke/VarHandle")
    (hsz : Ls.size = maxL) (W : Nat) (hW : (rest.map fun v => v.category).sum ≤ W) (hf : rm.frames + 1 ≤ R.frames) (hl : W + (maxL' + 11) + rm.locals ≤ R.locals) (hc : cells + rm.cells ≤ R.cells) (hs : slots + rm.slots ≤ R.slots) (hd : decode code pc = .ok (.invokespecial index, 3)) (hp : pc + 3 = pc')
    (kk : ∀ T' v L', Q v L' → oOn p l e R s m args below meth c Z (cells + rm.cells) (slots + rm.slots) T' L' → oGo p e below K (T'.setTop (mkF m pc' Ls (v.toList ++ rest)))) : oGo p e below K (T.setTop (mkF m pc Ls st0)) := by
  subst hp hst; obtain ⟨lc, X, N, H⟩ := o
  obtain ⟨v, _, ⟨T', lc', k', n'⟩, -, X', ⟨Lc, hQ, l', y', z'⟩, stp⟩ := X.specialBack cx.1 (y := y) hy1 cx.2.2.2.2.1 (mvT cx.2.1 w1) (mvT cx.2.1 w2) (mvT cx.2.1 w4) hy (backOf (W := W) (Q := fun v hp Lc => Fr Z.heap.size Lc ∧ ∃ L', oHp Z hp L' ∧ Q v L') (hM [] T.heap H) cx.2.1 w4 w3 hf hl) (g := mkF m pc Ls (as.reverse ++ .ref a :: rest)) rfl (hsz.trans cx.2.2.2.1.symm) (Steps.refl _) (a := a) (argsL := as) (rest := rest) (lenOf pd hln) rfl (by show 2 * 0 + _ ≤ _; omega) (hb cx.2.2.1 hd) (fun _ _ => ⟨rfl, rfl, hc, hs⟩)
  dsimp only [Pt.U, Pt.locs, Pt.cells, Pt.slots] at X' l' y' z' stp hQ
  subst l' y' z'
  obtain ⟨N', L', H', q⟩ := hQ
  exact (kk T' v L' q ⟨_, X', Fr.app N N', H'⟩).via fun t r => stp.trans r
theorem g_virtual (cx : oCx p s m meth c Z own nm code maxL ret) (o : oOn p l e R s m args below meth c Z cells slots T L) {index : Nat} {C : String} {y z : MethodName} {code' : ByteArray} {maxL' : Nat} {ret' : Option FieldType} {rm : Room} {Q : Option Value → List oEnt → Prop} {as : List Value} {fs : oFs} (w1 : (Jvm.Cond.methodLink own index y).before a0 Z = true) (w2 : (Jvm.Cond.declares y).before a0 Z = true) (hnf : NotFace s y) (w5 : (Jvm.Cond.selects C y z).before a0 Z = true) (w6 : (Jvm.Cond.instanceMethod z).before a0 Z = true) (w3 : (Jvm.Cond.initialized z.cls).before a0 Z = true) (w4 : (Jvm.Cond.code z code' maxL' ret').before a0 Z = true)
    (i : Nat) (hi : L[i]? = some (a, oObj Z a0 C fs)) (hM : oMeets l Z z code' maxL' ret' rm (.ref a :: as) L Q) {st0 rest : List Value} (hst : st0 = as.reverse ++ .ref a :: rest) {ps : List FieldType} {rr : Option FieldType} (pd : parseMethodDescriptor y.desc = some ⟨ps, rr⟩) (hln : as.length = ps.length) (hy : y.cls ≠ "java/lang/invoke/MethodHandle" ∧ y.cls ≠ "java/lang/invoke/VarHandle")
    (hsz : Ls.size = maxL) (W : Nat) (hW : (rest.map fun v => v.category).sum ≤ W) (hf : rm.frames + 1 ≤ R.frames) (hl : W + (maxL' + 11) + rm.locals ≤ R.locals) (hc : cells + rm.cells ≤ R.cells) (hs : slots + rm.slots ≤ R.slots) (hd : decode code pc = .ok (.invokevirtual index, 3)) (hp : pc + 3 = pc')
    (kk : ∀ T' v L', Q v L' → oOn p l e R s m args below meth c Z (cells + rm.cells) (slots + rm.slots) T' L' → oGo p e below K (T'.setTop (mkF m pc' Ls (v.toList ++ rest)))) : oGo p e below K (T.setTop (mkF m pc Ls st0)) := by
  subst hp hst; obtain ⟨lc, X, N, H⟩ := o
  obtain ⟨-, cl, hcl, B⟩ := H.at_ hi
  obtain ⟨cq, kq, qa, qb, qc⟩ := isOf cx.2.1 (T := T) rfl (B.1.exa hcl)
  obtain ⟨v, _, ⟨T', lc', k', n'⟩, -, X', ⟨Lc, hQ, l', y', z'⟩, stp⟩ := X.virtualBack cx.1 (y := y) (z := z) cx.2.2.2.2.1 (mvT cx.2.1 w1) (mvT cx.2.1 w2) hnf (mvT cx.2.1 w5) (mvT cx.2.1 w6) hy (backOf (W := W) (Q := fun v hp Lc => Fr Z.heap.size Lc ∧ ∃ L', oHp Z hp L' ∧ Q v L') (hM [] T.heap H) cx.2.1 w4 w3 hf hl) qa qc (g := mkF m pc Ls (as.reverse ++ .ref a :: rest)) rfl (hsz.trans cx.2.2.2.1.symm) (Steps.refl _) (argsL := as) (rest := rest) (lenOf pd hln) rfl (by show 2 * 0 + _ ≤ _; omega) (hb cx.2.2.1 hd) (fun _ _ => ⟨rfl, rfl, hc, hs⟩)
  dsimp only [Pt.U, Pt.locs, Pt.cells, Pt.slots] at X' l' y' z' stp hQ
  subst l' y' z'
  obtain ⟨N', L', H', q⟩ := hQ
  exact (kk T' v L' q ⟨_, X', Fr.app N N', H'⟩).via fun t r => stp.trans r
theorem g_private (cx : oCx p s m meth c Z own nm code maxL ret) (o : oOn p l e R s m args below meth c Z cells slots T L) {index : Nat} {C : String} {y y0 z0 : MethodName} {code' : ByteArray} {maxL' : Nat} {ret' : Option FieldType} {rm : Room} {Q : Option Value → List oEnt → Prop} {as : List Value} {fs : oFs} (w1 : (Jvm.Cond.methodLink own index y).before a0 Z = true) (w5 : (Jvm.Cond.selects C y0 z0).before a0 Z = true) (hzc : z0.cls = y.cls) (w6 : (Jvm.Cond.instanceMethod y).before a0 Z = true) (w7 : (Jvm.Cond.privateMethod y).before a0 Z = true) (w3 : (Jvm.Cond.initialized y.cls).before a0 Z = true) (w4 : (Jvm.Cond.code y code' maxL' ret').before a0 Z = true)
    (i : Nat) (hi : L[i]? = some (a, oObj Z a0 C fs)) (hM : oMeets l Z y code' maxL' ret' rm (.ref a :: as) L Q) {st0 rest : List Value} (hst : st0 = as.reverse ++ .ref a :: rest) {ps : List FieldType} {rr : Option FieldType} (pd : parseMethodDescriptor y.desc = some ⟨ps, rr⟩) (hln : as.length = ps.length) (hy : y.cls ≠ "java/lang/invoke/MethodHandle" ∧ y.cls ≠ "java/lang/invoke/VarHandle")
    (hsz : Ls.size = maxL) (W : Nat) (hW : (rest.map fun v => v.category).sum ≤ W) (hf : rm.frames + 1 ≤ R.frames) (hl : W + (maxL' + 11) + rm.locals ≤ R.locals) (hc : cells + rm.cells ≤ R.cells) (hs : slots + rm.slots ≤ R.slots) (hd : decode code pc = .ok (.invokevirtual index, 3)) (hp : pc + 3 = pc')
    (kk : ∀ T' v L', Q v L' → oOn p l e R s m args below meth c Z (cells + rm.cells) (slots + rm.slots) T' L' → oGo p e below K (T'.setTop (mkF m pc' Ls (v.toList ++ rest)))) : oGo p e below K (T.setTop (mkF m pc Ls st0)) := by
  subst hp hst; obtain ⟨lc, X, N, H⟩ := o
  obtain ⟨-, cl, hcl, B⟩ := H.at_ hi
  obtain ⟨cc, hcc, hob⟩ := (B.1.exa hcl).cell
  have hsel : (Jvm.Cond.selects y.cls y y).before args s = true := by
    obtain ⟨c2, r2, m2, -, -, q3, -, kP, hkP, hkPi⟩ := Cond.selects_spec (show (Jvm.Cond.selects C y0 z0).before args s = true from mvT cx.2.1 w5)
    exact selects_self_of_private (hzc ▸ findClass_of_methodNamed q3) hkP hkPi (Cond.privateMethod_at (args := args) (mvP cx.2.1 w7)) (mvT cx.2.1 w6) hy
  obtain ⟨v, _, ⟨T', lc', k', n'⟩, -, X', ⟨Lc, hQ, l', y', z'⟩, stp⟩ := X.privateBack cx.1 (y := y) cx.2.2.2.2.1 (mvT cx.2.1 w1) (mvT cx.2.1 w6) hsel (Cond.privateMethod_at (args := args) (mvP cx.2.1 w7)) (mvT cx.2.1 w4) hy (backOf (W := W) (Q := fun v hp Lc => Fr Z.heap.size Lc ∧ ∃ L', oHp Z hp L' ∧ Q v L') (hM [] T.heap H) cx.2.1 w4 w3 hf hl) (g := mkF m pc Ls (as.reverse ++ .ref a :: rest)) rfl (hsz.trans cx.2.2.2.1.symm) (Steps.refl _) hcc hob (argsL := as) (rest := rest) (lenOf pd hln) rfl (by show 2 * 0 + _ ≤ _; omega) (hb cx.2.2.1 hd) (fun _ _ => ⟨rfl, rfl, hc, hs⟩)
  dsimp only [Pt.U, Pt.locs, Pt.cells, Pt.slots] at X' l' y' z' stp hQ
  subst l' y' z'
  obtain ⟨N', L', H', q⟩ := hQ
  exact (kk T' v L' q ⟨_, X', Fr.app N N', H'⟩).via fun t r => stp.trans r
theorem g_virtualO (cx : oCx p s m meth c Z own nm code maxL ret) (o : oOn p l e R s m args below meth c Z cells slots T L) {index : Nat} {C : String} {y z : MethodName} {code' : ByteArray} {maxL' : Nat} {ret' : Option FieldType} {rm : Room} {Q : Option Value → List oEnt → Prop} {as : List Value} (w1 : (Jvm.Cond.methodLink own index y).before a0 Z = true) (w2 : (Jvm.Cond.declares y).before a0 Z = true) (hnf : NotFace s y) (w5 : (Jvm.Cond.selects C y z).before a0 Z = true) (w6 : (Jvm.Cond.instanceMethod z).before a0 Z = true) (w3 : (Jvm.Cond.initialized z.cls).before a0 Z = true) (w4 : (Jvm.Cond.code z code' maxL' ret').before a0 Z = true)
    (E : Exa Z Z.heap a C) (hM : oMeets l Z z code' maxL' ret' rm (.ref a :: as) L Q) {st0 rest : List Value} (hst : st0 = as.reverse ++ .ref a :: rest) {ps : List FieldType} {rr : Option FieldType} (pd : parseMethodDescriptor y.desc = some ⟨ps, rr⟩) (hln : as.length = ps.length) (hy : y.cls ≠ "java/lang/invoke/MethodHandle" ∧ y.cls ≠ "java/lang/invoke/VarHandle")
    (hsz : Ls.size = maxL) (W : Nat) (hW : (rest.map fun v => v.category).sum ≤ W) (hf : rm.frames + 1 ≤ R.frames) (hl : W + (maxL' + 11) + rm.locals ≤ R.locals) (hc : cells + rm.cells ≤ R.cells) (hs : slots + rm.slots ≤ R.slots) (hd : decode code pc = .ok (.invokevirtual index, 3)) (hp : pc + 3 = pc')
    (kk : ∀ T' v L', Q v L' → oOn p l e R s m args below meth c Z (cells + rm.cells) (slots + rm.slots) T' L' → oGo p e below K (T'.setTop (mkF m pc' Ls (v.toList ++ rest)))) : oGo p e below K (T.setTop (mkF m pc Ls st0)) := by
  subst hp hst; obtain ⟨lc, X, N, H⟩ := o
  obtain ⟨cq, kq, qa, qb, qc⟩ := isOf cx.2.1 (T := T) rfl (E.ext H.1)
  obtain ⟨v, _, ⟨T', lc', k', n'⟩, -, X', ⟨Lc, hQ, l', y', z'⟩, stp⟩ := X.virtualBack cx.1 (y := y) (z := z) cx.2.2.2.2.1 (mvT cx.2.1 w1) (mvT cx.2.1 w2) hnf (mvT cx.2.1 w5) (mvT cx.2.1 w6) hy (backOf (W := W) (Q := fun v hp Lc => Fr Z.heap.size Lc ∧ ∃ L', oHp Z hp L' ∧ Q v L') (hM [] T.heap H) cx.2.1 w4 w3 hf hl) qa qc (g := mkF m pc Ls (as.reverse ++ .ref a :: rest)) rfl (hsz.trans cx.2.2.2.1.symm) (Steps.refl _) (argsL := as) (rest := rest) (lenOf pd hln) rfl (by show 2 * 0 + _ ≤ _; omega) (hb cx.2.2.1 hd) (fun _ _ => ⟨rfl, rfl, hc, hs⟩)
  dsimp only [Pt.U, Pt.locs, Pt.cells, Pt.slots] at X' l' y' z' stp hQ
  subst l' y' z'
  obtain ⟨N', L', H', q⟩ := hQ
  exact (kk T' v L' q ⟨_, X', Fr.app N N', H'⟩).via fun t r => stp.trans r
theorem g_ret {ty : FieldType} (cx : oCx p s m meth c Z own nm code maxL (some ty)) (o : oOn p l e R s m args below meth c Z cells slots T L) {w : Value} {ins : Instr} {Q : Option Value → List oEnt → Prop} {C S : Nat} (hn : narrow ty w = w)
    (hi : (ins = .ireturn ∧ (ty = .int ∨ ty = .boolean ∨ ty = .byte ∨ ty = .char ∨ ty = .short) ∧ ∃ z, w = .int z) ∨ (ins = .lreturn ∧ ty = .long ∧ ∃ z, w = .long z) ∨ (ins = .dreturn ∧ ty = .double ∧ ∃ z, w = .double z) ∨ (ins = .freturn ∧ ty = .float ∧ ∃ z, w = .float z) ∨ (ins = .areturn ∧ ty.isReference = true ∧ w.isRef = true))
    (hd : decode code pc = .ok (ins, 1)) (hc : cells ≤ C) (hs : slots ≤ S) (hQ : Q (some w) L) : oGo p e below (oEnd s Z Q C S) (T.setTop (mkF m pc Ls (w :: st))) := by
  obtain ⟨lc, X, N, H⟩ := o
  have hlk := cx.2.2.2.2.2.2.2
  obtain ⟨fs, hr, hrun, hended, hW, hsame⟩ := X.leave (v := some w) (fun h => by rw [cx.2.2.2.2.2.2.1] at h; cases h) hlk
  exact ⟨_, _, retOut X cx.1 cx.2.2.2.2.2.2.1 hn hi (hb cx.2.2.1 hd) hr, hrun, hended, _, _, rfl, ⟨N, L, H, hQ⟩, ⟨_, rfl⟩, hW, hsame.mono hc hs⟩
theorem g_ireturn (cx : oCx p s m meth c Z own nm code maxL (some .int)) (o : oOn p l e R s m args below meth c Z cells slots T L) {z : Int32} {Q : Option Value → List oEnt → Prop} {C S : Nat} (hd : decode code pc = .ok (.ireturn, 1)) (hc : cells ≤ C) (hs : slots ≤ S) (hQ : Q (some (.int z)) L) : oGo p e below (oEnd s Z Q C S) (T.setTop (mkF m pc Ls (.int z :: st))) :=
  g_ret cx o rfl (Or.inl ⟨rfl, Or.inl rfl, z, rfl⟩) hd hc hs hQ
theorem g_ireturnZ (cx : oCx p s m meth c Z own nm code maxL (some .boolean)) (o : oOn p l e R s m args below meth c Z cells slots T L) {z : Int32} {Q : Option Value → List oEnt → Prop} {C S : Nat} (hd : decode code pc = .ok (.ireturn, 1)) (hz : z &&& 1 = z) (hc : cells ≤ C) (hs : slots ≤ S) (hQ : Q (some (.int z)) L) : oGo p e below (oEnd s Z Q C S) (T.setTop (mkF m pc Ls (.int z :: st))) :=
  g_ret cx o (show narrow .boolean (.int z) = .int z from congrArg Value.int hz) (Or.inl ⟨rfl, Or.inr (Or.inl rfl), z, rfl⟩) hd hc hs hQ
theorem g_dreturn (cx : oCx p s m meth c Z own nm code maxL (some .double)) (o : oOn p l e R s m args below meth c Z cells slots T L) {z : UInt64} {Q : Option Value → List oEnt → Prop} {C S : Nat} (hd : decode code pc = .ok (.dreturn, 1)) (hc : cells ≤ C) (hs : slots ≤ S) (hQ : Q (some (.double z)) L) : oGo p e below (oEnd s Z Q C S) (T.setTop (mkF m pc Ls (.double z :: st))) :=
  g_ret cx o rfl (Or.inr (Or.inr (Or.inl ⟨rfl, rfl, z, rfl⟩))) hd hc hs hQ
theorem g_lreturn (cx : oCx p s m meth c Z own nm code maxL (some .long)) (o : oOn p l e R s m args below meth c Z cells slots T L) {z : Int64} {Q : Option Value → List oEnt → Prop} {C S : Nat} (hd : decode code pc = .ok (.lreturn, 1)) (hc : cells ≤ C) (hs : slots ≤ S) (hQ : Q (some (.long z)) L) : oGo p e below (oEnd s Z Q C S) (T.setTop (mkF m pc Ls (.long z :: st))) :=
  g_ret cx o rfl (Or.inr (Or.inl ⟨rfl, rfl, z, rfl⟩)) hd hc hs hQ
theorem g_areturn {cn : String} (cx : oCx p s m meth c Z own nm code maxL (some (.object cn))) (o : oOn p l e R s m args below meth c Z cells slots T L) {w : Value} {Q : Option Value → List oEnt → Prop} {C S : Nat} (hw : w.isRef = true) (hd : decode code pc = .ok (.areturn, 1)) (hc : cells ≤ C) (hs : slots ≤ S) (hQ : Q (some w) L) : oGo p e below (oEnd s Z Q C S) (T.setTop (mkF m pc Ls (w :: st))) :=
  g_ret cx o (by rcases ref_cases hw with rfl | ⟨x, rfl⟩ <;> rfl) (Or.inr (Or.inr (Or.inr (Or.inr ⟨rfl, rfl, hw⟩)))) hd hc hs hQ
theorem g_return (cx : oCx p s m meth c Z own nm code maxL none) (o : oOn p l e R s m args below meth c Z cells slots T L) {Q : Option Value → List oEnt → Prop} {C S : Nat} (hd : decode code pc = .ok (.return_, 1)) (hc : cells ≤ C) (hs : slots ≤ S) (hQ : Q none L) : oGo p e below (oEnd s Z Q C S) (T.setTop (mkF m pc Ls [])) := by
  obtain ⟨lc, X, N, H⟩ := o
  have hlk := cx.2.2.2.2.2.2.2
  obtain ⟨fs, hr, hrun, hended, hW, hsame⟩ := X.leave (v := none) (fun _ => rfl) hlk
  exact ⟨_, _, X.returnOut cx.1 cx.2.2.2.2.2.2.1 (hb cx.2.2.1 hd) hr, hrun, hended, _, _, rfl, ⟨N, L, H, hQ⟩, ⟨_, rfl⟩, hW, hsame.mono hc hs⟩
end OwnRules

section OwnFP
open Jvm.FP
/-- a double's value, in units of 2^-1074 -/
abbrev oz (a : UInt64) : Int := Core.zval Core.b64 (Core.val64 a)
theorem o_sgT (c : Nat) : Core.signed true c = -(c : Int) := rfl
theorem o_sgF (c : Nat) : Core.signed false c = (c : Int) := rfl
theorem o_qmin : Core.b64.qmin = -1074 := Core.qmin_b64
theorem o_qmax : Core.b64.qmax = 971 := by decide
/-- N units are the value of some double -/
def oRep (N : Int) : Prop := ∃ V : Core.Datum, Core.fits Core.b64 V ∧ (∃ s c q, V = .fin s c q) ∧ Core.zval Core.b64 V = N
theorem oRep.ofC {N : Int} {c t : Nat} (h : N.natAbs = c * 2 ^ t) (hc : c < 2 ^ 53) (ht : t ≤ 2045) : oRep N := by
  have q1 := o_qmin
  have q2 := o_qmax
  obtain ⟨c', q', e1, e2⟩ := Core.round_exact Core.good_b64 (decide (N < 0)) (c := c) (q := (t : Int) + Core.b64.qmin) hc (by omega) (by omega)
  refine ⟨_, Core.round_fits Core.good_b64 (.fin (decide (N < 0)) c ((t : Int) + Core.b64.qmin)), ⟨_, c', q', e1⟩, ?_⟩
  rw [e1]
  show Core.signed (decide (N < 0)) (Core.inUnits c' q' Core.b64.qmin) = N
  rw [e2]
  have e3 : Core.inUnits c ((t : Int) + Core.b64.qmin) Core.b64.qmin = c * 2 ^ t := by
    show c * 2 ^ ((t : Int) + Core.b64.qmin - Core.b64.qmin).toNat = c * 2 ^ t
    rw [show ((t : Int) + Core.b64.qmin - Core.b64.qmin).toNat = t by omega]
  rw [e3, ← h]
  by_cases hn : N < 0
  · rw [decide_eq_true hn]; show -(N.natAbs : Int) = N; omega
  · rw [decide_eq_false hn]; show (N.natAbs : Int) = N; omega
theorem oRep.of {N : Int} {c t : Nat} (h : N.natAbs = c * 2 ^ t) (hc : c ≤ 2 ^ 53) (ht : t ≤ 2044) : oRep N := by
  rcases Nat.lt_or_eq_of_le hc with q | q
  · exact oRep.ofC h q (by omega)
  · exact oRep.ofC (c := 2 ^ 52) (t := t + 1) (by rw [h, q, Nat.pow_succ 2 t, ← Nat.mul_assoc, Nat.mul_right_comm]) (by decide) (by omega)
theorem o_val_fin {D V : Core.Datum} (hn : D ≠ .nan) (hV : Core.fits Core.b64 V) (hv : ∃ s c q, V = .fin s c q) (e : Core.zval Core.b64 D = Core.zval Core.b64 V) : ∃ s c q, D = .fin s c q := by
  cases D with
  | nan => exact absurd rfl hn
  | fin s c q => exact ⟨s, c, q, rfl⟩
  | inf s =>
    obtain ⟨s', c, q, rfl⟩ := hv
    have h1 := Core.zmag_lt_top Core.good_b64 hV
    have h2 : (Core.signed s (Core.zmag Core.b64 (.inf s))).natAbs = (Core.signed s' (Core.zmag Core.b64 (.fin s' c q))).natAbs := congrArg Int.natAbs e
    rw [Core.natAbs_signed, Core.natAbs_signed] at h2
    exact absurd h2 (Nat.ne_of_gt h1)
theorem o_fin_nn {a : UInt64} (h : Core.DFin a) : NoNaN64 a := val64_no.mpr fun q => by
  obtain ⟨s, c, q', e⟩ := h; rw [q] at e; cases e
theorem o_fin_ne {a : UInt64} (h : Core.DFin a) : Core.val64 a ≠ .nan := val64_no.mp (o_fin_nn h)
theorem o_ne_of_fin {V : Core.Datum} (h : ∃ s c q, V = Core.Datum.fin s c q) : V ≠ .nan := by obtain ⟨_, _, _, rfl⟩ := h; exact Core.Datum.noConfusion
theorem o_sum_ne {x y : Core.Datum} (hx : ∃ s c q, x = Core.Datum.fin s c q) (hy : ∃ s c q, y = Core.Datum.fin s c q) : Core.round Core.b64 (Core.exactSum x y) ≠ .nan := by
  obtain ⟨s, c, q, rfl⟩ := hx; obtain ⟨t, d, r, rfl⟩ := hy; exact Core.roundRatio_ne_nan _ _ _ _ _
theorem o_dadd {a b : UInt64} (ha : Core.DFin a) (hb : Core.DFin b) (h : oRep (oz a + oz b)) : Core.DFin (FP.dadd a b) ∧ oz (FP.dadd a b) = oz a + oz b := by
  obtain ⟨V, fV, vV, eV⟩ := h
  have e : Core.val64 (FP.dadd a b) = Core.round Core.b64 (Core.exactSum (Core.val64 a) (Core.val64 b)) := Core.val64_dadd a b
  have l := Core.sum_le Core.good_b64 ha hb (Core.val64_fits a) (Core.val64_fits b) fV (o_ne_of_fin vV) (by rw [eV]; exact Int.le_refl _)
  have g := Core.sum_ge Core.good_b64 ha hb (Core.val64_fits a) (Core.val64_fits b) fV (o_ne_of_fin vV) (by rw [eV]; exact Int.le_refl _)
  have ez := Int.le_antisymm l g
  refine ⟨?_, ?_⟩
  · show ∃ s c q, Core.val64 (FP.dadd a b) = .fin s c q
    rw [e]; exact o_val_fin (o_sum_ne ha hb) fV vV ez
  · show Core.zval Core.b64 (Core.val64 (FP.dadd a b)) = _
    rw [e, ez, eV]
theorem o_neg_fin {x : Core.Datum} (h : ∃ s c q, x = Core.Datum.fin s c q) : ∃ s c q, Core.negate x = Core.Datum.fin s c q := by obtain ⟨s, c, q, rfl⟩ := h; exact ⟨_, _, _, rfl⟩
theorem o_dsub {a b : UInt64} (ha : Core.DFin a) (hb : Core.DFin b) (h : oRep (oz a - oz b)) : Core.DFin (FP.dsub a b) ∧ oz (FP.dsub a b) = oz a - oz b := by
  obtain ⟨V, fV, vV, eV⟩ := h
  have e : Core.val64 (FP.dsub a b) = Core.round Core.b64 (Core.exactSum (Core.val64 a) (Core.negate (Core.val64 b))) := Core.val64_dsub a b
  have hb' := o_neg_fin hb
  have zb : Core.zval Core.b64 (Core.val64 a) + Core.zval Core.b64 (Core.negate (Core.val64 b)) = Core.zval Core.b64 V := by rw [Core.zval_negate, eV]; exact (Int.sub_eq_add_neg).symm
  have l := Core.sum_le Core.good_b64 ha hb' (Core.val64_fits a) (Core.negate_fits (Core.val64_fits b)) fV (o_ne_of_fin vV) (Int.le_of_eq zb)
  have g := Core.sum_ge Core.good_b64 ha hb' (Core.val64_fits a) (Core.negate_fits (Core.val64_fits b)) fV (o_ne_of_fin vV) (Int.le_of_eq zb.symm)
  have ez := Int.le_antisymm l g
  refine ⟨?_, ?_⟩
  · show ∃ s c q, Core.val64 (FP.dsub a b) = .fin s c q
    rw [e]; exact o_val_fin (o_sum_ne ha hb') fV vV ez
  · show Core.zval Core.b64 (Core.val64 (FP.dsub a b)) = _
    rw [e, ez, eV]
theorem o_two : ((2 ^ (Core.b64.qmin - 2 * Core.b64.qmin).toNat : Nat) : Int) = (Core.one64 : Int) := by
  rw [show (Core.b64.qmin - 2 * Core.b64.qmin) = -Core.b64.qmin by omega, Core.pow_qmin64]
theorem o_dmul {a b : UInt64} {N : Int} (ha : Core.DFin a) (hb : Core.DFin b) (hN : oz a * oz b = N * (Core.one64 : Int)) (h : oRep N) : Core.DFin (FP.dmul a b) ∧ oz (FP.dmul a b) = N := by
  obtain ⟨V, fV, vV, eV⟩ := h
  have e : Core.val64 (FP.dmul a b) = Core.round Core.b64 (Core.exactProduct (Core.val64 a) (Core.val64 b)) := Core.val64_dmul a b
  have fa := Core.val64_fits a
  have fb := Core.val64_fits b
  obtain ⟨s, c, q, h1⟩ := ha
  obtain ⟨t, d, r, h2⟩ := hb
  have hN' : Core.zval Core.b64 (Core.val64 a) * Core.zval Core.b64 (Core.val64 b) = N * (Core.one64 : Int) := hN
  rw [h1] at fa hN' e
  rw [h2] at fb hN' e
  obtain ⟨p1, p2, p3⟩ := Core.product_units fa fb
  rw [p1] at e
  have key : Core.signed (s != t) (Core.inUnits (c * d) (q + r) (2 * Core.b64.qmin)) = Core.zval Core.b64 V * ((2 ^ (Core.b64.qmin - 2 * Core.b64.qmin).toNat : Nat) : Int) := by
    rw [p3, Core.signed_xor, o_two, eV]; exact hN'
  have q0 := Core.qmin_neg Core.good_b64
  have l := Core.zval_round_le Core.good_b64 fV (o_ne_of_fin vV) (e0 := 2 * Core.b64.qmin) (by omega) p2 (Int.le_of_eq key)
  have g := Core.zval_round_ge Core.good_b64 fV (o_ne_of_fin vV) (e0 := 2 * Core.b64.qmin) (by omega) p2 (Int.le_of_eq key.symm)
  have ez := Int.le_antisymm l g
  refine ⟨?_, ?_⟩
  · show ∃ s c q, Core.val64 (FP.dmul a b) = .fin s c q
    rw [e]; exact o_val_fin (Core.roundRatio_ne_nan _ _ _ _ _) fV vV ez
  · show Core.zval Core.b64 (Core.val64 (FP.dmul a b)) = _
    rw [e, ez, eV]
/-! the quotient, by magnitudes -/
theorem o_quot {a b : UInt64} (ha : Core.DFin a) (hb : Core.DFin b) (hz : oz b ≠ 0) : ∃ s t c q d r, Core.val64 a = .fin s c q ∧ Core.val64 b = .fin t d r ∧ d ≠ 0 ∧ Core.val64 (FP.ddiv a b) = Core.roundRatio Core.b64 (s != t) c d (q - r) := by
  obtain ⟨s, c, q, h1⟩ := ha
  obtain ⟨t, d, r, h2⟩ := hb
  have hd : d ≠ 0 := fun e => hz (by show Core.zval Core.b64 (Core.val64 b) = 0; rw [h2, e]; show Core.signed t (0 * _) = 0; rw [Nat.zero_mul]; cases t <;> rfl)
  refine ⟨s, t, c, q, d, r, h1, h2, hd, ?_⟩
  have e : Core.val64 (FP.ddiv a b) = Core.quotient Core.b64 (Core.val64 a) (Core.val64 b) := Core.val64_ddiv a b
  rw [e, h1, h2]
  show (if d = 0 then _ else _) = _
  rw [if_neg hd]
theorem o_units {c d : Nat} {q r e0 : Int} {N : Nat} (fq : Core.b64.qmin ≤ q) (fr : Core.b64.qmin ≤ r) (h0 : e0 ≤ Core.b64.qmin) (h1 : e0 ≤ q - r) :
    (Core.inUnits c (q - r) e0 ≤ N * 2 ^ (Core.b64.qmin - e0).toNat * d ↔ Core.inUnits c q Core.b64.qmin * Core.one64 ≤ N * Core.inUnits d r Core.b64.qmin) ∧
    (N * 2 ^ (Core.b64.qmin - e0).toNat * d ≤ Core.inUnits c (q - r) e0 ↔ N * Core.inUnits d r Core.b64.qmin ≤ Core.inUnits c q Core.b64.qmin * Core.one64) := by
  have q0 := o_qmin
  have e1 : Core.one64 = 2 ^ 1074 := rfl
  have hp : 0 < 2 ^ (r - e0 - Core.b64.qmin).toNat := Nat.two_pow_pos _
  have hp2 : 0 < 2 ^ (Core.b64.qmin - e0).toNat := Nat.two_pow_pos _
  have A : Core.inUnits c (q - r) e0 * 2 ^ (r - Core.b64.qmin).toNat = Core.inUnits c q Core.b64.qmin * Core.one64 * 2 ^ (Core.b64.qmin - e0).toNat := by
    show c * 2 ^ (q - r - e0).toNat * 2 ^ (r - Core.b64.qmin).toNat = c * 2 ^ (q - Core.b64.qmin).toNat * Core.one64 * 2 ^ (Core.b64.qmin - e0).toNat
    rw [e1, Nat.mul_assoc, ← Nat.pow_add, Nat.mul_assoc, Nat.mul_assoc, ← Nat.pow_add, ← Nat.pow_add]
    congr 2
    omega
  have B : N * 2 ^ (Core.b64.qmin - e0).toNat * d * 2 ^ (r - Core.b64.qmin).toNat = N * Core.inUnits d r Core.b64.qmin * 2 ^ (Core.b64.qmin - e0).toNat := by
    show _ = N * (d * 2 ^ (r - Core.b64.qmin).toNat) * 2 ^ (Core.b64.qmin - e0).toNat
    generalize 2 ^ (Core.b64.qmin - e0).toNat = X
    generalize 2 ^ (r - Core.b64.qmin).toNat = Y
    rw [Nat.mul_assoc, Nat.mul_right_comm]
  have hr : 0 < 2 ^ (r - Core.b64.qmin).toNat := Nat.two_pow_pos _
  constructor
  · rw [← Nat.mul_le_mul_right_iff hr, A, B, Nat.mul_le_mul_right_iff hp2]
  · rw [← Nat.mul_le_mul_right_iff hr, A, B, Nat.mul_le_mul_right_iff hp2]
theorem o_zmag {a : UInt64} {s : Bool} {c : Nat} {q : Int} (h : Core.val64 a = .fin s c q) : (oz a).natAbs = Core.inUnits c q Core.b64.qmin ∧ Core.b64.qmin ≤ q := by
  have f := Core.val64_fits a
  refine ⟨?_, by rw [h] at f; exact f.2.1⟩
  show (Core.zval Core.b64 (Core.val64 a)).natAbs = _
  rw [h]; exact Core.natAbs_signed _ _
theorem o_ddiv_le {a b : UInt64} {V : Core.Datum} (ha : Core.DFin a) (hb : Core.DFin b) (hz : oz b ≠ 0) (fV : Core.fits Core.b64 V) (hn : V ≠ .nan) (h : (oz a).natAbs * Core.one64 ≤ Core.zmag Core.b64 V * (oz b).natAbs) : (oz (FP.ddiv a b)).natAbs ≤ Core.zmag Core.b64 V := by
  obtain ⟨s, t, c, q, d, r, h1, h2, hd, e⟩ := o_quot ha hb hz
  obtain ⟨m1, f1⟩ := o_zmag h1
  obtain ⟨m2, f2⟩ := o_zmag h2
  rw [m1, m2] at h
  have k := Core.zmag_roundRatio_le Core.good_b64 (s := s != t) (A := c) (B := d) (e := q - r) (e0 := min Core.b64.qmin (q - r)) (V := V) (Nat.pos_of_ne_zero hd) fV hn (by omega) (by omega) ((o_units f1 f2 (by omega) (by omega)).1.mpr h)
  show (Core.zval Core.b64 (Core.val64 (FP.ddiv a b))).natAbs ≤ _
  rw [e]; show (Core.signed (Core.sgn _) (Core.zmag Core.b64 _)).natAbs ≤ _; rw [Core.natAbs_signed]; exact k
theorem o_ddiv_ge {a b : UInt64} {V : Core.Datum} (ha : Core.DFin a) (hb : Core.DFin b) (hz : oz b ≠ 0) (fV : Core.fits Core.b64 V) (h : Core.zmag Core.b64 V * (oz b).natAbs ≤ (oz a).natAbs * Core.one64) : Core.zmag Core.b64 V ≤ (oz (FP.ddiv a b)).natAbs := by
  obtain ⟨s, t, c, q, d, r, h1, h2, hd, e⟩ := o_quot ha hb hz
  obtain ⟨m1, f1⟩ := o_zmag h1
  obtain ⟨m2, f2⟩ := o_zmag h2
  rw [m1, m2] at h
  have k := Core.zmag_roundRatio_ge Core.good_b64 (s := s != t) (A := c) (B := d) (e := q - r) (e0 := min Core.b64.qmin (q - r)) (V := V) (Nat.pos_of_ne_zero hd) fV (by omega) (by omega) ((o_units f1 f2 (by omega) (by omega)).2.mpr h)
  show _ ≤ (Core.zval Core.b64 (Core.val64 (FP.ddiv a b))).natAbs
  rw [e]; show _ ≤ (Core.signed (Core.sgn _) (Core.zmag Core.b64 _)).natAbs; rw [Core.natAbs_signed]; exact k
theorem o_ddiv_nn {a b : UInt64} (ha : Core.DFin a) (hb : Core.DFin b) (hz : oz b ≠ 0) : NoNaN64 (FP.ddiv a b) := val64_no.mpr (by
  obtain ⟨s, t, c, q, d, r, h1, h2, hd, e⟩ := o_quot ha hb hz
  rw [e]; exact Core.roundRatio_ne_nan _ _ _ _ _)
/-- the quotient's sign: as the operands' (of a quotient that isn't nought) -/
theorem o_ddiv_sgn {a b : UInt64} (ha : Core.DFin a) (hb : Core.DFin b) (hz : oz b ≠ 0) : (0 ≤ oz a → 0 < oz b → 0 ≤ oz (FP.ddiv a b)) ∧ (oz a < 0 → 0 < oz b → oz (FP.ddiv a b) ≤ 0) ∧ (0 < oz a → oz b < 0 → oz (FP.ddiv a b) ≤ 0) ∧ (oz a < 0 → oz b < 0 → 0 ≤ oz (FP.ddiv a b)) ∧ (oz a = 0 → oz (FP.ddiv a b) = 0) := by
  obtain ⟨s, t, c, q, d, r, h1, h2, hd, e⟩ := o_quot ha hb hz
  have za : oz a = Core.signed s (Core.inUnits c q Core.b64.qmin) := by show Core.zval Core.b64 (Core.val64 a) = _; rw [h1]; rfl
  have zb : oz b = Core.signed t (Core.inUnits d r Core.b64.qmin) := by show Core.zval Core.b64 (Core.val64 b) = _; rw [h2]; rfl
  have zq : oz (FP.ddiv a b) = Core.signed (s != t) (Core.zmag Core.b64 (Core.roundRatio Core.b64 (s != t) c d (q - r))) := by
    show Core.zval Core.b64 (Core.val64 (FP.ddiv a b)) = _
    rw [e]; show Core.signed (Core.sgn _) (Core.zmag Core.b64 _) = _; rw [Core.sgn_roundRatio]
  have p1 : 0 < d * 2 ^ (r - Core.b64.qmin).toNat := Nat.mul_pos (Nat.pos_of_ne_zero hd) (Nat.two_pow_pos _)
  have p0 : oz a = 0 → oz (FP.ddiv a b) = 0 := fun h => by
    have hc : c = 0 := by
      have : Core.inUnits c q Core.b64.qmin = 0 := by rw [za] at h; exact (Core.signed_eq_zero _ _).mp h
      have h3 : c * 2 ^ (q - Core.b64.qmin).toNat = 0 := this
      rcases Nat.mul_eq_zero.mp h3 with h4 | h4
      · exact h4
      · exact absurd h4 (Nat.ne_of_gt (Nat.two_pow_pos _))
    rw [zq, hc]
    have : Core.roundRatio Core.b64 (s != t) 0 d (q - r) = .fin (s != t) 0 Core.b64.qmin := rfl
    rw [this]; show Core.signed (s != t) (0 * _) = 0; rw [Nat.zero_mul]; cases s <;> cases t <;> rfl
  have zb' : oz b = Core.signed t (d * 2 ^ (r - Core.b64.qmin).toNat) := zb
  generalize Core.zmag Core.b64 (Core.roundRatio Core.b64 (s != t) c d (q - r)) = M at zq
  generalize Core.inUnits c q Core.b64.qmin = A at za
  generalize d * 2 ^ (r - Core.b64.qmin).toNat = B at zb' p1
  refine ⟨fun h h' => ?_, fun h h' => ?_, fun h h' => ?_, fun h h' => ?_, p0⟩
  · by_cases h0 : oz a = 0
    · rw [p0 h0]; exact Int.le_refl _
    · rw [zq]; rw [za] at h h0; rw [zb'] at h'; cases s <;> cases t <;> simp [o_sgT, o_sgF] at h h0 h' ⊢ <;> omega
  · rw [zq]; rw [za] at h; rw [zb'] at h'; cases s <;> cases t <;> simp [o_sgT, o_sgF] at h h' ⊢ <;> omega
  · rw [zq]; rw [za] at h; rw [zb'] at h'; cases s <;> cases t <;> simp [o_sgT, o_sgF] at h h' ⊢ <;> omega
  · rw [zq]; rw [za] at h; rw [zb'] at h'; cases s <;> cases t <;> simp [o_sgT, o_sgF] at h h' ⊢ <;> omega
theorem o_ddiv {a b : UInt64} {N : Int} (ha : Core.DFin a) (hb : Core.DFin b) (hz : oz b ≠ 0) (hN : oz a * (Core.one64 : Int) = N * oz b) (h : oRep N) : Core.DFin (FP.ddiv a b) ∧ oz (FP.ddiv a b) = N := by
  obtain ⟨V, fV, vV, eV⟩ := h
  have hm := congrArg Int.natAbs hN
  rw [Int.natAbs_mul, Int.natAbs_mul, Int.natAbs_natCast] at hm
  have eV' : Core.zmag Core.b64 V = N.natAbs := by rw [← eV]; exact (Core.natAbs_signed _ _).symm
  have l := o_ddiv_le ha hb hz fV (o_ne_of_fin vV) (by rw [eV', hm]; exact Nat.le_refl _)
  have g := o_ddiv_ge ha hb hz fV (by rw [eV', hm]; exact Nat.le_refl _)
  have hM : (oz (FP.ddiv a b)).natAbs = N.natAbs := by rw [← eV']; exact Nat.le_antisymm l g
  obtain ⟨s1, s2, s3, s4, s5⟩ := o_ddiv_sgn ha hb hz
  have hp : (0 : Int) < (Core.one64 : Int) := by have := Core.one64_pos; omega
  have hsg : oz (FP.ddiv a b) = N := by
    rcases Int.lt_trichotomy (oz a) 0 with h1 | h1 | h1
    · rcases Int.lt_trichotomy (oz b) 0 with h2 | h2 | h2
      · have := s4 h1 h2
        have h3 : ¬ N < 0 := fun hn => by
          have := Int.mul_pos_of_neg_of_neg hn h2
          have := Int.mul_neg_of_neg_of_pos h1 hp
          omega
        omega
      · exact absurd h2 hz
      · have := s2 h1 h2
        have h3 : ¬ 0 < N := fun hn => by
          have := Int.mul_pos hn h2
          have := Int.mul_neg_of_neg_of_pos h1 hp
          omega
        omega
    · have := s5 h1; omega
    · rcases Int.lt_trichotomy (oz b) 0 with h2 | h2 | h2
      · have := s3 h1 h2
        have h3 : ¬ 0 < N := fun hn => by
          have := Int.mul_neg_of_pos_of_neg hn h2
          have := Int.mul_pos h1 hp
          omega
        omega
      · exact absurd h2 hz
      · have := s1 (Int.le_of_lt h1) h2
        have h3 : ¬ N < 0 := fun hn => by
          have := Int.mul_neg_of_neg_of_pos hn h2
          have := Int.mul_pos h1 hp
          omega
        omega
  refine ⟨?_, hsg⟩
  exact o_val_fin (val64_no.mp (o_ddiv_nn ha hb hz)) fV vV (by rw [eV]; exact hsg)
/-! numbers n / 2^k -/
/-- a's value is n / 2^k -/
def oR (n : Int) (k : Nat) (a : UInt64) : Prop := Core.DFin a ∧ oz a * ((2 ^ k : Nat) : Int) = n * (Core.one64 : Int)
theorem o_pow_pos (k : Nat) : (0 : Int) < ((2 ^ k : Nat) : Int) := by have := Nat.two_pow_pos k; omega
theorem oR.fin {n : Int} {k : Nat} {a : UInt64} (h : oR n k a) : Core.DFin a := h.1
theorem oR.nn {n : Int} {k : Nat} {a : UInt64} (h : oR n k a) : NoNaN64 a := o_fin_nn h.1
theorem o_one (k : Nat) (hk : k ≤ 1074) : (Core.one64 : Int) = ((2 ^ (1074 - k) : Nat) : Int) * ((2 ^ k : Nat) : Int) := by
  rw [← Int.natCast_mul, ← Nat.pow_add, show 1074 - k + k = 1074 by omega]; rfl
theorem oR.z {n : Int} {k : Nat} {a : UInt64} (h : oR n k a) (hk : k ≤ 1074) : oz a = n * ((2 ^ (1074 - k) : Nat) : Int) := by
  have := h.2
  rw [o_one k hk, ← Int.mul_assoc] at this
  exact Int.eq_of_mul_eq_mul_right (Int.ne_of_gt (o_pow_pos k)) this
theorem oR.mk' {n : Int} {k : Nat} {a : UInt64} (f : Core.DFin a) (hk : k ≤ 1074) (h : oz a = n * ((2 ^ (1074 - k) : Nat) : Int)) : oR n k a := ⟨f, by rw [h, o_one k hk, Int.mul_assoc]⟩
theorem oRep.dy {n : Int} {k : Nat} (hn : n.natAbs ≤ 2 ^ 53) (hk : k ≤ 1074) : oRep (n * ((2 ^ (1074 - k) : Nat) : Int)) :=
  oRep.of (c := n.natAbs) (t := 1074 - k) (by rw [Int.natAbs_mul, Int.natAbs_natCast]) hn (by omega)
theorem oR.up {n : Int} {k : Nat} {a : UInt64} (h : oR n k a) (j : Nat) : oR (n * ((2 ^ j : Nat) : Int)) (k + j) a := ⟨h.1, by
  rw [Nat.pow_add, Int.natCast_mul, ← Int.mul_assoc, h.2, Int.mul_right_comm]⟩
theorem oR.cast {n n' : Int} {k : Nat} {a : UInt64} (h : oR n k a) (e : n = n') : oR n' k a := e ▸ h
theorem oR.int {i : Int} {a : UInt64} (h : Core.DInt i a) : oR i 0 a := by
  refine ⟨?_, ?_⟩
  · show ∃ s c q, Core.val64 a = .fin s c q
    have h' : Core.Whole i (Core.val64 a) := h
    cases e : Core.val64 a with
    | nan => rw [e] at h'; exact h'.elim
    | inf s => rw [e] at h'; exact h'.elim
    | fin s c q => exact ⟨s, c, q, rfl⟩
  · rw [show oz a = i * (Core.one64 : Int) from Core.DInt_zval h]; simp
theorem oR.i2d (x : Int32) : oR x.toInt 0 (FP.i2d x) := .int (Core.i2d_int x)
theorem oR.l2d {x : Int64} (h : x.toInt.natAbs ≤ 2 ^ 53) : oR x.toInt 0 (FP.l2d x) := .int (Core.l2d_int h)
theorem oR.add {n n' : Int} {k : Nat} {a b : UInt64} (ha : oR n k a) (hb : oR n' k b) (h : (n + n').natAbs ≤ 2 ^ 53) (hk : k ≤ 1074) : oR (n + n') k (FP.dadd a b) := by
  have e : oz a + oz b = (n + n') * ((2 ^ (1074 - k) : Nat) : Int) := by rw [ha.z hk, hb.z hk, Int.add_mul]
  obtain ⟨f, z⟩ := o_dadd ha.1 hb.1 (by rw [e]; exact oRep.dy h hk)
  exact .mk' f hk (z.trans e)
theorem oR.sub {n n' : Int} {k : Nat} {a b : UInt64} (ha : oR n k a) (hb : oR n' k b) (h : (n - n').natAbs ≤ 2 ^ 53) (hk : k ≤ 1074) : oR (n - n') k (FP.dsub a b) := by
  have e : oz a - oz b = (n - n') * ((2 ^ (1074 - k) : Nat) : Int) := by rw [ha.z hk, hb.z hk, Int.sub_mul]
  obtain ⟨f, z⟩ := o_dsub ha.1 hb.1 (by rw [e]; exact oRep.dy h hk)
  exact .mk' f hk (z.trans e)
theorem oR.mul {n n' : Int} {k k' : Nat} {a b : UInt64} (ha : oR n k a) (hb : oR n' k' b) (h : (n * n').natAbs ≤ 2 ^ 53) (hk : k + k' ≤ 1074) : oR (n * n') (k + k') (FP.dmul a b) := by
  have e : oz a * oz b = n * n' * ((2 ^ (1074 - (k + k')) : Nat) : Int) * (Core.one64 : Int) := by
    rw [ha.z (by omega), hb.z (by omega)]
    have e1 : (Core.one64 : Int) = ((2 ^ 1074 : Nat) : Int) := rfl
    rw [e1, Int.mul_assoc (n * n'), ← Int.natCast_mul, ← Nat.pow_add]
    have e2 : n * ((2 ^ (1074 - k) : Nat) : Int) * (n' * ((2 ^ (1074 - k') : Nat) : Int)) = n * n' * (((2 ^ (1074 - k) : Nat) : Int) * ((2 ^ (1074 - k') : Nat) : Int)) := by
      generalize ((2 ^ (1074 - k) : Nat) : Int) = X; generalize ((2 ^ (1074 - k') : Nat) : Int) = Y
      rw [Int.mul_assoc, ← Int.mul_assoc X, Int.mul_comm X n', Int.mul_assoc n' X Y, ← Int.mul_assoc n n']
    rw [e2, ← Int.natCast_mul, ← Nat.pow_add, show 1074 - k + (1074 - k') = 1074 - (k + k') + 1074 by omega]
  obtain ⟨f, z⟩ := o_dmul ha.1 hb.1 e (oRep.dy h hk)
  exact .mk' f hk z
/-- an exact quotient: n / n' = g / 2^j -/
theorem oR.div {n n' g : Int} {k j : Nat} {a b : UInt64} (ha : oR n k a) (hb : oR n' k b) (hz : n' ≠ 0) (e : n * ((2 ^ j : Nat) : Int) = g * n') (h : g.natAbs ≤ 2 ^ 53) (hk : k ≤ 1074) (hj : j ≤ 1074) : oR g j (FP.ddiv a b) := by
  have zb : oz b ≠ 0 := fun q => by
    rw [hb.z hk] at q
    rcases Int.mul_eq_zero.mp q with q | q
    · exact hz q
    · have := o_pow_pos (1074 - k); omega
  have E : oz a * (Core.one64 : Int) = g * ((2 ^ (1074 - j) : Nat) : Int) * oz b := by
    rw [ha.z hk, hb.z hk, o_one j hj]
    generalize ((2 ^ (1074 - k) : Nat) : Int) = X
    generalize ((2 ^ (1074 - j) : Nat) : Int) = Y at *
    generalize ((2 ^ j : Nat) : Int) = J at *
    have : n * X * (Y * J) = n * J * (X * Y) := by
      rw [Int.mul_assoc, Int.mul_assoc, Int.mul_comm Y J, ← Int.mul_assoc X, Int.mul_comm X J, Int.mul_assoc J]
    rw [this, e]
    rw [Int.mul_assoc, Int.mul_assoc, ← Int.mul_assoc Y, Int.mul_comm Y n', Int.mul_assoc n' Y, Int.mul_comm Y X]
  obtain ⟨f, z⟩ := o_ddiv ha.1 hb.1 zb E (oRep.dy h hj)
  exact .mk' f hj z
theorem oR.ne0 {n : Int} {k : Nat} {a : UInt64} (h : oR n k a) (hn : n ≠ 0) (hk : k ≤ 1074) : oz a ≠ 0 := fun q => by
  rw [h.z hk] at q
  rcases Int.mul_eq_zero.mp q with q | q
  · exact hn q
  · have := o_pow_pos (1074 - k); omega
theorem oR.cmp {n n' : Int} {k : Nat} {a b : UInt64} (ha : oR n k a) (hb : oR n' k b) (hk : k ≤ 1074) : FP.dcmp a b = some (compare n n') := by
  have h1 : FP.dcmp a b = some (compare (oz a) (oz b)) := Core.dcmp_zval (o_fin_ne ha.1) (o_fin_ne hb.1)
  rw [h1, ha.z hk, hb.z hk, Core.compare_mul_pos _ _ _ (o_pow_pos _)]
theorem o_cmpV {f : CmpOp} {a b : UInt64} {n n' : Int} (h : FP.dcmp a b = some (compare n n')) : cmpValue (FP.dcmp a b) f = if n < n' then -1 else if n = n' then 0 else 1 := by
  rw [h]
  by_cases h1 : n < n'
  · rw [if_pos h1, (Core.compare_lt_iff n n').mpr h1]; rfl
  · rw [if_neg h1]
    by_cases h2 : n = n'
    · rw [if_pos h2, (Core.compare_eq_iff n n').mpr h2]; rfl
    · rw [if_neg h2, (Core.compare_gt_iff n n').mpr (by omega)]; rfl
theorem oR.cv {f : CmpOp} {n n' : Int} {k : Nat} {a b : UInt64} (ha : oR n k a) (hb : oR n' k b) (hk : k ≤ 1074 := by decide) : cmpValue (FP.dcmp a b) f = if n < n' then -1 else if n = n' then 0 else 1 := o_cmpV (ha.cmp hb hk)
theorem oR.eq0 {f : CmpOp} {n n' : Int} {k : Nat} {a b : UInt64} (ha : oR n k a) (hb : oR n' k b) (e : n = n') (hk : k ≤ 1074 := by decide) : cmpValue (FP.dcmp a b) f = 0 := by
  rw [ha.cv hb hk, if_neg (by omega), if_pos e]
theorem oR.zero : oR 0 0 FP.dconst0 := by
  have : Core.DInt 0 FP.dconst0 := by
    show Core.Whole 0 (Core.val64 Core.dconst0)
    rw [Core.val64_dconst0]; show Core.signed false (0 * _) = 0 * _; rw [Nat.zero_mul, o_sgF]; simp
  exact .int this
theorem oR.one : oR 1 0 FP.dconst1 := .int Core.dint_one
theorem oR.uniq {n : Int} {k : Nat} {a b : UInt64} (ha : oR n k a) (hb : oR n k b) (hn : n ≠ 0) (hk : k ≤ 1074) : oz a = oz b := by rw [ha.z hk, hb.z hk]
theorem o_cvz {f : CmpOp} {a b : UInt64} (ha : NoNaN64 a) (hb : NoNaN64 b) : cmpValue (FP.dcmp a b) f = if oz a < oz b then -1 else if oz a = oz b then 0 else 1 :=
  o_cmpV (Core.dcmp_zval (val64_no.mp ha) (val64_no.mp hb))
theorem o_zx {n : Nat} {x : UInt64} (hx : oR (n : Int) 0 x) : oz x = ((n * 2 ^ 1074 : Nat) : Int) := by
  have h := hx.z (by decide)
  rw [h, ← Int.natCast_mul]
theorem o_rep {g k : Nat} (hg : g ≤ 2 ^ 53) (hk : k ≤ 1074) : ∃ V : Core.Datum, Core.fits Core.b64 V ∧ (∃ s c q, V = .fin s c q) ∧ Core.zmag Core.b64 V = g * 2 ^ (1074 - k) := by
  obtain ⟨V, fV, vV, eV⟩ := oRep.dy (n := (g : Int)) (k := k) (by rw [Int.natAbs_natCast]; exact hg) hk
  refine ⟨V, fV, vV, ?_⟩
  have h := congrArg Int.natAbs eV
  rw [← Int.natCast_mul, Int.natAbs_natCast] at h
  rw [← h]; exact (Core.natAbs_signed _ _).symm
theorem o_U (k : Nat) (hk : k ≤ 1074) : (2 : Nat) ^ 1074 = 2 ^ k * 2 ^ (1074 - k) := by rw [← Nat.pow_add, show k + (1074 - k) = 1074 by omega]
theorem o_div_le {n m g k : Nat} {x y : UInt64} (hx : oR (n : Int) 0 x) (hy : oR (m : Int) 0 y) (hm : 0 < m) (hg : g ≤ 2 ^ 53) (hk : k ≤ 1074) (h : n * 2 ^ k ≤ g * m) : 0 ≤ oz (FP.ddiv x y) ∧ oz (FP.ddiv x y) ≤ ((g * 2 ^ (1074 - k) : Nat) : Int) := by
  have zx := o_zx hx
  have zy := o_zx hy
  have pm : 0 < m * 2 ^ 1074 := Nat.mul_pos hm (Nat.two_pow_pos _)
  have ny : oz y ≠ 0 := by rw [zy]; exact Int.ne_of_gt (Int.ofNat_lt.mpr pm)
  obtain ⟨V, fV, vV, zV⟩ := o_rep hg hk
  have l := o_ddiv_le hx.1 hy.1 ny fV (o_ne_of_fin vV) (by
    rw [zx, zy, zV, Int.natAbs_natCast, Int.natAbs_natCast]
    show n * 2 ^ 1074 * 2 ^ 1074 ≤ g * 2 ^ (1074 - k) * (m * 2 ^ 1074)
    have hU := o_U k hk
    generalize (2 : Nat) ^ 1074 = U at *
    generalize (2 : Nat) ^ (1074 - k) = B at *
    generalize (2 : Nat) ^ k = A at *
    have e1 : n * U * U = n * A * (B * U) := by rw [hU, ← Nat.mul_assoc n A B, Nat.mul_assoc (n * A) B]
    have e2 : g * B * (m * U) = g * m * (B * U) := by rw [Nat.mul_assoc, ← Nat.mul_assoc B m, Nat.mul_comm B m, Nat.mul_assoc m B, ← Nat.mul_assoc g m]
    rw [e1, e2]; exact Nat.mul_le_mul_right _ h)
  rw [zV] at l
  have s := (o_ddiv_sgn hx.1 hy.1 ny).1 (by rw [zx]; exact Int.natCast_nonneg _) (by rw [zy]; exact Int.ofNat_lt.mpr pm)
  generalize oz (FP.ddiv x y) = D at *
  generalize g * 2 ^ (1074 - k) = G at *
  omega
theorem o_div_ge {n m g k : Nat} {x y : UInt64} (hx : oR (n : Int) 0 x) (hy : oR (m : Int) 0 y) (hm : 0 < m) (hg : g ≤ 2 ^ 53) (hk : k ≤ 1074) (h : g * m ≤ n * 2 ^ k) : ((g * 2 ^ (1074 - k) : Nat) : Int) ≤ oz (FP.ddiv x y) := by
  have zx := o_zx hx
  have zy := o_zx hy
  have pm : 0 < m * 2 ^ 1074 := Nat.mul_pos hm (Nat.two_pow_pos _)
  have ny : oz y ≠ 0 := by rw [zy]; exact Int.ne_of_gt (Int.ofNat_lt.mpr pm)
  obtain ⟨V, fV, vV, zV⟩ := o_rep hg hk
  have l := o_ddiv_ge hx.1 hy.1 ny fV (by
    rw [zx, zy, zV, Int.natAbs_natCast, Int.natAbs_natCast]
    show g * 2 ^ (1074 - k) * (m * 2 ^ 1074) ≤ n * 2 ^ 1074 * 2 ^ 1074
    have hU := o_U k hk
    generalize (2 : Nat) ^ 1074 = U at *
    generalize (2 : Nat) ^ (1074 - k) = B at *
    generalize (2 : Nat) ^ k = A at *
    have e1 : n * U * U = n * A * (B * U) := by rw [hU, ← Nat.mul_assoc n A B, Nat.mul_assoc (n * A) B]
    have e2 : g * B * (m * U) = g * m * (B * U) := by rw [Nat.mul_assoc, ← Nat.mul_assoc B m, Nat.mul_comm B m, Nat.mul_assoc m B, ← Nat.mul_assoc g m]
    rw [e1, e2]; exact Nat.mul_le_mul_right _ h)
  rw [zV] at l
  have s := (o_ddiv_sgn hx.1 hy.1 ny).1 (by rw [zx]; exact Int.natCast_nonneg _) (by rw [zy]; exact Int.ofNat_lt.mpr pm)
  generalize oz (FP.ddiv x y) = D at *
  generalize g * 2 ^ (1074 - k) = G at *
  omega
theorem o_div_nn {n m : Nat} {x y : UInt64} (hx : oR (n : Int) 0 x) (hy : oR (m : Int) 0 y) (hm : 0 < m) : NoNaN64 (FP.ddiv x y) :=
  o_ddiv_nn hx.1 hy.1 (by rw [o_zx hy]; exact Int.ne_of_gt (Int.ofNat_lt.mpr (Nat.mul_pos hm (Nat.two_pow_pos _))))
theorem o_oz1 : oz FP.dconst1 = ((2 ^ 1074 : Nat) : Int) := by have := o_zx (n := 1) oR.one; rw [this, Nat.one_mul]
theorem o_oz0 : oz FP.dconst0 = 0 := by have := o_zx (n := 0) oR.zero; rw [this, Nat.zero_mul]; rfl
/-- n / m for 0 ≤ n < m: below 1, and above 0 where n is -/
theorem o_frac {n m : Nat} {x y : UInt64} (hx : oR (n : Int) 0 x) (hy : oR (m : Int) 0 y) (h : n < m) (hm : m ≤ 2 ^ 53) : 0 ≤ oz (FP.ddiv x y) ∧ oz (FP.ddiv x y) < oz FP.dconst1 ∧ (0 < n → 0 < oz (FP.ddiv x y)) := by
  have l := o_div_le (g := 2 ^ 53 - 1) (k := 53) hx hy (by omega) (by omega) (by decide) (by
    have e : (2 ^ 53 - 1) * m = 2 ^ 53 * m - m := by rw [Nat.sub_mul, Nat.one_mul]
    have e2 : n * 2 ^ 53 + 2 ^ 53 ≤ 2 ^ 53 * m := by rw [Nat.mul_comm (2 ^ 53) m, ← Nat.succ_mul]; exact Nat.mul_le_mul_right _ h
    rw [e]; exact Nat.le_trans (Nat.le_sub_of_add_le e2) (Nat.sub_le_sub_left hm _))
  refine ⟨l.1, ?_, fun hn => ?_⟩
  · rw [o_oz1]
    refine Int.lt_of_le_of_lt l.2 (Int.ofNat_lt.mpr ?_)
    rw [o_U 53 (by decide)]
    exact Nat.mul_lt_mul_of_pos_right (by decide) (Nat.two_pow_pos _)
  · have g := o_div_ge (g := 1) (k := 53) hx hy (by omega) (by decide) (by decide) (by rw [Nat.one_mul]; exact Nat.le_trans hm (Nat.le_mul_of_pos_left _ hn))
    have p : 0 < 1 * 2 ^ (1074 - 53) := by rw [Nat.one_mul]; exact Nat.two_pow_pos _
    exact Int.lt_of_lt_of_le (Int.ofNat_lt.mpr p) g
/-- quotients of one value round alike -/
theorem o_div_same {x y x' y' : UInt64} (hx : Core.DFin x) (hy : Core.DFin y) (hx' : Core.DFin x') (hy' : Core.DFin y') (zy : 0 < oz y) (zy' : 0 < oz y') (px : 0 ≤ oz x) (px' : 0 ≤ oz x') (h : oz x * oz y' = oz x' * oz y) : oz (FP.ddiv x y) = oz (FP.ddiv x' y') := by
  have n1 : oz y ≠ 0 := by omega
  have n2 : oz y' ≠ 0 := by omega
  by_cases h0 : oz x = 0
  · have h1 : oz x' = 0 := by
      rw [h0, Int.zero_mul] at h
      rcases Int.mul_eq_zero.mp h.symm with q | q
      · exact q
      · exact absurd q n1
    rw [(o_ddiv_sgn hx hy n1).2.2.2.2 h0, (o_ddiv_sgn hx' hy' n2).2.2.2.2 h1]
  · have h1 : oz x' ≠ 0 := fun q => by
      rw [q, Int.zero_mul] at h
      rcases Int.mul_eq_zero.mp h with q | q
      · exact h0 q
      · exact n2 q
    obtain ⟨s, t, c, q, d, r, e1, e2, hd, e3⟩ := o_quot hx hy n1
    obtain ⟨s', t', c', q', d', r', e1', e2', hd', e3'⟩ := o_quot hx' hy' n2
    have f1 : Core.b64.qmin ≤ q := (o_zmag e1).2
    have f2 : Core.b64.qmin ≤ r := (o_zmag e2).2
    have f1' : Core.b64.qmin ≤ q' := (o_zmag e1').2
    have f2' : Core.b64.qmin ≤ r' := (o_zmag e2').2
    have sg : ∀ {a : UInt64} {s : Bool} {c : Nat} {q : Int}, Core.val64 a = .fin s c q → 0 < oz a → s = false ∧ oz a = ((c * 2 ^ (q - Core.b64.qmin).toNat : Nat) : Int) := by
      intro a s c q e p
      have z : oz a = Core.signed s (c * 2 ^ (q - Core.b64.qmin).toNat) := by show Core.zval Core.b64 (Core.val64 a) = _; rw [e]; rfl
      rw [z] at p ⊢
      obtain ⟨p1, p2⟩ := Core.signed_pos p
      refine ⟨?_, p1⟩
      cases s
      · rfl
      · rw [p1] at p; rw [o_sgT] at p1; omega
    obtain ⟨rfl, z1⟩ := sg e1 (by omega)
    obtain ⟨rfl, z2⟩ := sg e2 zy
    obtain ⟨rfl, z1'⟩ := sg e1' (by omega)
    obtain ⟨rfl, z2'⟩ := sg e2' zy'
    rw [z1, z2, z1', z2', ← Int.natCast_mul, ← Int.natCast_mul] at h
    have h2 := Int.ofNat.inj h
    have key : c * d' * 2 ^ ((q - r) - (q' - r')).toNat = c' * d * 2 ^ ((q' - r') - (q - r)).toNat := by
      have hp : 0 < 2 ^ (min (q + r') (q' + r) - 2 * Core.b64.qmin).toNat := Nat.two_pow_pos _
      apply Nat.eq_of_mul_eq_mul_right hp
      rw [Nat.mul_assoc (c * d'), ← Nat.pow_add, Nat.mul_assoc (c' * d), ← Nat.pow_add]
      rw [show ((q - r) - (q' - r')).toNat + (min (q + r') (q' + r) - 2 * Core.b64.qmin).toNat = (q - Core.b64.qmin).toNat + (r' - Core.b64.qmin).toNat by omega]
      rw [show ((q' - r') - (q - r)).toNat + (min (q + r') (q' + r) - 2 * Core.b64.qmin).toNat = (q' - Core.b64.qmin).toNat + (r - Core.b64.qmin).toNat by omega]
      rw [Nat.pow_add, Nat.pow_add]
      generalize 2 ^ (q - Core.b64.qmin).toNat = A at *
      generalize 2 ^ (r' - Core.b64.qmin).toNat = B at *
      generalize 2 ^ (q' - Core.b64.qmin).toNat = A' at *
      generalize 2 ^ (r - Core.b64.qmin).toNat = B' at *
      rw [show c * d' * (A * B) = c * A * (d' * B) by rw [Nat.mul_assoc, Nat.mul_assoc, Nat.mul_left_comm d' A B]]
      rw [show c' * d * (A' * B') = c' * A' * (d * B') by rw [Nat.mul_assoc, Nat.mul_assoc, Nat.mul_left_comm d A' B']]
      exact h2
    have e4 := Core.roundRatio_congr (f := Core.b64) (s := (false != false)) (A := c) (B := d) (A' := c') (B' := d') (e := q - r) (e' := q' - r') (Nat.pos_of_ne_zero hd) (Nat.pos_of_ne_zero hd') key
    show Core.zval Core.b64 (Core.val64 (FP.ddiv x y)) = Core.zval Core.b64 (Core.val64 (FP.ddiv x' y'))
    rw [e3, e3', e4]
/-- an exact product, its value said as g / 2^j -/
theorem oR.mulTo {n n' g : Int} {k k' j : Nat} {a b : UInt64} (ha : oR n k a) (hb : oR n' k' b) (e : n * n' * ((2 ^ j : Nat) : Int) = g * ((2 ^ (k + k') : Nat) : Int)) (h : g.natAbs ≤ 2 ^ 53) (hk : k + k' ≤ 1074) (hj : j ≤ 1074) : oR g j (FP.dmul a b) := by
  have E : oz a * oz b = g * ((2 ^ (1074 - j) : Nat) : Int) * (Core.one64 : Int) := by
    have p := o_pow_pos (k + k')
    have p2 := o_pow_pos j
    have h1 := ha.2
    have h2 := hb.2
    have h3 : oz a * oz b * ((2 ^ (k + k') : Nat) : Int) = n * n' * ((Core.one64 : Int) * (Core.one64 : Int)) := by
      rw [Nat.pow_add, Int.natCast_mul]
      generalize ((2 ^ k : Nat) : Int) = X at *
      generalize ((2 ^ k' : Nat) : Int) = Y at *
      generalize (Core.one64 : Int) = U at *
      calc oz a * oz b * (X * Y) = oz a * X * (oz b * Y) := by rw [Int.mul_assoc, Int.mul_assoc, Int.mul_left_comm (oz b) X Y]
        _ = n * U * (n' * U) := by rw [h1, h2]
        _ = n * n' * (U * U) := by rw [Int.mul_assoc, Int.mul_assoc, Int.mul_left_comm U n' U]
    apply Int.eq_of_mul_eq_mul_right (Int.ne_of_gt p)
    rw [h3]
    apply Int.eq_of_mul_eq_mul_right (Int.ne_of_gt p2)
    have hU := o_one j hj
    generalize ((2 ^ (k + k') : Nat) : Int) = K at *
    generalize ((2 ^ j : Nat) : Int) = J at *
    generalize ((2 ^ (1074 - j) : Nat) : Int) = B at *
    generalize (Core.one64 : Int) = U at *
    calc n * n' * (U * U) * J = n * n' * J * (U * U) := by rw [Int.mul_right_comm]
      _ = g * K * (U * U) := by rw [e]
      _ = g * K * (U * (B * J)) := by rw [← hU]
      _ = g * B * U * K * J := by
        rw [Int.mul_assoc g K, Int.mul_assoc g B, Int.mul_assoc g (B * U), Int.mul_assoc g]
        congr 1
        rw [Int.mul_comm K, Int.mul_comm B U, Int.mul_assoc U B J |>.symm, Int.mul_right_comm (U * B) J K]
  obtain ⟨f, z⟩ := o_dmul ha.1 hb.1 E (oRep.dy h hj)
  exact .mk' f hj z
end OwnFP

theorem o_mul_abs {a b : Int} {A B : Nat} (ha : a.natAbs ≤ A) (hb : b.natAbs ≤ B) : (a * b).natAbs ≤ A * B := by rw [Int.natAbs_mul]; exact Nat.mul_le_mul ha hb
theorem fs_Bm25_Rounding {Z : State} {a0 : Array Value} (hw : ∀ d ∈ tables_1, d.before a0 Z = true) : ∀ t ∈ ([("com/example/lucid_passage/lucidpassage/Bm25$Rounding", "fixed", "D", (.double 0)), ("com/example/lucid_passage/lucidpassage/Bm25$Rounding", "share", "D", (.double 0))] : oFs), Laid Z a0 "com/example/lucid_passage/lucidpassage/Bm25$Rounding" t.1 t.2.1 t.2.2.1 ∧ ∃ ty, parseFieldDescriptor t.2.2.1 = some ty ∧ defaultValue ty = t.2.2.2 := by
  intro t ht
  simp only [List.mem_cons, List.not_mem_nil, or_false] at ht
  rcases ht with rfl | rfl
  · exact ⟨Or.inr (hw _ (List.mem_of_getElem? (i := 15) rfl)), .double, by first | decide | decide +kernel, rfl⟩
  · exact ⟨Or.inr (hw _ (List.mem_of_getElem? (i := 17) rfl)), .double, by first | decide | decide +kernel, rfl⟩
theorem d2_0 : decode jdk_30_method_1_code 0 = .ok (.aload_n 0, 1) := by decide +kernel
theorem d2_1 : decode jdk_30_method_1_code 1 = .ok (.invokespecial 1, 3) := by decide +kernel
theorem d2_4 : decode jdk_30_method_1_code 4 = .ok (.return_, 1) := by decide +kernel
theorem pn_2 : plainName "java/lang/Record" = true := by first | (simp [plainName, overriddenIn]; done) | decide +kernel
theorem pd_2 : parseMethodDescriptor "()V" = some ⟨[], none⟩ := by decide +kernel
set_option maxHeartbeats 4000000 in
theorem ef_2 (m : MethodId) (x0 : Addr) : entryFrame m ([(.ref x0)] : List Value).toArray 1 = mkF m 0 #[.val (.ref x0)] [] := by first | (simp [entryFrame, mkF, argsToLocals, Value.category, maxLocals]; done) | rfl
set_option maxHeartbeats 40000000 in
theorem rm2 (l : Launch) (Z : State) (a0 : Array Value) (hw : ∀ d ∈ tables_1, d.before a0 Z = true) (a1 : Addr) (L : List oEnt) :
    oMeets l Z (⟨"java/lang/Record", "<init>", "()V"⟩ : MethodName) jdk_30_method_1_code 1 none ({ frames := 1, cells := 0, slots := 0, locals := 13 } : Room) [(.ref a1)] L (fun v L' => v = none ∧ L = L') := by
  refine oMeets.of (y := (⟨"java/lang/Record", "<init>", "()V"⟩ : MethodName)) (plainFor_of_name pn_2) fun p e s m below meth c T cx o => ?_
  refine oGo.top (ef_2 m _) ?_
  refine g_aloadN cx o (pc' := 1) d2_0 rfl rfl rfl ?_
  refine g_initO cx o (pc' := 4) (hw _ (List.mem_of_getElem? (i := 11) rfl)) (hw _ (List.mem_of_getElem? (i := 12) rfl)) (hw _ (List.mem_of_getElem? (i := 13) rfl)) rfl 0 (Nat.le_of_eq rfl) (by decide) (by decide) d2_1 rfl (fun T o => ?_)
  exact g_return cx o d2_4 (by decide) (by decide) ⟨rfl, rfl⟩
theorem d1_0 : decode prog_4_method_1_code 0 = .ok (.aload_n 0, 1) := by decide +kernel
theorem d1_1 : decode prog_4_method_1_code 1 = .ok (.invokespecial 1, 3) := by decide +kernel
theorem d1_4 : decode prog_4_method_1_code 4 = .ok (.aload_n 0, 1) := by decide +kernel
theorem d1_5 : decode prog_4_method_1_code 5 = .ok (.dload_n 1, 1) := by decide +kernel
theorem d1_6 : decode prog_4_method_1_code 6 = .ok (.putfield 7, 3) := by decide +kernel
theorem d1_9 : decode prog_4_method_1_code 9 = .ok (.aload_n 0, 1) := by decide +kernel
theorem d1_10 : decode prog_4_method_1_code 10 = .ok (.dload_n 3, 1) := by decide +kernel
theorem d1_11 : decode prog_4_method_1_code 11 = .ok (.putfield 13, 3) := by decide +kernel
theorem d1_14 : decode prog_4_method_1_code 14 = .ok (.return_, 1) := by decide +kernel
theorem pn_1 : plainName "com/example/lucid_passage/lucidpassage/Bm25$Rounding" = true := by first | (simp [plainName, overriddenIn]; done) | decide +kernel
theorem pd_1 : parseMethodDescriptor "(DD)V" = some ⟨[.double, .double], none⟩ := by decide +kernel
set_option maxHeartbeats 4000000 in
theorem ef_1 (m : MethodId) (x0 : Addr) (x1 : UInt64) (x2 : UInt64) : entryFrame m ([(.ref x0), (.double x1), (.double x2)] : List Value).toArray 5 = mkF m 0 #[.val (.ref x0), .val (.double x1), .second, .val (.double x2), .second] [] := by first | (simp [entryFrame, mkF, argsToLocals, Value.category, maxLocals]; done) | rfl
set_option maxHeartbeats 40000000 in
theorem rm1 (l : Launch) (Z : State) (a0 : Array Value) (hw : ∀ d ∈ tables_1, d.before a0 Z = true) (a1 : Addr) (p2 p3 : UInt64) (F : List oEnt) :
    oMeets l Z (⟨"com/example/lucid_passage/lucidpassage/Bm25$Rounding", "<init>", "(DD)V"⟩ : MethodName) prog_4_method_1_code 5 none ({ frames := 2, cells := 0, slots := 0, locals := 26 } : Room) [(.ref a1), (.double p2), (.double p3)] ((a1, oObj Z a0 "com/example/lucid_passage/lucidpassage/Bm25$Rounding" [("com/example/lucid_passage/lucidpassage/Bm25$Rounding", "fixed", "D", (.double 0)), ("com/example/lucid_passage/lucidpassage/Bm25$Rounding", "share", "D", (.double 0))]) :: F) (fun v L' => v = none ∧ L' = ((a1, oObj Z a0 "com/example/lucid_passage/lucidpassage/Bm25$Rounding" [("com/example/lucid_passage/lucidpassage/Bm25$Rounding", "fixed", "D", (.double p2)), ("com/example/lucid_passage/lucidpassage/Bm25$Rounding", "share", "D", (.double p3))]) :: F)) := by
  refine oMeets.of (y := (⟨"com/example/lucid_passage/lucidpassage/Bm25$Rounding", "<init>", "(DD)V"⟩ : MethodName)) (plainFor_of_name pn_1) fun p e s m below meth c T cx o => ?_
  refine oGo.top (ef_1 m _ _ _) ?_
  refine g_aloadN cx o (pc' := 1) d1_0 rfl rfl rfl ?_
  refine g_special cx o (pc' := 4) (y := (⟨"java/lang/Record", "<init>", "()V"⟩ : MethodName)) rfl (hw _ (List.mem_of_getElem? (i := 6) rfl)) (hw _ (List.mem_of_getElem? (i := 7) rfl)) (hw _ (List.mem_of_getElem? (i := 9) rfl)) (hw _ (List.mem_of_getElem? (i := 10) rfl)) (rm2 l Z a0 hw a1 _)  rfl pd_2 rfl (by decide) rfl 0 (Nat.le_of_eq rfl) (by decide) (by decide) (by decide) (by decide) d1_1 rfl (fun T v L hQ o => ?_)
  obtain ⟨rfl, rfl⟩ := hQ
  simp only [Option.toList_some, Option.toList_none, List.cons_append, List.nil_append]
  refine g_aloadN cx o (pc' := 5) d1_4 rfl rfl rfl ?_
  refine g_dloadN cx o (pc' := 6) d1_5 rfl rfl ?_
  refine g_putfield cx o (pc' := 9) (hw _ (List.mem_of_getElem? (i := 14) rfl)) (Or.inr ⟨(hw _ (List.mem_of_getElem? (i := 15) rfl)), rfl, rfl⟩) (hw _ (List.mem_of_getElem? (i := 1) rfl)) 0 0 rfl rfl ["fixed", "share"] rfl (by decide) (ty := .double) (by first | decide | decide +kernel) rfl rfl d1_6 rfl (fun T o => ?_)
  simp only [List.set_cons_zero, List.set_cons_succ] at o
  refine g_aloadN cx o (pc' := 10) d1_9 rfl rfl rfl ?_
  refine g_dloadN cx o (pc' := 11) d1_10 rfl rfl ?_
  refine g_putfield cx o (pc' := 14) (hw _ (List.mem_of_getElem? (i := 16) rfl)) (Or.inr ⟨(hw _ (List.mem_of_getElem? (i := 17) rfl)), rfl, rfl⟩) (hw _ (List.mem_of_getElem? (i := 1) rfl)) 0 1 rfl rfl ["fixed", "share"] rfl (by decide) (ty := .double) (by first | decide | decide +kernel) rfl rfl d1_11 rfl (fun T o => ?_)
  simp only [List.set_cons_zero, List.set_cons_succ] at o
  exact g_return cx o d1_14 (by decide) (by decide) ⟨rfl, rfl⟩
theorem d4_0 : decode prog_4_method_2_code 0 = .ok (.aload_n 0, 1) := by decide +kernel
theorem d4_1 : decode prog_4_method_2_code 1 = .ok (.getfield 7, 3) := by decide +kernel
theorem d4_4 : decode prog_4_method_2_code 4 = .ok (.aload_n 0, 1) := by decide +kernel
theorem d4_5 : decode prog_4_method_2_code 5 = .ok (.getfield 13, 3) := by decide +kernel
theorem d4_8 : decode prog_4_method_2_code 8 = .ok (.dload_n 1, 1) := by decide +kernel
theorem d4_9 : decode prog_4_method_2_code 9 = .ok (.dmul, 1) := by decide +kernel
theorem d4_10 : decode prog_4_method_2_code 10 = .ok (.dadd, 1) := by decide +kernel
theorem d4_11 : decode prog_4_method_2_code 11 = .ok (.dreturn, 1) := by decide +kernel
theorem pn_4 : plainName "com/example/lucid_passage/lucidpassage/Bm25$Rounding" = true := by first | (simp [plainName, overriddenIn]; done) | decide +kernel
theorem pd_4 : parseMethodDescriptor "(D)D" = some ⟨[.double], some .double⟩ := by decide +kernel
set_option maxHeartbeats 4000000 in
theorem ef_4 (m : MethodId) (x0 : Addr) (x1 : UInt64) : entryFrame m ([(.ref x0), (.double x1)] : List Value).toArray 3 = mkF m 0 #[.val (.ref x0), .val (.double x1), .second] [] := by first | (simp [entryFrame, mkF, argsToLocals, Value.category, maxLocals]; done) | rfl
set_option maxHeartbeats 40000000 in
theorem rm4 (l : Launch) (Z : State) (a0 : Array Value) (hw : ∀ d ∈ tables_1, d.before a0 Z = true) (a1 : Addr) (p2 p3 p4 : UInt64) (F : List oEnt) (hm : NoNaN64 (FP.dmul p3 p4)) (ha : NoNaN64 (FP.dadd p2 (FP.dmul p3 p4))) :
    oMeets l Z (⟨"com/example/lucid_passage/lucidpassage/Bm25$Rounding", "of", "(D)D"⟩ : MethodName) prog_4_method_2_code 3 (some .double) ({ frames := 0, cells := 0, slots := 0, locals := 0 } : Room) [(.ref a1), (.double p4)] ((a1, oObj Z a0 "com/example/lucid_passage/lucidpassage/Bm25$Rounding" [("com/example/lucid_passage/lucidpassage/Bm25$Rounding", "fixed", "D", (.double p2)), ("com/example/lucid_passage/lucidpassage/Bm25$Rounding", "share", "D", (.double p3))]) :: F) (fun v L' => v = some (.double (FP.dadd p2 (FP.dmul p3 p4))) ∧ L' = ((a1, oObj Z a0 "com/example/lucid_passage/lucidpassage/Bm25$Rounding" [("com/example/lucid_passage/lucidpassage/Bm25$Rounding", "fixed", "D", (.double p2)), ("com/example/lucid_passage/lucidpassage/Bm25$Rounding", "share", "D", (.double p3))]) :: F)) := by
  refine oMeets.of (y := (⟨"com/example/lucid_passage/lucidpassage/Bm25$Rounding", "of", "(D)D"⟩ : MethodName)) (plainFor_of_name pn_4) fun p e s m below meth c T cx o => ?_
  refine oGo.top (ef_4 m _ _) ?_
  refine g_aloadN cx o (pc' := 1) d4_0 rfl rfl rfl ?_
  refine g_getfield cx o (pc' := 4) (hw _ (List.mem_of_getElem? (i := 14) rfl)) 0 0 rfl rfl d4_1 rfl (fun T o => ?_)
  refine g_aloadN cx o (pc' := 5) d4_4 rfl rfl rfl ?_
  refine g_getfield cx o (pc' := 8) (hw _ (List.mem_of_getElem? (i := 16) rfl)) 0 1 rfl rfl d4_5 rfl (fun T o => ?_)
  refine g_dloadN cx o (pc' := 9) d4_8 rfl rfl ?_
  refine g_dmul cx o (pc' := 10) d4_9 rfl hm ?_
  refine g_dadd cx o (pc' := 11) d4_10 rfl ha ?_
  exact g_dreturn cx o d4_11 (by decide) (by decide) ⟨rfl, rfl⟩
theorem o_sh11 (y : Int32) : (y >>> ((11 : Int32) &&& 31)).toInt.natAbs ≤ 1048576 := by
  rw [Jvm.Kit.i32_shr y _ (k := 11) (by decide)]
  have h1 := y.toInt_lt
  have h2 := y.le_toInt
  omega
theorem pn_0 : plainName "com/example/lucid_passage/lucidpassage/RoundingOfPinLaw" = true := by first | (simp [plainName, overriddenIn]; done) | decide +kernel
theorem pd_0 : parseMethodDescriptor "(III)Z" = some ⟨[.int, .int, .int], some .boolean⟩ := by decide +kernel
set_option maxHeartbeats 4000000 in
theorem ef_0 (m : MethodId) (x0 : Int32) (x1 : Int32) (x2 : Int32) : entryFrame m ([(.int x0), (.int x1), (.int x2)] : List Value).toArray maxLocals = mkF m 0 #[.val (.int x0), .val (.int x1), .val (.int x2), .unset, .unset, .unset, .unset, .unset, .unset, .unset, .unset] [] := by first | (simp [entryFrame, mkF, argsToLocals, Value.category, maxLocals]; done) | rfl
set_option maxHeartbeats 40000000 in
theorem rm0 (l : Launch) (Z : State) (a0 : Array Value) (hw : ∀ d ∈ tables_1, d.before a0 Z = true) (p0 p1 p2 : Int32) :
    oMeets l Z x code maxLocals ret room_1 [(.int p0), (.int p1), (.int p2)] [] (fun v _ => v = some (.int 1)) := by
  refine oMeets.of (y := x) (plainFor_of_name pn_0) fun p e s m below meth c T cx o => ?_
  have cx : oCx p s m meth c Z "com/example/lucid_passage/lucidpassage/RoundingOfPinLaw" "law" code maxLocals ret := cx
  refine oGo.top (ef_0 m _ _ _) ?_
  refine g_iloadN cx o (pc' := 1) at_0 rfl rfl ?_
  refine g_bipush cx o (pc' := 3) (11 : Int32) at_1 rfl (by decide) ?_
  refine g_ishl cx o (pc' := 4) at_3 rfl ?_
  refine g_bipush cx o (pc' := 6) (11 : Int32) at_4 rfl (by decide) ?_
  refine g_ishr cx o (pc' := 7) at_6 rfl ?_
  refine g_istoreNV cx o (pc' := 8) (fun w' => #[.val (.int p0), .val (.int p1), .val (.int p2), .val (.int w'), .unset, .unset, .unset, .unset, .unset, .unset, .unset]) at_7 rfl (fun _ => rfl) (fun v1 h_v1 => ?_)
  refine g_iloadN cx o (pc' := 9) at_8 rfl rfl ?_
  refine g_bipush cx o (pc' := 11) (11 : Int32) at_9 rfl (by decide) ?_
  refine g_ishl cx o (pc' := 12) at_11 rfl ?_
  refine g_bipush cx o (pc' := 14) (11 : Int32) at_12 rfl (by decide) ?_
  refine g_ishr cx o (pc' := 15) at_14 rfl ?_
  refine g_istoreV cx o (pc' := 17) (fun w' => #[.val (.int p0), .val (.int p1), .val (.int p2), .val (.int v1), .val (.int w'), .unset, .unset, .unset, .unset, .unset, .unset]) at_15 rfl (fun _ => rfl) (fun v2 h_v2 => ?_)
  refine g_iloadN cx o (pc' := 18) at_17 rfl rfl ?_
  refine g_bipush cx o (pc' := 20) (11 : Int32) at_18 rfl (by decide) ?_
  refine g_ishl cx o (pc' := 21) at_20 rfl ?_
  refine g_bipush cx o (pc' := 23) (11 : Int32) at_21 rfl (by decide) ?_
  refine g_ishr cx o (pc' := 24) at_23 rfl ?_
  refine g_istoreV cx o (pc' := 26) (fun w' => #[.val (.int p0), .val (.int p1), .val (.int p2), .val (.int v1), .val (.int v2), .val (.int w'), .unset, .unset, .unset, .unset, .unset]) at_24 rfl (fun _ => rfl) (fun v3 h_v3 => ?_)
  have b1 : v1.toInt.natAbs ≤ 1048576 := by rw [h_v1]; exact o_sh11 _
  have b2 : v2.toInt.natAbs ≤ 1048576 := by rw [h_v2]; exact o_sh11 _
  have b3 : v3.toInt.natAbs ≤ 1048576 := by rw [h_v3]; exact o_sh11 _
  have b4 := o_mul_abs b2 b3
  have m1 : oR (v2.toInt * v3.toInt) 0 (FP.dmul (FP.i2d v2) (FP.i2d v3)) := (oR.i2d v2).mul (oR.i2d v3) (by omega) (by decide)
  have a1 : oR (v1.toInt + v2.toInt * v3.toInt) 0 (FP.dadd (FP.i2d v1) (FP.dmul (FP.i2d v2) (FP.i2d v3))) := (oR.i2d v1).add m1 (by omega) (by decide)
  refine g_new cx o (pc' := 29) (hw _ (List.mem_of_getElem? (i := 0) rfl)) (hw _ (List.mem_of_getElem? (i := 1) rfl)) (hw _ (List.mem_of_getElem? (i := 2) rfl)) (fs_Bm25_Rounding hw) (by decide) (by decide) at_26 rfl (fun T b1 o => ?_)
  refine g_dup cx o (pc' := 30) at_29 rfl rfl ?_
  refine g_iloadN cx o (pc' := 31) at_30 rfl rfl ?_
  refine g_i2d cx o (pc' := 32) at_31 rfl ?_
  refine g_iload cx o (pc' := 34) at_32 rfl rfl ?_
  refine g_i2d cx o (pc' := 35) at_34 rfl ?_
  refine g_special cx o (pc' := 38) (y := (⟨"com/example/lucid_passage/lucidpassage/Bm25$Rounding", "<init>", "(DD)V"⟩ : MethodName)) rfl (hw _ (List.mem_of_getElem? (i := 3) rfl)) (hw _ (List.mem_of_getElem? (i := 4) rfl)) (hw _ (List.mem_of_getElem? (i := 2) rfl)) (hw _ (List.mem_of_getElem? (i := 5) rfl)) (rm1 l Z a0 hw b1 _ _ _)  rfl pd_1 rfl (by decide) rfl 1 (Nat.le_of_eq rfl) (by decide) (by decide) (by decide) (by decide) at_35 rfl (fun T v L hQ o => ?_)
  obtain ⟨rfl, rfl⟩ := hQ
  simp only [Option.toList_some, Option.toList_none, List.cons_append, List.nil_append]
  refine g_astore cx o (pc' := 40) (l' := #[.val (.int p0), .val (.int p1), .val (.int p2), .val (.int v1), .val (.int v2), .val (.int v3), .val (.ref b1), .unset, .unset, .unset, .unset]) at_38 rfl rfl rfl ?_
  refine g_aload cx o (pc' := 42) at_40 rfl rfl rfl ?_
  refine g_iload cx o (pc' := 44) at_42 rfl rfl ?_
  refine g_i2d cx o (pc' := 45) at_44 rfl ?_
  refine g_virtual cx o (pc' := 48) (y := (⟨"com/example/lucid_passage/lucidpassage/Bm25$Rounding", "of", "(D)D"⟩ : MethodName)) (z := (⟨"com/example/lucid_passage/lucidpassage/Bm25$Rounding", "of", "(D)D"⟩ : MethodName)) (hw _ (List.mem_of_getElem? (i := 18) rfl)) (hw _ (List.mem_of_getElem? (i := 19) rfl)) (notFace_of_selects (args := #[]) (mvT cx.2.1 (hw _ (List.mem_of_getElem? (i := 21) rfl)))) (hw _ (List.mem_of_getElem? (i := 21) rfl)) (hw _ (List.mem_of_getElem? (i := 20) rfl)) (hw _ (List.mem_of_getElem? (i := 2) rfl)) (hw _ (List.mem_of_getElem? (i := 22) rfl)) 0 rfl (rm4 l Z a0 hw b1 _ _ _ _ m1.nn a1.nn)  rfl pd_4 rfl (by decide) rfl 0 (Nat.le_of_eq rfl) (by decide) (by decide) (by decide) (by decide) at_45 rfl (fun T v L hQ o => ?_)
  obtain ⟨rfl, rfl⟩ := hQ
  simp only [Option.toList_some, Option.toList_none, List.cons_append, List.nil_append]
  refine g_dstoreV cx o (pc' := 50) (fun w' => #[.val (.int p0), .val (.int p1), .val (.int p2), .val (.int v1), .val (.int v2), .val (.int v3), .val (.ref b1), .val (.double w'), .second, .unset, .unset]) at_48 rfl (fun _ => rfl) (fun f1 h_f1 => ?_)
  refine g_iloadN cx o (pc' := 51) at_50 rfl rfl ?_
  refine g_i2l cx o (pc' := 52) at_51 rfl ?_
  refine g_iload cx o (pc' := 54) at_52 rfl rfl ?_
  refine g_i2l cx o (pc' := 55) at_54 rfl ?_
  refine g_iload cx o (pc' := 57) at_55 rfl rfl ?_
  refine g_i2l cx o (pc' := 58) at_57 rfl ?_
  refine g_lmul cx o (pc' := 59) at_58 rfl ?_
  refine g_ladd cx o (pc' := 60) at_59 rfl ?_
  refine g_lstoreV cx o (pc' := 62) (fun w' => #[.val (.int p0), .val (.int p1), .val (.int p2), .val (.int v1), .val (.int v2), .val (.int v3), .val (.ref b1), .val (.double f1), .second, .val (.long w'), .second]) at_60 rfl (fun _ => rfl) (fun u1 h_u1 => ?_)
  refine g_dload cx o (pc' := 64) at_62 rfl rfl ?_
  refine g_lload cx o (pc' := 66) at_64 rfl rfl ?_
  refine g_l2d cx o (pc' := 67) at_66 rfl ?_
  refine g_dcmp cx o (pc' := 68) at_67 rfl ?_
  have e1 : (v2.toInt64 * v3.toInt64).toInt = v2.toInt * v3.toInt := by
    have q2 := Jvm.Kit.i64_of_i32 v2
    have q3 := Jvm.Kit.i64_of_i32 v3
    rw [Jvm.Kit.i64_mul (by rw [q2, q3]; omega) (by rw [q2, q3]; omega), q2, q3]
  have e2 : u1.toInt = v1.toInt + v2.toInt * v3.toInt := by
    have q1 := Jvm.Kit.i64_of_i32 v1
    rw [h_u1, Jvm.Kit.i64_add (by rw [q1, e1]; omega) (by rw [q1, e1]; omega), q1, e1]
  have r2 : oR u1.toInt 0 (FP.l2d u1) := oR.l2d (by rw [e2]; omega)
  have z : cmpValue (FP.dcmp f1 (FP.l2d u1)) .l = 0 := by rw [h_f1]; exact a1.eq0 r2 e2.symm
  refine g_if_ne cx o (pc' := 75) (pc2 := 71) at_68 (by decide) (by decide) rfl (fun c68 => absurd z c68) (fun c68 => ?_)
  refine g_iconst cx o (pc' := 72) (1 : Int32) at_71 rfl rfl ?_
  refine g_goto cx o (pc' := 76) at_72 (by decide) (by decide) ?_
  exact g_ireturnZ cx o at_76 (by decide) (by decide) (by decide) rfl
set_option maxHeartbeats 40000000 in
theorem comes_1 {Post : Tables → Env → Array Value → State → Outcome → State → Prop} (hpost : ∀ tb e args s v u, (limb_1_1.after args s (.returned v) u = true ∧ limb_1_2.after args s (.returned v) u = true ∧ True) → FrameEnd s (.returned v) u (Jvm.fieldLocs frame_1_writes args s ++ Jvm.arrayLocs frame_1_arrays args s ++ Jvm.staticLocs frame_1_statics s) 16 128 → Post tb e args s (.returned v) u) :
    ArmFor flags0 classFile x code maxLocals ret World_1 tables_1 room_1 Calls_1 rest_1 Pre_1 Post := by
  intro l hfl _ _ p e ha hc hk s m args below hf hA hF happ hP
  obtain ⟨hcalls, hrest, hpre⟩ := hP
  obtain ⟨-, -, -, hnamed, -, -, -, hat⟩ := (Spec.applies_iff hf).mp happ
  obtain ⟨hg, hn⟩ := and_e (Cond.before_iff.mp (show (Jvm.Cond.and given_1 narrow_1).before args s = true from hpre))
  obtain ⟨hg0, hg⟩ := and_e hg
  obtain ⟨w0, w1, w2, rfl⟩ : ∃ w0 w1 w2 : Value, args = #[w0, w1, w2] := by
    have hs : args.size = 3 := by simpa [Cond.value, given_1] using hg0
    obtain ⟨L⟩ := args
    match L, hs with
    | [w0, w1, w2], _ => exact ⟨w0, w1, w2, rfl⟩
  have hw := fun d (hd : d ∈ tables_1) => atoms_spec (ws := Jvm.Cond.code x code maxLocals ret :: tables_1) hat d (List.mem_cons_of_mem _ hd)
  have hfit : Fit s := fun {y c} hc i hi => by
    obtain ⟨ha, rfl⟩ := Array.getElem?_eq_some_iff.mp hc
    have q := List.all_eq_true.mp ((Array.all_eq_true_iff_forall_mem.mp hF) _ (Array.getElem_mem ha)) i (List.mem_range.mpr hi)
    simpa [Array.getElem?_eq_getElem hi] using q
  obtain ⟨g0, hg⟩ := and_e hg
  obtain ⟨p0, e0⟩ := is_v g0
  obtain rfl : w0 = (.int p0) := Option.some.inj e0
  obtain ⟨g1, hg⟩ := and_e hg
  obtain ⟨p1, e1⟩ := is_v g1
  obtain rfl : w1 = (.int p1) := Option.some.inj e1
  have g2 := hg
  obtain ⟨p2, e2⟩ := is_v g2
  obtain rfl : w2 = (.int p2) := Option.some.inj e2
  obtain ⟨n, o, h1, h2, h3, _, L, rfl, ⟨N, L', -, rfl⟩, hq⟩ := rm0 l s _ hw p0 p1 p2 tables_1 s.heap ⟨⟨Nat.le_refl _, fun _ _ q => q⟩, List.nodup_nil, fun _ q => nomatch q⟩ p e ha hc hk s m _ below hf ((Spec.applies_iff_loose hf).mp happ).1 ⟨rfl, State.Warmed39.refl s, rfl⟩ trivial
  refine ⟨n, _, h1, h2, h3, hpost _ _ _ _ _ _ ⟨Cond.after_iff.mpr rfl, Cond.after_iff.mpr (eq_i res_at (Term.int_eval (1)) rfl), trivial⟩ ⟨hq.1, hq.2.1, (hq.2.2.sift fun y hy => Or.inr (N y hy)).mono (by decide) (by decide)⟩⟩
theorem main_1_1 : Claimed_1_1 := comes_1 fun _ _ _ _ _ _ h hF => ⟨h.1, hF⟩
theorem main_1_2 : Claimed_1_2 := comes_1 fun _ _ _ _ _ _ h hF => ⟨h.2.1, hF⟩
end Jvm.Pilot.@@N@@
namespace Jvm.Pilot.@@N@@
open Jvm Jvm.ClassFile Sem Op Lib Jvm.Free Jvm.Stand Jvm.Pilot.@@N@@.Jvm.D
/-! MADE BY PROGRAM (witnessworld.py) out of the Statement's table words and the real class files: 10 classes; the members and pool entries that the words name. The judged class is class 1, her method 1. -/
namespace start1
open Jvm.ClassFile
def u (s : String) : CpInfo := .utf8 (stringToUtf16 s)
/-- a pool by its gaps: so many unusable entries, then the entry; so many at the end -/
def gap : Nat → List CpInfo → List CpInfo
  | 0, r => r
  | n + 1, r => .unusable :: gap n r
def poolList (es : List (Nat × CpInfo)) (last : Nat) : List CpInfo := es.foldr (fun e r => gap e.1 (e.2 :: r)) (gap last [])
def pool (es : List (Nat × CpInfo)) (last : Nat) : Array CpInfo := ⟨poolList es last⟩
def fileOf (pool : Array CpInfo) (this : Nat) (attrs : Array Attribute := #[]) (ms : Array MethodInfo := #[]) (fl : Nat := 33) (sup : Nat := 0) (ifs : Array Nat := #[]) (fds : Array FieldInfo := #[]) : ClassFile where
  minorVersion := 0
  majorVersion := 65
  constantPool := pool
  accessFlags := fl
  thisClass := this
  superClass := sup
  interfaces := ifs
  fields := fds
  methods := ms
  attributes := attrs
def plain (name : String) (sup : Option ClassId) : Class where
  name := name
  kind := .ordinary
  loader := none
  accessFlags := 33
  super := sup
  interfaces := #[]
  cf := none
  fields := #[]
  methods := #[]
  instanceTypes := #[]
  staticTypes := #[]
  resolved := #[]
  callSites := []
  init := .initialized
  statics := none
  mirror := none

def pool0 : Array CpInfo := pool [(5, u "<init>"), (0, u "()V"), (1, .class_ 10), (1, u "java/lang/Object")] 113

def k0c0 : Code := { maxStack := 0, maxLocals := 1, code := object_method_1_code, exceptionTable := #[], attributes := #[] }
def k0m0 : Method := { name := "<init>", desc := "()V", sig := { parameters := [], returnType := none }, accessFlags := 1, code := some k0c0 }
/-- java/lang/Object -/
def k0 : Class := { plain "java/lang/Object" none with
  accessFlags := 33
  interfaces := #[]
  cf := some (fileOf pool0 8 #[] #[{ accessFlags := 1, nameIndex := 5, descriptorIndex := 6, attributes := #[] }] 33 0 #[] #[])
  fields := #[]
  methods := #[k0m0]
  instanceTypes := #[]
  staticTypes := #[]
  resolved := Array.replicate 124 none
  statics := none }

def pool1 : Array CpInfo := pool [(2, .class_ 4), (1, u "java/lang/Object"), (0, u "<init>"), (0, u "()V"), (0, .class_ 8), (0, u "com/example/lucid_passage/lucidpassage/Bm25$Rounding"), (0, .methodref 7 10), (0, .nameAndType 5 11), (0, u "(DD)V"), (0, .methodref 7 13), (0, .nameAndType 14 15), (0, u "of"), (0, u "(D)D"), (0, .class_ 17), (0, u "com/example/lucid_passage/lucidpassage/RoundingOfPinLaw"), (2, u "law"), (0, u "(III)Z")] 7

def k1m0 : Method := { name := "<init>", desc := "()V", sig := { parameters := [], returnType := none }, accessFlags := 1, code := none }
def k1c1 : Code := { maxStack := 6, maxLocals := 11, code := code, exceptionTable := #[], attributes := #[] }
def k1m1 : Method := { name := "law", desc := "(III)Z", sig := { parameters := [.int, .int, .int], returnType := some .boolean }, accessFlags := 9, code := some k1c1 }
/-- com/example/lucid_passage/lucidpassage/RoundingOfPinLaw -/
def k1 : Class := { plain "com/example/lucid_passage/lucidpassage/RoundingOfPinLaw" (some 0) with
  accessFlags := 49
  interfaces := #[]
  cf := some (fileOf pool1 16 #[] #[{ accessFlags := 1, nameIndex := 5, descriptorIndex := 6, attributes := #[] }, { accessFlags := 9, nameIndex := 20, descriptorIndex := 21, attributes := #[] }] 49 2 #[] #[])
  fields := #[]
  methods := #[k1m0, k1m1]
  instanceTypes := #[]
  staticTypes := #[]
  resolved := Array.replicate 29 none
  statics := none }

def pool2 : Array CpInfo := pool [(1, .methodref 2 3), (0, .class_ 4), (0, .nameAndType 5 6), (0, u "java/lang/Object"), (0, u "<init>"), (0, u "()V"), (0, .class_ 8), (0, u "java/lang/Record")] 13

def k2c0 : Code := { maxStack := 1, maxLocals := 1, code := jdk_30_method_1_code, exceptionTable := #[], attributes := #[] }
def k2m0 : Method := { name := "<init>", desc := "()V", sig := { parameters := [], returnType := none }, accessFlags := 4, code := some k2c0 }
/-- java/lang/Record -/
def k2 : Class := { plain "java/lang/Record" (some 0) with
  accessFlags := 1057
  interfaces := #[]
  cf := some (fileOf pool2 7 #[] #[{ accessFlags := 4, nameIndex := 5, descriptorIndex := 6, attributes := #[] }] 1057 2 #[] #[])
  fields := #[]
  methods := #[k2m0]
  instanceTypes := #[]
  staticTypes := #[]
  resolved := Array.replicate 22 none
  statics := none }

def pool3 : Array CpInfo := pool [(1, .methodref 2 3), (0, .class_ 4), (0, .nameAndType 5 6), (0, u "java/lang/Record"), (0, u "<init>"), (0, u "()V"), (0, .fieldref 8 9), (0, .class_ 10), (0, .nameAndType 11 12), (0, u "com/example/lucid_passage/lucidpassage/Bm25$Rounding"), (0, u "fixed"), (0, u "D"), (0, .fieldref 8 14), (0, .nameAndType 15 12), (0, u "share"), (12, u "(DD)V"), (3, u "of"), (0, u "(D)D"), (7, .class_ 42), (0, u "com/example/lucid_passage/lucidpassage/Bm25")] 20

def k3c0 : Code := { maxStack := 3, maxLocals := 5, code := prog_4_method_1_code, exceptionTable := #[], attributes := #[] }
def k3m0 : Method := { name := "<init>", desc := "(DD)V", sig := { parameters := [.double, .double], returnType := none }, accessFlags := 0, code := some k3c0 }
def k3c1 : Code := { maxStack := 6, maxLocals := 3, code := prog_4_method_2_code, exceptionTable := #[], attributes := #[] }
def k3m1 : Method := { name := "of", desc := "(D)D", sig := { parameters := [.double], returnType := some .double }, accessFlags := 0, code := some k3c1 }
/-- com/example/lucid_passage/lucidpassage/Bm25$Rounding -/
def k3 : Class := { plain "com/example/lucid_passage/lucidpassage/Bm25$Rounding" (some 2) with
  accessFlags := 48
  interfaces := #[]
  cf := some (fileOf pool3 8 #[.nestHost 41] #[{ accessFlags := 0, nameIndex := 5, descriptorIndex := 28, attributes := #[] }, { accessFlags := 0, nameIndex := 32, descriptorIndex := 33, attributes := #[] }] 48 2 #[] #[{ accessFlags := 18, nameIndex := 11, descriptorIndex := 12, attributes := #[] }, { accessFlags := 18, nameIndex := 15, descriptorIndex := 12, attributes := #[] }])
  fields := #[{ name := "fixed", type := .double, accessFlags := 18, slot := 0, constantValue := 0 }, { name := "share", type := .double, accessFlags := 18, slot := 1, constantValue := 0 }]
  methods := #[k3m0, k3m1]
  instanceTypes := #[.double, .double]
  staticTypes := #[]
  resolved := Array.replicate 63 none
  statics := none }

def pool4 : Array CpInfo := pool [(1, u "java/lang/Cloneable"), (0, .class_ 1), (0, u "java/lang/Object"), (0, .class_ 3)] 3

/-- java/lang/Cloneable -/
def k4 : Class := { plain "java/lang/Cloneable" (some 0) with
  accessFlags := 1537
  interfaces := #[]
  cf := some (fileOf pool4 2 #[] #[] 1537 4 #[] #[])
  fields := #[]
  methods := #[]
  instanceTypes := #[]
  staticTypes := #[]
  resolved := Array.replicate 8 none
  statics := none }

def pool5 : Array CpInfo := pool [(1, u "java/io/Serializable"), (0, .class_ 1), (0, u "java/lang/Object"), (0, .class_ 3)] 3

/-- java/io/Serializable -/
def k5 : Class := { plain "java/io/Serializable" (some 0) with
  accessFlags := 1537
  interfaces := #[]
  cf := some (fileOf pool5 2 #[] #[] 1537 4 #[] #[])
  fields := #[]
  methods := #[]
  instanceTypes := #[]
  staticTypes := #[]
  resolved := Array.replicate 8 none
  statics := none }

/-- the primitive byte -/
def k6 : Class := { plain "byte" none with kind := .primitive 'B', accessFlags := 0x411 }
/-- [B -/
def k7 : Class := { plain "[B" (some 0) with kind := .array 6 .byte, interfaces := #[4, 5], accessFlags := 1041 }

/-- the primitive int -/
def k8 : Class := { plain "int" none with kind := .primitive 'I', accessFlags := 0x411 }
/-- [I -/
def k9 : Class := { plain "[I" (some 0) with kind := .array 8 .int, interfaces := #[4, 5], accessFlags := 1041 }

def heap : Heap := #[]
def classes : Array Class := #[k0, k1, k2, k3, k4, k5, k6, k7, k8, k9]
def interned : List (Array UInt16 × Addr) := []
def slotsUsed : Nat := 0
def theMethod : MethodId := ⟨1, 1⟩
def args0 : Array Value := #[.int 5, .int 2, .int 7]
def aboutOver (below : List Frame) : State where
  vm := { classes := classes, interned := interned.toArray }
  heap := heap
  slotsUsed := slotsUsed
  threads := #[{ frames := .invoking theMethod args0 :: below }]
def below0 : List Frame := [.native { method := ⟨0, 0⟩, args := #[] }]
def about1 : State := aboutOver below0
def p0 : Program := .bare "" "" ""
def e0 : Env := launch0.env 0 0 0
theorem w_frames : about1.frames = Frame.invoking theMethod args0 :: below0 := rfl
set_option maxRecDepth 65536 in
theorem w_args : argsFit about1.vm theMethod args0 = true := by decide +kernel
set_option maxRecDepth 65536 in
theorem w_heap : heapFits about1 = true := by decide +kernel
set_option maxRecDepth 65536 in
theorem w_runnable : about1.curStatus? = some .runnable := by decide +kernel
set_option maxRecDepth 65536 in
theorem w_alone : about1.alone = true := by decide +kernel
set_option maxRecDepth 65536 in
theorem w_named : about1.methodNamed? x = some theMethod := by decide +kernel
set_option maxRecDepth 65536 in
theorem w_hears : about1.hears theMethod below0 = true := by decide +kernel
set_option maxRecDepth 65536 in
theorem w_ripe : about1.ripe theMethod args0 below0 = true := by decide +kernel
theorem w_running : about1.status = .running := rfl
set_option maxRecDepth 65536 in
theorem w_room : about1.hasRoom e0.platform room_1 = true :=
  launch0.hasRoom_least _ room_1 (by decide +kernel) (by decide +kernel) (by decide +kernel) (by decide +kernel) (by decide +kernel) (by decide +kernel)
theorem allAtoms_all (ts : List Jvm.Cond) (a : Array Jvm.Value) (st : Jvm.State) : (allAtoms ts).before a st = ts.all (fun c => c.before a st) := by
  induction ts with
  | nil => rfl
  | cons c t ih =>
    show (Jvm.Cond.and c (allAtoms t)).before a st = _
    rw [Jvm.Cond.before_and, ih, List.all_cons]
def words1 : List Jvm.Cond := Jvm.Cond.code x code maxLocals ret :: tables_1
/-- a 'code' word, met by the world's own term for the bytes: nothing is compared byte by byte -/
theorem code_word {y : MethodName} {bytes : ByteArray} {mx : Nat} {rt : Option FieldType} {a : Array Value} {s : State} {m : MethodId} {meth : Method} {c : Code} (h1 : s.methodNamed? y = some m) (h2 : s.vm.method? m = some meth) (h3 : meth.code = some c) (h4 : c.code = bytes)
    (h5 : (c.maxLocals == mx && c.exceptionTable.isEmpty && decide (c.maxStack ≤ mostOperands) && decide (meth.sig.returnType = rt) && !meth.locks && decide (parseMethodDescriptor y.desc = some meth.sig)) = true) : (Jvm.Cond.code y bytes mx rt).before a s = true := by
  simp only [Bool.and_eq_true, beq_iff_eq, Bool.not_eq_true', decide_eq_true_eq] at h5
  obtain ⟨⟨⟨⟨⟨g1, g2⟩, g3⟩, g4⟩, g5⟩, g6⟩ := h5
  simp [Cond.before, Cond.holds, Cond.value, h1, h2, h3, h4, g1, g2, g3, g4, g5, g6]
def isCode : Jvm.Cond → Bool
  | .code _ _ _ _ => true
  | _ => false
theorem all_split {L : List Jvm.Cond} {P : Jvm.Cond → Bool} (h1 : L.all (fun c => isCode c || P c) = true) (h2 : ∀ c ∈ L.filter isCode, P c = true) : L.all P = true := by
  refine List.all_eq_true.mpr fun c hc => ?_
  have h := List.all_eq_true.mp h1 c hc
  rcases Bool.eq_false_or_eq_true (isCode c) with hi | hi
  · exact h2 c (List.mem_filter.mpr ⟨hc, hi⟩)
  · simpa [hi] using h
set_option maxRecDepth 65536 in
theorem w_c0 : (Jvm.Cond.code x code maxLocals ret).before args0 about1 = true := code_word (m := ⟨1, 1⟩) (meth := k1m1) (c := k1c1) (by decide +kernel) rfl rfl rfl (by decide +kernel)
set_option maxRecDepth 65536 in
theorem w_c1 : (Jvm.Cond.code ({ cls := "com/example/lucid_passage/lucidpassage/Bm25$Rounding", name := "<init>", desc := "(DD)V" } : Jvm.MethodName) prog_4_method_1_code (5 : Nat) (Option.none : Option Jvm.ClassFile.FieldType)).before args0 about1 = true := code_word (m := ⟨3, 0⟩) (meth := k3m0) (c := k3c0) (by decide +kernel) rfl rfl rfl (by decide +kernel)
set_option maxRecDepth 65536 in
theorem w_c2 : (Jvm.Cond.code ({ cls := "java/lang/Record", name := "<init>", desc := "()V" } : Jvm.MethodName) jdk_30_method_1_code (1 : Nat) (Option.none : Option Jvm.ClassFile.FieldType)).before args0 about1 = true := code_word (m := ⟨2, 0⟩) (meth := k2m0) (c := k2c0) (by decide +kernel) rfl rfl rfl (by decide +kernel)
set_option maxRecDepth 65536 in
theorem w_c3 : (Jvm.Cond.code ({ cls := "java/lang/Object", name := "<init>", desc := "()V" } : Jvm.MethodName) object_method_1_code (1 : Nat) (Option.none : Option Jvm.ClassFile.FieldType)).before args0 about1 = true := code_word (m := ⟨0, 0⟩) (meth := k0m0) (c := k0c0) (by decide +kernel) rfl rfl rfl (by decide +kernel)
set_option maxRecDepth 65536 in
theorem w_c4 : (Jvm.Cond.code ({ cls := "com/example/lucid_passage/lucidpassage/Bm25$Rounding", name := "of", desc := "(D)D" } : Jvm.MethodName) prog_4_method_2_code (3 : Nat) (Option.some Jvm.ClassFile.FieldType.double)).before args0 about1 = true := code_word (m := ⟨3, 1⟩) (meth := k3m1) (c := k3c1) (by decide +kernel) rfl rfl rfl (by decide +kernel)
def codes1 : List Jvm.Cond := [Jvm.Cond.code x code maxLocals ret, Jvm.Cond.code ({ cls := "com/example/lucid_passage/lucidpassage/Bm25$Rounding", name := "<init>", desc := "(DD)V" } : Jvm.MethodName) prog_4_method_1_code (5 : Nat) (Option.none : Option Jvm.ClassFile.FieldType), Jvm.Cond.code ({ cls := "java/lang/Record", name := "<init>", desc := "()V" } : Jvm.MethodName) jdk_30_method_1_code (1 : Nat) (Option.none : Option Jvm.ClassFile.FieldType), Jvm.Cond.code ({ cls := "java/lang/Object", name := "<init>", desc := "()V" } : Jvm.MethodName) object_method_1_code (1 : Nat) (Option.none : Option Jvm.ClassFile.FieldType), Jvm.Cond.code ({ cls := "com/example/lucid_passage/lucidpassage/Bm25$Rounding", name := "of", desc := "(D)D" } : Jvm.MethodName) prog_4_method_2_code (3 : Nat) (Option.some Jvm.ClassFile.FieldType.double)]
set_option maxRecDepth 65536 in
theorem codes_eq : words1.filter isCode = codes1 := rfl
theorem w_codes : ∀ c ∈ words1.filter isCode, c.before args0 about1 = true := by
  rw [codes_eq]
  intro c hc
  simp only [codes1, List.mem_cons, List.not_mem_nil, or_false] at hc
  rcases hc with rfl | rfl | rfl | rfl | rfl
  · exact w_c0
  · exact w_c1
  · exact w_c2
  · exact w_c3
  · exact w_c4
set_option maxRecDepth 65536 in
theorem w_t1 : words1.all (fun c => isCode c || c.before args0 about1) = true := by decide +kernel
theorem w_tables : (allAtoms (Jvm.Cond.code x code maxLocals ret :: tables_1)).before args0 about1 = true := by
  rw [allAtoms_all]
  show words1.all (fun c => c.before args0 about1) = true
  refine all_split ?_ w_codes
  rw [w_t1]
set_option maxRecDepth 65536 in
theorem w_case : (Jvm.Cond.and given_1 narrow_1).before args0 about1 = true := by decide +kernel
theorem w_applies : (headSpec (Jvm.Cond.code x code maxLocals ret :: tables_1) room_1).applies x e0.platform about1 = true :=
  (Spec.applies_iff w_frames).mpr ⟨w_running, w_runnable, w_alone, w_named, w_hears, w_ripe, w_room, w_tables⟩
theorem atStart : AtStart classFile x code maxLocals ret World_1 tables_1 room_1 Calls_1 rest_1 Pre_1 launch0 p0 e0 about1 theMethod args0 below0 :=
  ⟨lists_1, trivial, launch0.admits_env _ _ _, launch0.least_env, fairChoices_fair.cas, fairChoices_fair.clock, w_frames, w_args, w_heap, w_applies, trivial, trivial, w_case⟩
end start1
theorem witness_1 : WitnessClaimed_1 := ⟨start1.p0, start1.e0, start1.about1, start1.theMethod, start1.args0, start1.below0, start1.atStart⟩
end Jvm.Pilot.@@N@@
