import JvmDerived
import JvmDerived.Pilot.@@N@@Statement
import JvmDerived.Pilot.@@N@@Code
set_option linter.unusedVariables false
set_option linter.unusedSimpArgs false
namespace Jvm.RoadKit
open Sem ClassFile Op Lib Jvm.Stand Jvm.Free Jvm.LawKit
section New
variable {p : Program} {l : Launch} {e : Env} {R : Room} {s : State} {m : MethodId} {args : Array Value} {below : List Frame} {meth : Method} {c : Code} {T : State} {locs : List Loc} {cells slots : Nat}
theorem retI (X : Stand p l e R s m args below meth c T locs cells slots) (hx : p.tables.exec = Jvm.exec) {pc : Nat} {Ls : Array Slot} {z : Int32} {rest : List Value} (hret : meth.sig.returnType = some .int) (hd : decode c.code pc = .ok (.ireturn, 1)) {fs : List Frame}
    (hl : ∀ (f : JFrame) (acts : List Action), f.method = m → f.locked = none → f.entered = [] → (doReturn e (T.setTop f) acts (some (.int z))).1 = T.setFrames fs) : Steps p.tables e below (T.setTop (mkF m pc Ls (.int z :: rest))) (T.setFrames fs) := by
  have hm' : T.vm.method? m = some meth := X.method'
  have hn : narrow .int (.int z) = .int z := rfl
  show Steps p.tables e below (T.setTop { method := m, pc := pc, locals := Ls, stack := _ :: rest, locked := none }) _
  jvm_step X.here [X.here.top, hx, hd, hm', hret, hn]
  first | (intro acts; rw [hl _ acts rfl rfl rfl]) | rw [hl _ _ rfl rfl rfl]
  exact Steps.refl _
end New
end Jvm.RoadKit
namespace Jvm.OwnKit
open Sem ClassFile Op Lib Jvm.Stand Jvm.Free Jvm.LawKit Jvm.RoadKit
section Kit
variable {p : Program} {l : Launch} {e : Env} {R : Room} {s : State} {m : MethodId} {args : Array Value} {below : List Frame} {meth : Method} {c : Code} {T : State} {locs : List Loc} {cells slots : Nat} {Z : State} {a0 : Array Value} {h h' : Heap} {a b : Addr} {n0 : Nat} {E E' : List (Addr × (Cell → Prop))} {P P' : Cell → Prop} {i : Nat} {sl : Nat} {v : Value}
/-- what is known of the heap: entries at different addresses, all made since the law began -/
def Wo (n0 : Nat) (h : Heap) (E : List (Addr × (Cell → Prop))) : Prop := n0 ≤ h.size ∧ (E.map Prod.fst).Nodup ∧ ∀ x ∈ E, n0 ≤ x.1 ∧ ∃ c : Cell, h[x.1]? = some c ∧ x.2 c
theorem Wo.nil (q : n0 ≤ h.size) : Wo n0 h [] := ⟨q, List.nodup_nil, fun _ q => nomatch q⟩
theorem Wo.at (W : Wo n0 h E) (hi : E[i]? = some (a, P)) : n0 ≤ a ∧ ∃ c : Cell, h[a]? = some c ∧ P c := W.2.2 (a, P) (List.mem_of_getElem? hi)
theorem Wo.lt (W : Wo n0 h E) {x : Addr × (Cell → Prop)} (hx : x ∈ E) : x.1 < h.size := by
  obtain ⟨-, c, hc, -⟩ := W.2.2 x hx
  exact (Array.getElem?_eq_some_iff.mp hc).1
theorem Wo.ext (W : Wo n0 h E) (X : Ext h h') : Wo n0 h' E := ⟨Nat.le_trans W.1 X.1, W.2.1, fun x hx => by
  obtain ⟨q, c, hc, hp⟩ := W.2.2 x hx
  exact ⟨q, c, X.2 _ _ hc, hp⟩⟩
theorem Wo.push (W : Wo n0 h E) (X : Ext h h') {c : Cell} (hc : h'[h.size]? = some c) (hp : P c) : Wo n0 h' ((h.size, P) :: E) := by
  have W' := W.ext X
  refine ⟨W'.1, ?_, fun x hx => ?_⟩
  · rw [List.map_cons, List.nodup_cons]
    refine ⟨fun q => ?_, W.2.1⟩
    obtain ⟨y, hy, ey⟩ := List.mem_map.mp q
    have h1 := W.lt hy
    rw [ey] at h1
    exact Nat.lt_irrefl _ h1
  · rcases List.mem_cons.mp hx with rfl | hx
    · exact ⟨W.1, c, hc, hp⟩
    · exact W'.2.2 x hx
theorem perm_front {α : Type} {x : α} : ∀ {L : List α} {i : Nat}, L[i]? = some x → (x :: L.eraseIdx i).Perm L
  | [], _, q => by simp at q
  | y :: L, 0, q => by
    have q' : y = x := by simpa using q
    subst q'
    exact List.Perm.refl _
  | y :: L, i + 1, q => (List.Perm.swap y x _).trans (List.Perm.cons y (perm_front (L := L) (i := i) (by simpa using q)))
theorem perm_set {α : Type} {L : List α} {i : Nat} (hl : i < L.length) (x : α) : (L.set i x).Perm (x :: L.eraseIdx i) := by
  rw [List.set_eq_take_append_cons_drop, if_pos hl, List.eraseIdx_eq_take_drop_succ]
  exact List.perm_middle
theorem Wo.perm (W : Wo n0 h E) (q : E'.Perm E) : Wo n0 h E' := ⟨W.1, (q.map _).nodup_iff.mpr W.2.1, fun x hx => W.2.2 x (q.mem_iff.mp hx)⟩
theorem Wo.front (W : Wo n0 h E) {x : Addr × (Cell → Prop)} (hi : E[i]? = some x) : Wo n0 h (x :: E.eraseIdx i) := by
  exact W.perm (perm_front hi)
theorem take_range {α : Type} : ∀ (n : Nat) (L : List α), (List.range n).filterMap (fun i => L[i]?) = L.take n := by
  intro n
  induction n with
  | zero => intro L; rfl
  | succ n ih =>
    intro L
    rw [List.range_succ, List.filterMap_append, ih, List.take_add_one]
    congr 1
theorem Wo.pick (W : Wo n0 h E) (is : List Nat) (n : Nat) (hp : is.Perm (List.range n)) (hE : is.filterMap (fun i => E[i]?) ++ E.drop n = E') : Wo n0 h E' := by
  subst hE
  refine W.perm ?_
  have q := (hp.filterMap (fun i => E[i]?)).append_right (E.drop n)
  rw [take_range, List.take_append_drop] at q
  exact q
theorem Wo.tail {x : Addr × (Cell → Prop)} (W : Wo n0 h (x :: E)) : Wo n0 h E := by
  have hn := W.2.1
  rw [List.map_cons, List.nodup_cons] at hn
  exact ⟨W.1, hn.2, fun y hy => W.2.2 y (List.mem_cons_of_mem _ hy)⟩
theorem Wo.weak (W : Wo n0 h ((a, P) :: E)) (q : ∀ c, P c → P' c) : Wo n0 h ((a, P') :: E) := by
  refine ⟨W.1, W.2.1, fun x hx => ?_⟩
  rcases List.mem_cons.mp hx with rfl | hx
  · obtain ⟨g, c, hc, hP⟩ := W.2.2 (a, P) List.mem_cons_self
    exact ⟨g, c, hc, q c hP⟩
  · exact W.2.2 x (List.mem_cons_of_mem _ hx)
theorem Wo.wr0 (W : Wo n0 h ((a, P) :: E)) (w : Wr h h' a sl v) (hp : ∀ c, P c → P' (c.setSlot sl v)) : Wo n0 h' ((a, P') :: E) := by
  have hn := W.2.1
  rw [List.map_cons, List.nodup_cons] at hn
  refine ⟨by rw [w.size]; exact W.1, by rw [List.map_cons, List.nodup_cons]; exact hn, fun x hx => ?_⟩
  rcases List.mem_cons.mp hx with rfl | hx
  · obtain ⟨q, c, hc, hP⟩ := W.2.2 (a, P) List.mem_cons_self
    obtain ⟨c', e1, -, -, -, -, -, e7⟩ := wr_at w hc
    exact ⟨q, c', e1, by rw [(e7 rfl).1]; exact hp c hP⟩
  · obtain ⟨q, c, hc, hP⟩ := W.2.2 x (List.mem_cons_of_mem _ hx)
    obtain ⟨c', e1, -, -, -, e5, -⟩ := wr_at w hc
    have ne : x.1 ≠ a := fun z => hn.1 (by have q := List.mem_map_of_mem (f := Prod.fst) hx; rw [z] at q; exact q)
    exact ⟨q, c', e1, by rw [e5 ne]; exact hP⟩
theorem Wo.wr (W : Wo n0 h E) (hi : E[i]? = some (a, P)) (w : Wr h h' a sl v) (hp : ∀ c, P c → P' (c.setSlot sl v)) : Wo n0 h' (E.set i (a, P')) := by
  have W1 := (W.front hi).wr0 w hp
  obtain ⟨hl, -⟩ := List.getElem?_eq_some_iff.mp hi
  exact W1.perm (perm_set hl _)
theorem Wo.kp (W : Wo n0 h E) (hi : E[i]? = some (a, P)) (K : Keep h h' [a]) {c : Cell} (hc : h'[a]? = some c) (hp : P' c) : Wo n0 h' (E.set i (a, P')) := by
  have W0 := W.front hi
  have hn := W0.2.1
  rw [List.map_cons, List.nodup_cons] at hn
  have W1 : Wo n0 h' ((a, P') :: E.eraseIdx i) := by
    refine ⟨Nat.le_trans W.1 K.1, by rw [List.map_cons, List.nodup_cons]; exact hn, fun x hx => ?_⟩
    rcases List.mem_cons.mp hx with rfl | hx
    · exact ⟨(W.at hi).1, c, hc, hp⟩
    · obtain ⟨q, c1, hc1, hP⟩ := W0.2.2 x (List.mem_cons_of_mem _ hx)
      have ne : x.1 ∉ [a] := fun z => hn.1 (by have q := List.mem_map_of_mem (f := Prod.fst) hx; rw [List.mem_singleton.mp z] at q; exact q)
      exact ⟨q, c1, K.2.1 _ _ hc1 ne, hP⟩
  obtain ⟨hl, -⟩ := List.getElem?_eq_some_iff.mp hi
  exact W1.perm (perm_set hl _)
/-- an object: her class, and what her fields hold -/
def Ob (Z : State) (C : String) (NS : List (String × String)) (vs : List Value) (c : Cell) : Prop :=
  (∃ k : Class, Z.vm.findClass C = some c.cls ∧ Z.vm.classes[c.cls]? = some k ∧ c.vm.isStatics = false ∧ (k.kind = .ordinary → c.slots.size = k.instanceTypes.size)) ∧
  ∀ (i : Nat) (x : String × String) (v : Value), NS[i]? = some x → vs[i]? = some v → ∃ (cf : ClassId) (k : Class) (j : Nat) (f : Field), Z.fieldFound? C x.1 x.2 = some (cf, k, j, f) ∧ f.isStatic = false ∧ c.vm ≠ .unknown ∧ c.vm.isStatics = false ∧ Z.vm.assignable c.cls cf = true ∧ c.slots[f.slot]? = some v
variable {C : String} {NS : List (String × String)} {vs : List Value}
theorem Wo.exa (W : Wo n0 h E) (hi : E[i]? = some (a, Ob Z C NS vs)) : Exa Z h a C := by
  obtain ⟨-, c, hc, ⟨k, h1, h2, h3, h4⟩, -⟩ := W.at hi
  exact ⟨c, k, hc, h1, h2, h3, h4⟩
theorem Wo.fld (W : Wo n0 h E) (hi : E[i]? = some (a, Ob Z C NS vs)) {j : Nat} {n d : String} (hn : NS[j]? = some (n, d)) (hv : vs[j]? = some v) : Fld Z h a C n d v := by
  obtain ⟨-, c, hc, -, hf⟩ := W.at hi
  obtain ⟨cf, k, q, f, r⟩ := hf j (n, d) v hn hv
  exact ⟨c, cf, k, q, f, hc, r⟩
def Dist (Z : State) (C : String) (NS : List (String × String)) : Prop := ∀ (i j : Nat) (x y : String × String), i ≠ j → NS[i]? = some x → NS[j]? = some y → Jvm.RoadKit.slotOf Z C x.1 x.2 ≠ Jvm.RoadKit.slotOf Z C y.1 y.2
theorem Dist.of (HL : ∀ x ∈ NS, Laid Z a0 C C x.1 x.2) (hn : (NS.map Prod.fst).Nodup) (ht : ∀ x ∈ NS, (parseFieldDescriptor x.2).isSome = true) : Dist Z C NS := by
  intro i j x y ne hx hy
  obtain ⟨t, et⟩ := Option.isSome_iff_exists.mp (ht x (List.mem_of_getElem? hx))
  obtain ⟨t', et'⟩ := Option.isSome_iff_exists.mp (ht y (List.mem_of_getElem? hy))
  refine slot_ne (HL x (List.mem_of_getElem? hx)) (HL y (List.mem_of_getElem? hy)) (fun q => ne ?_) et et'
  have h1 : (NS.map Prod.fst)[i]? = some x.1 := by rw [List.getElem?_map, hx]; rfl
  have h2 : (NS.map Prod.fst)[j]? = some y.1 := by rw [List.getElem?_map, hy]; rfl
  exact (List.getElem?_inj (List.getElem?_eq_some_iff.mp h1).1 hn).mp (h1.trans (q ▸ h2.symm))
theorem Ob.put {c : Cell} (D : Dist Z C NS) (O : Ob Z C NS vs c) {j : Nat} {n d : String} (hn : NS[j]? = some (n, d)) (v : Value) {old : Value} (hv : vs[j]? = some old) : Ob Z C NS (vs.set j v) (c.setSlot (Jvm.RoadKit.slotOf Z C n d) v) := by
  obtain ⟨⟨k, h1, h2, h3, h4⟩, hf⟩ := O
  refine ⟨⟨k, h1, h2, h3, fun q => by rw [sz_set]; exact h4 q⟩, fun i x w hx hw => ?_⟩
  by_cases ij : i = j
  · subst ij
    obtain rfl : x = (n, d) := Option.some.inj (hx.symm.trans hn)
    obtain ⟨cf, kk, q, f, r1, r2, r3, r4, r5, r6⟩ := hf i (n, d) old hx hv
    have hl := (List.getElem?_eq_some_iff.mp hv).1
    have hw' : w = v := by rw [List.getElem?_set_self hl] at hw; exact (Option.some.inj hw).symm
    have es : Jvm.RoadKit.slotOf Z C n d = f.slot := by simp [Jvm.RoadKit.slotOf, r1]
    refine ⟨cf, kk, q, f, r1, r2, r3, r4, r5, ?_⟩
    rw [es, hw']
    show (c.slots.setIfInBounds f.slot v)[f.slot]? = some v
    rw [Array.getElem?_setIfInBounds_self_of_lt (Array.getElem?_eq_some_iff.mp r6).1]
  · rw [List.getElem?_set_ne (Ne.symm ij)] at hw
    obtain ⟨cf, kk, q, f, r1, r2, r3, r4, r5, r6⟩ := hf i x w hx hw
    have es : Jvm.RoadKit.slotOf Z C x.1 x.2 = f.slot := by simp [Jvm.RoadKit.slotOf, r1]
    have hD := D i j x (n, d) ij hx hn
    rw [es] at hD
    refine ⟨cf, kk, q, f, r1, r2, r3, r4, r5, ?_⟩
    show (c.slots.setIfInBounds (Jvm.RoadKit.slotOf Z C n d) v)[f.slot]? = some w
    rw [Array.getElem?_setIfInBounds_ne (Ne.symm hD)]
    exact r6
theorem putW (X : Stand p l e R s m args below meth c T locs cells slots) (hx : p.tables.exec = Jvm.exec) (hZ : Z.Warmed39 s.vm) {own n d host : String} {index kk : Nat} {ty : FieldType} (hown : s.vm.findClass own = some m.cls) (w : (Cond.fieldLink own index C n d).before a0 Z = true ∨ (Cond.fieldLinkNest own index C n d host).before a0 Z = true)
    (eT : T.heap = h) (W : Wo n0 h E) (N : Fr n0 locs) (D : Dist Z C NS) (L : (Cond.lays C C n d).before a0 Z = true ∨ ((Cond.laysFinal C C n d).before a0 Z = true ∧ own = C ∧ meth.name = "<init>")) (wi : (Cond.instantiable C kk).before a0 Z = true) (hty : parseFieldDescriptor d = some ty)
    (hi : E[i]? = some (a, Ob Z C NS vs)) {j : Nat} (hn : NS[j]? = some (n, d)) {old : Value} (hv : vs[j]? = some old) (hnar : narrow ty v = v) (hfit : fits ty v = true) {g : JFrame} (hg : g.method = m) {rest : List Value} (hs : g.stack = v :: .ref a :: rest) (hd : decode c.code g.pc = .ok (.putfield index, 3)) :
    ∃ T' h' L', Stand p l e R s m args below meth c T' L' cells slots ∧ T'.heap = h' ∧ Fr n0 L' ∧ Wo n0 h' (E.set i (a, Ob Z C NS (vs.set j v))) ∧ ∀ target, Steps p.tables e below (T'.setTop { g with pc := g.pc + 3, stack := rest }) target → Steps p.tables e below (T.setTop g) target := by
  obtain ⟨T', h', X', e', w', st⟩ := putF X hx hZ hown (host := host) w Via.refl eT (W.fld hi hn hv) (W.exa hi) L wi hty hnar hfit hg hs hd
  exact ⟨T', h', _, X', e', Fr.snoc X' N (W.at hi).1, W.wr hi w' (fun c q => q.put D hn v hv), st⟩
theorem getR (X : Stand p l e R s m args below meth c T locs cells slots) (hx : p.tables.exec = Jvm.exec) (hZ : Z.Warmed39 s.vm) {own O n d : String} {index : Nat} (hown : s.vm.findClass own = some m.cls) (w : (Cond.fieldRef own index O n d).before a0 Z = true)
    (eT : T.heap = h) (F : Fld Z h a O n d v) {g : JFrame} (hg : g.method = m) {rest : List Value} (hs : g.stack = .ref a :: rest) (hd : decode c.code g.pc = .ok (.getfield index, 3)) : ∃ T', Stand p l e R s m args below meth c T' locs cells slots ∧ T'.heap = h ∧ ∀ target, Steps p.tables e below (T'.setTop { g with pc := g.pc + 3, stack := v :: rest }) target → Steps p.tables e below (T.setTop g) target := by
  obtain ⟨cell, cf, k, i, f, h1, h2, h3, h4, -, -, h7⟩ := F
  have hU : Z.Warmed39 T.vm := wtrans hZ X.warmed
  have w' := Cond.fieldRef_warmed39 hU w
  have hcur : (Z.setVm T.vm).vm.findClass own = some m.cls := by
    show T.vm.findClass own = _
    rw [X.warmed.alike.findClass]; exact hown
  obtain ⟨c', k', i', f', g1, g2⟩ := Cond.fieldRef_spec hcur w'
  obtain ⟨k2, q1, -⟩ := State.fieldFound?_setVm (s := Z) hU.alike h2
  cases g1.symm.trans q1
  refine ⟨T, X, eT, fun target hr => ?_⟩
  subst hg
  have hc : T.heap[a]? = some cell := by rw [eT]; exact h1
  jvm_step X.here [hx, hd, getfield.wp_ready (e := e) (s := T) (index := index) (c := cf) (a := a) (field := f) (rest := rest) (cell := cell) (v := v) (f := g) X.here.top g2 h3 hs hc h4 h7]
  exact hr
theorem newWO (X : Stand p l e R s m args below meth c T locs cells slots) (hx : p.tables.exec = Jvm.exec) (hZ : Z.Warmed39 s.vm) {own : String} {index n : Nat} (hown : s.vm.findClass own = some m.cls) (w : (Cond.classLink own index C).before a0 Z = true) (wi : (Cond.instantiable C n).before a0 Z = true) (wz : (Cond.initialized C).before a0 Z = true) (eT : T.heap = h) (W : Wo n0 h E)
    (HL : ∀ x ∈ NS, Laid Z a0 C C x.1 x.2) (hvs : NS.map (fun x => (parseFieldDescriptor x.2).map defaultValue) = vs.map some) {g : JFrame} (hg : g.method = m) (hd : decode c.code g.pc = .ok (.new index, 3)) (hc : cells + 1 ≤ R.cells) (hl : slots + n ≤ R.slots) :
    ∃ T' h' b, Stand p l e R s m args below meth c T' locs (cells + 1) (slots + n) ∧ T'.heap = h' ∧ Wo n0 h' ((b, Ob Z C NS vs) :: E) ∧ ∀ target, Steps p.tables e below (T'.setTop { g with pc := g.pc + 3, stack := .ref b :: g.stack }) target → Steps p.tables e below (T.setTop g) target := by
  obtain ⟨T', h', X', e', E', A, D, -, st⟩ := newO X hx hZ hown w wi wz eT hg hd hc hl
  obtain ⟨cell, k, h1, h2, h3, h4, h5⟩ := A
  refine ⟨T', h', h.size, X', e', W.push E' h1 ⟨⟨k, h2, h3, h4, h5⟩, fun i x v hx hv => ?_⟩, st⟩
  have q : (NS.map (fun x => (parseFieldDescriptor x.2).map defaultValue))[i]? = (vs.map some)[i]? := by rw [hvs]
  rw [List.getElem?_map, List.getElem?_map, hx, hv] at q
  have q' := Option.some.inj q
  obtain ⟨ty, t1, t2⟩ := Option.map_eq_some_iff.mp q'
  subst t2
  obtain ⟨c2, cf, kk, j, f, r1, r⟩ := D (HL x (List.mem_of_getElem? hx)) t1
  cases h1.symm.trans r1
  exact ⟨cf, kk, j, f, r⟩
/-- an array of n components: component k holds f k -/
def Ar (Z : State) (ty : FieldType) (n : Nat) (f : Nat → Value) (c : Cell) : Prop := Z.isArrayOf c ty ∧ c.vm ≠ .unknown ∧ c.slots.size = n ∧ n < 2 ^ 31 ∧ Z.vm.findClass ("[" ++ ty.toString) = some c.cls ∧ ∀ k, k < n → c.slots[k]? = some (f k) ∧ fits ty (f k) = true
def upd (f : Nat → Value) (j : Nat) (v : Value) : Nat → Value := fun k => if k = j then v else f k
theorem upd_same (f : Nat → Value) (j : Nat) (v : Value) : upd f j v j = v := if_pos rfl
theorem upd_other (f : Nat → Value) {j k : Nat} (v : Value) (q : k ≠ j) : upd f j v k = f k := if_neg q
variable {ty : FieldType} {n n' : Nat} {f f' : Nat → Value}
theorem Ar.set {c : Cell} (A : Ar Z ty n f c) (hv : fits ty v = true) (j : Nat) : Ar Z ty n (upd f j v) (c.setSlot j v) := by
  obtain ⟨h1, h2, h3, h4, h6, h5⟩ := A
  refine ⟨h1, h2, by rw [sz_set]; exact h3, h4, h6, fun k hk => ?_⟩
  by_cases q : k = j
  · subst q
    rw [upd_same]
    refine ⟨?_, hv⟩
    show (c.slots.setIfInBounds k v)[k]? = some v
    rw [Array.getElem?_setIfInBounds_self_of_lt (by rw [h3]; exact hk)]
  · rw [upd_other f v q]
    refine ⟨?_, (h5 k hk).2⟩
    show (c.slots.setIfInBounds j v)[k]? = some (f k)
    rw [Array.getElem?_setIfInBounds_ne (Ne.symm q)]
    exact (h5 k hk).1
theorem Ar.same {c : Cell} (A : Ar Z ty n f c) (q : ∀ k, k < n → f k = f' k) : Ar Z ty n f' c := by
  obtain ⟨h1, h2, h3, h4, h6, h5⟩ := A
  exact ⟨h1, h2, h3, h4, h6, fun k hk => by rw [← q k hk]; exact h5 k hk⟩
theorem Ar.new {k : ClassId} {z : Int32} (A : Arr Z h a (newA k ty z) ty) (hz : ¬ z < 0) (hn : z.toNatClampNeg = n) (hC : Exa Z h a ("[" ++ ty.toString)) : Ar Z ty n (fun _ => defaultValue ty) (newA k ty z) := by
  subst hn
  obtain ⟨c1, k1, q1, q2, -⟩ := hC
  cases A.1.symm.trans q1
  exact ⟨A.2.1, A.2.2, sz_new _ _ _, (back32 hz).2, q2, fun i hi => ⟨by simp [newA, hi], by cases ty <;> rfl⟩⟩
theorem out_of {c : Cell} {j : Int32} {k : Nat} (A3 : c.slots.size = n) (hj : ¬ j < 0) (hk : j.toNatClampNeg = k) (hl : k < n) : ¬ (j < 0 ∨ c.slots.size ≤ j.toNatClampNeg) := by
  rw [A3, hk]
  exact fun q => q.elim hj (fun q => absurd hl (Nat.not_lt.mpr q))
theorem ialW (X : Stand p l e R s m args below meth c T locs cells slots) (hx : p.tables.exec = Jvm.exec) (hZ : Z.Warmed39 s.vm) (eT : T.heap = h) (W : Wo n0 h E) (hi : E[i]? = some (a, Ar Z .int n f)) {j : Int32} {k : Nat} (hj : ¬ j < 0) (hk : j.toNatClampNeg = k) (hl : k < n) (hv : f k = v)
    {g : JFrame} (hg : g.method = m) {rest : List Value} (hs : g.stack = .int j :: .ref a :: rest) (hd : decode c.code g.pc = .ok (.iaload, 1)) (target : State)
    (hr : Steps p.tables e below (T.setTop { g with pc := g.pc + 1, stack := v :: rest }) target) : Steps p.tables e below (T.setTop g) target := by
  obtain ⟨-, c', hc, A1, A2, A3, A4, A6, A5⟩ := W.at hi
  exact X.iaload hx (by rw [eT]; exact hc) (State.isArrayOf_alike hZ.alike A1) A2 (out_of A3 hj hk hl) (by rw [hk, (A5 k hl).1, hv]) hg hs hd target hr
theorem dalW (X : Stand p l e R s m args below meth c T locs cells slots) (hx : p.tables.exec = Jvm.exec) (hZ : Z.Warmed39 s.vm) (eT : T.heap = h) (W : Wo n0 h E) (hi : E[i]? = some (a, Ar Z .double n f)) {j : Int32} {k : Nat} (hj : ¬ j < 0) (hk : j.toNatClampNeg = k) (hl : k < n) (hv : f k = v)
    {g : JFrame} (hg : g.method = m) {rest : List Value} (hs : g.stack = .int j :: .ref a :: rest) (hd : decode c.code g.pc = .ok (.daload, 1)) (target : State)
    (hr : Steps p.tables e below (T.setTop { g with pc := g.pc + 1, stack := v :: rest }) target) : Steps p.tables e below (T.setTop g) target := by
  obtain ⟨-, c', hc, A1, A2, A3, A4, A6, A5⟩ := W.at hi
  exact X.daload hx (by rw [eT]; exact hc) (State.isArrayOf_alike hZ.alike A1) A2 (out_of A3 hj hk hl) (by rw [hk, (A5 k hl).1, hv]) hg hs hd target hr
theorem balW (X : Stand p l e R s m args below meth c T locs cells slots) (hx : p.tables.exec = Jvm.exec) (hZ : Z.Warmed39 s.vm) (eT : T.heap = h) (W : Wo n0 h E) (hi : E[i]? = some (a, Ar Z .byte n f)) {j : Int32} {k : Nat} (hj : ¬ j < 0) (hk : j.toNatClampNeg = k) (hl : k < n) (hv : f k = v)
    {g : JFrame} (hg : g.method = m) {rest : List Value} (hs : g.stack = .int j :: .ref a :: rest) (hd : decode c.code g.pc = .ok (.baload, 1)) (target : State)
    (hr : Steps p.tables e below (T.setTop { g with pc := g.pc + 1, stack := v :: rest }) target) : Steps p.tables e below (T.setTop g) target := by
  obtain ⟨-, c', hc, A1, A2, A3, A4, A6, A5⟩ := W.at hi
  exact X.baloadBytes hx (by rw [eT]; exact hc) (State.isArrayOf_alike hZ.alike A1) A2 (out_of A3 hj hk hl) (by rw [hk, (A5 k hl).1, hv]) hg hs hd target hr
theorem aalW (X : Stand p l e R s m args below meth c T locs cells slots) (hx : p.tables.exec = Jvm.exec) (hZ : Z.Warmed39 s.vm) (eT : T.heap = h) (W : Wo n0 h E) (hi : E[i]? = some (a, P)) (hP : ∀ c, P c → Ar Z ty n f c) (hty : ty.isReference = true) {j : Int32} {k : Nat} (hj : ¬ j < 0) (hk : j.toNatClampNeg = k) (hl : k < n) (hv : f k = v)
    {g : JFrame} (hg : g.method = m) {rest : List Value} (hs : g.stack = .int j :: .ref a :: rest) (hd : decode c.code g.pc = .ok (.aaload, 1)) (target : State)
    (hr : Steps p.tables e below (T.setTop { g with pc := g.pc + 1, stack := v :: rest }) target) : Steps p.tables e below (T.setTop g) target := by
  obtain ⟨-, c', hc, hp⟩ := W.at hi
  obtain ⟨A1, A2, A3, A4, A6, A5⟩ := hP c' hp
  exact X.aaload hx (by rw [eT]; exact hc) (State.isArrayOf_alike hZ.alike A1) hty A2 (out_of A3 hj hk hl) (by rw [hk, (A5 k hl).1, hv]) hg hs hd target hr
theorem lenW (X : Stand p l e R s m args below meth c T locs cells slots) (hx : p.tables.exec = Jvm.exec) (hZ : Z.Warmed39 s.vm) (eT : T.heap = h) (W : Wo n0 h E) (hi : E[i]? = some (a, P)) (hP : ∀ c, P c → Ar Z ty n f c) {z : Int32} (hz : n.toInt32 = z)
    {g : JFrame} (hg : g.method = m) {rest : List Value} (hs : g.stack = .ref a :: rest) (hd : decode c.code g.pc = .ok (.arraylength, 1)) (target : State)
    (hr : Steps p.tables e below (T.setTop { g with pc := g.pc + 1, stack := .int z :: rest }) target) : Steps p.tables e below (T.setTop g) target := by
  obtain ⟨-, c', hc, hp⟩ := W.at hi
  obtain ⟨A1, A2, A3, A4, A6, A5⟩ := hP c' hp
  exact X.arraylength hx (cell := c') (by rw [eT]; exact hc) (State.isArrayOf_alike hZ.alike A1) hg hs hd target (by rw [A3, hz]; exact hr)
theorem iasW (X : Stand p l e R s m args below meth c T locs cells slots) (hx : p.tables.exec = Jvm.exec) (hZ : Z.Warmed39 s.vm) (eT : T.heap = h) (W : Wo n0 h E) (N : Fr n0 locs) (hi : E[i]? = some (a, Ar Z .int n f)) {j x : Int32} {k : Nat} (hj : ¬ j < 0) (hk : j.toNatClampNeg = k) (hl : k < n)
    {g : JFrame} (hg : g.method = m) {rest : List Value} (hs : g.stack = .int x :: .int j :: .ref a :: rest) (hd : decode c.code g.pc = .ok (.iastore, 1)) :
    ∃ T' h' L', Stand p l e R s m args below meth c T' L' cells slots ∧ T'.heap = h' ∧ Fr n0 L' ∧ Wo n0 h' (E.set i (a, Ar Z .int n (upd f k (.int x)))) ∧ ∀ target, Steps p.tables e below (T'.setTop { g with pc := g.pc + 1, stack := rest }) target → Steps p.tables e below (T.setTop g) target := by
  obtain ⟨hge, c', hc, A⟩ := W.at hi
  obtain ⟨T', h', X', e', w', st⟩ := stI X hx hZ eT (a := a) (cl := c') ⟨hc, A.1, A.2.1⟩ (out_of A.2.2.1 hj hk hl) hg hs hd
  rw [hk] at w'
  exact ⟨T', h', _, X', e', Fr.snoc X' N hge, W.wr hi w' (fun c q => q.set rfl k), st⟩
theorem dasW (X : Stand p l e R s m args below meth c T locs cells slots) (hx : p.tables.exec = Jvm.exec) (hZ : Z.Warmed39 s.vm) (eT : T.heap = h) (W : Wo n0 h E) (N : Fr n0 locs) (hi : E[i]? = some (a, Ar Z .double n f)) {j : Int32} {x : UInt64} {k : Nat} (hj : ¬ j < 0) (hk : j.toNatClampNeg = k) (hl : k < n)
    {g : JFrame} (hg : g.method = m) {rest : List Value} (hs : g.stack = .double x :: .int j :: .ref a :: rest) (hd : decode c.code g.pc = .ok (.dastore, 1)) :
    ∃ T' h' L', Stand p l e R s m args below meth c T' L' cells slots ∧ T'.heap = h' ∧ Fr n0 L' ∧ Wo n0 h' (E.set i (a, Ar Z .double n (upd f k (.double x)))) ∧ ∀ target, Steps p.tables e below (T'.setTop { g with pc := g.pc + 1, stack := rest }) target → Steps p.tables e below (T.setTop g) target := by
  obtain ⟨hge, c', hc, A⟩ := W.at hi
  obtain ⟨T', h', X', e', w', st⟩ := stD X hx hZ eT (a := a) (cl := c') ⟨hc, A.1, A.2.1⟩ (out_of A.2.2.1 hj hk hl) hg hs hd
  rw [hk] at w'
  exact ⟨T', h', _, X', e', Fr.snoc X' N hge, W.wr hi w' (fun c q => q.set rfl k), st⟩
theorem basW (X : Stand p l e R s m args below meth c T locs cells slots) (hx : p.tables.exec = Jvm.exec) (hZ : Z.Warmed39 s.vm) (eT : T.heap = h) (W : Wo n0 h E) (N : Fr n0 locs) (hi : E[i]? = some (a, Ar Z .byte n f)) {j x : Int32} {k : Nat} (hj : ¬ j < 0) (hk : j.toNatClampNeg = k) (hl : k < n)
    {g : JFrame} (hg : g.method = m) {rest : List Value} (hs : g.stack = .int x :: .int j :: .ref a :: rest) (hd : decode c.code g.pc = .ok (.bastore, 1)) :
    ∃ T' h' L', Stand p l e R s m args below meth c T' L' cells slots ∧ T'.heap = h' ∧ Fr n0 L' ∧ Wo n0 h' (E.set i (a, Ar Z .byte n (upd f k (.int x.toInt8.toInt32)))) ∧ ∀ target, Steps p.tables e below (T'.setTop { g with pc := g.pc + 1, stack := rest }) target → Steps p.tables e below (T.setTop g) target := by
  obtain ⟨hge, c', hc, A⟩ := W.at hi
  obtain ⟨T', h', X', e', w', st⟩ := stB X hx hZ eT (a := a) (cl := c') ⟨hc, A.1, A.2.1⟩ (out_of A.2.2.1 hj hk hl) hg hs hd
  rw [hk] at w'
  exact ⟨T', h', _, X', e', Fr.snoc X' N hge, W.wr hi w' (fun c q => q.set (fits_nar_byte x) k), st⟩
theorem newWA (X : Stand p l e R s m args below meth c T locs cells slots) (hx : p.tables.exec = Jvm.exec) (hZ : Z.Warmed39 s.vm) {aty : ArrayType} (hty : newarray.typeOf aty = ty) (w : (Cond.arrayClass ty).before a0 Z = true) (eT : T.heap = h) (W : Wo n0 h E) {g : JFrame} (hg : g.method = m) (hd : decode c.code g.pc = .ok (.newarray aty, 2)) {z : Int32} {rest : List Value} (hs : g.stack = .int z :: rest)
    (hz : ¬ z < 0) (hn : z.toNatClampNeg = n) {cap : Nat} (hcap : n ≤ cap) (hb : cap * 8 ≤ 536870912) (hc : cells + 1 ≤ R.cells) (hl : slots + cap ≤ R.slots) :
    ∃ T' h' b, Stand p l e R s m args below meth c T' locs (cells + 1) (slots + cap) ∧ T'.heap = h' ∧ Wo n0 h' ((b, Ar Z ty n (fun _ => defaultValue ty)) :: E) ∧ ∀ target, Steps p.tables e below (T'.setTop { g with pc := g.pc + 2, stack := .ref b :: rest }) target → Steps p.tables e below (T.setTop g) target := by
  subst hty
  obtain ⟨T', h', cA, X', e', E', A, B, st⟩ := newPE X hx hZ w eT hg hd hs hz (by rw [hn]; exact hcap) hb hc hl rfl
  exact ⟨T', h', h.size, X', e', W.push E' A.1 (Ar.new A hz hn B), st⟩
/-- what an array's copy leaves -/
def cpy (f g : Nat → Value) (sp dp nn : Nat) : Nat → Value := fun k => if dp ≤ k ∧ k < dp + nn then f (sp + (k - dp)) else g k
theorem toNat_of (hn : n < 2 ^ 31) : n.toInt32.toNatClampNeg = n ∧ ¬ n.toInt32 < 0 := by
  have q : n.toInt32.toInt = n := len_toInt hn
  refine ⟨by simp only [Int32.toNatClampNeg, q]; rfl, ?_⟩
  rw [Int32.lt_iff_toInt_lt, q]
  show ¬ (n : Int) < 0
  omega
theorem getD_range (f : Nat → Value) (n k : Nat) (d : Value) (hk : k < n) : ((List.range n).map f).getD k d = f k := by
  rw [List.getD_eq_getElem?_getD, List.getElem?_map, List.getElem?_range hk]; rfl
theorem Ar.arv {c : Cell} (A : Ar Z ty n f c) (hc : h[a]? = some c) (d : Value) : Arv Z h a c.cls ty n.toInt32 ((List.range n).map f) d := by
  obtain ⟨A1, A2, A3, A4, A6, A5⟩ := A
  obtain ⟨q1, q2⟩ := toNat_of A4
  exact ⟨c, ⟨hc, A1, A2⟩, rfl, by rw [q1]; exact A3, q2, fun k hk => by rw [A3] at hk; rw [getD_range f n k d hk]; exact (A5 k hk).1, fun k hk => by rw [A3] at hk; rw [getD_range f n k d hk]; exact (A5 k hk).2⟩
theorem Ar.of_arv {k : ClassId} {d : Value} {vs : List Value} (B : Arv Z h a k ty n.toInt32 vs d) (hn : n < 2 ^ 31) (hk : Z.vm.findClass ("[" ++ ty.toString) = some k) (hf : ∀ k, k < n → vs.getD k d = f k) : ∃ c : Cell, h[a]? = some c ∧ Ar Z ty n f c := by
  obtain ⟨c, A, rfl, S, -, H, G⟩ := B
  rw [(toNat_of hn).1] at S
  exact ⟨c, A.1, A.2.1, A.2.2, S, hn, hk, fun k hk => by rw [← hf k hk]; exact ⟨H k (by rw [S]; exact hk), G k (by rw [S]; exact hk)⟩⟩
theorem cpW (X : Stand p l e R s m args below meth c T locs cells slots) (hx : p.tables.exec = Jvm.exec) (hZ : Z.Warmed39 s.vm) {own : String} {index : Nat} (hown : s.vm.findClass own = some m.cls)
    (w1 : (Cond.methodLink own index Jvm.Stand.acN).before a0 Z = true) (w2 : (Cond.native Jvm.Stand.acN).before a0 Z = true) (w3 : (Cond.static Jvm.Stand.acN).before a0 Z = true) (w4 : (Cond.initialized "java/lang/System").before a0 Z = true) (eT : T.heap = h) (W : Wo n0 h E) (N : Fr n0 locs)
    {j : Nat} (hi : E[i]? = some (a, Ar Z ty n f)) (hj : E[j]? = some (b, Ar Z ty n' f')) (hty : refKind ty = false) {sp dp nn : Int32} {s' d' k' : Nat} (h1 : ¬ sp < 0) (h2 : ¬ dp < 0) (h3 : ¬ nn < 0) (es : sp.toNatClampNeg = s') (ed : dp.toNatClampNeg = d') (ek : nn.toNatClampNeg = k') (h4 : s' + k' ≤ n) (h5 : d' + k' ≤ n')
    {g : JFrame} (hg : g.method = m) (hsize : g.locals.size = c.maxLocals) {rest : List Value} (hs : g.stack = .int nn :: .int dp :: .ref b :: .int sp :: .ref a :: rest) (hd : decode c.code g.pc = .ok (.invokestatic index, 3))
    (hf : 1 ≤ R.frames) {W0 : Nat} (hW : 2 * g.monitorRoom + (rest.map fun v => v.category).sum ≤ W0) (hlo : W0 + (nativeFrameWords "java/lang/System" "arraycopy" 5 + 11) ≤ R.locals) :
    ∃ T' h' L', Stand p l e R s m args below meth c T' L' cells slots ∧ T'.heap = h' ∧ Fr n0 L' ∧ Wo n0 h' (E.set j (b, Ar Z ty n' (cpy f f' s' d' k'))) ∧ ∀ target, Steps p.tables e below (T'.setTop { g with pc := g.pc + 3, stack := rest }) target → Steps p.tables e below (T.setTop g) target := by
  obtain ⟨-, c1, hc1, A⟩ := W.at hi
  obtain ⟨ge, c2, hc2, B⟩ := W.at hj
  have nA := A.2.2.2.1
  have nB := B.2.2.2.1
  obtain ⟨T', h', L, X', e', N', K, V, st⟩ := cpA X hx hZ hown w1 w2 w3 w4 eT (A.arv hc1 .null) (B.arv hc2 .null) (us := (List.range nn.toNatClampNeg).map fun i => ((List.range n).map f).getD (sp.toNatClampNeg + i) .null) (Or.inl ⟨rfl, hty⟩) h1 h2 h3
    (by rw [(toNat_of nA).1, es, ek]; exact h4) (by rw [(toNat_of nB).1, ed, ek]; exact h5) rfl (by rw [List.length_map, List.length_range, ed, ek]; exact h5) N ge hg hsize hs hd hf hW hlo
  subst es ed ek
  obtain ⟨c', hc', A'⟩ := Ar.of_arv (f := cpy f f' sp.toNatClampNeg dp.toNatClampNeg nn.toNatClampNeg) V nB B.2.2.2.2.1 (fun k hk => by
    simp only [List.getD_eq_getElem?_getD, cpy]
    by_cases q1 : k < dp.toNatClampNeg
    · rw [if_neg (fun z => absurd z.1 (Nat.not_le.mpr q1))]
      rw [List.append_assoc, List.getElem?_append_left (by rw [List.length_take, List.length_map, List.length_range]; omega)]
      rw [List.getElem?_take_of_lt q1, List.getElem?_map, List.getElem?_range hk]; rfl
    · by_cases q2 : k < dp.toNatClampNeg + nn.toNatClampNeg
      · rw [if_pos ⟨Nat.le_of_not_lt q1, q2⟩]
        have l1 : (((List.range n').map f').take dp.toNatClampNeg).length = dp.toNatClampNeg := by rw [List.length_take, List.length_map, List.length_range]; omega
        rw [List.append_assoc, List.getElem?_append_right (by rw [l1]; omega), l1, List.getElem?_append_left (by rw [List.length_map, List.length_range]; omega)]
        rw [List.getElem?_map, List.getElem?_range (by omega)]
        show (((List.range n).map f)[sp.toNatClampNeg + (k - dp.toNatClampNeg)]?).getD .null = _
        rw [List.getElem?_map, List.getElem?_range (by omega)]; rfl
      · rw [if_neg (fun z => q2 z.2)]
        have l1 : (((List.range n').map f').take dp.toNatClampNeg).length = dp.toNatClampNeg := by rw [List.length_take, List.length_map, List.length_range]; omega
        rw [List.append_assoc, List.getElem?_append_right (by rw [l1]; omega), l1, List.getElem?_append_right (by rw [List.length_map, List.length_range]; omega), List.length_map, List.length_range, List.getElem?_drop]
        rw [show dp.toNatClampNeg + nn.toNatClampNeg + (k - dp.toNatClampNeg - nn.toNatClampNeg) = k by omega, List.getElem?_map, List.getElem?_range hk]; rfl)
  exact ⟨T', h', L, X', e', N', W.kp hj K hc' A', st⟩
/-- an array of arrays -/
def Pg (Z : State) (t : FieldType) (n : Nat) (f : Nat → Value) (c : Cell) : Prop := Ar Z (.array t) n f c ∧ OvrA Z c.cls t (FieldType.array t).toString
theorem Pg.set {c : Cell} {t : FieldType} (A : Pg Z t n f c) (hv : fits (.array t) v = true) (j : Nat) : Pg Z t n (upd f j v) (c.setSlot j v) := ⟨A.1.set hv j, A.2⟩
theorem Wo.sto {t : FieldType} {j : Nat} (W : Wo n0 h E) (hi : E[i]? = some (a, Pg Z t n f)) (hj : E[j]? = some (b, Ar Z t n' f')) : Sto Z h a (.ref b) := by
  obtain ⟨-, c1, hc1, A, O⟩ := W.at hi
  obtain ⟨-, c2, hc2, B⟩ := W.at hj
  have hB : Arr Z h b c2 t := ⟨hc2, B.1, B.2.1⟩
  refine Sto.ofVA (cl := c1) ⟨hc1, A.1, A.2.1⟩ rfl O ⟨c2, c2.cls, hc2, B.2.2.2.2.1, ?_⟩
  simp [hB.plain, Vm.assignable_self]
theorem aasW (X : Stand p l e R s m args below meth c T locs cells slots) (hx : p.tables.exec = Jvm.exec) (hZ : Z.Warmed39 s.vm) (eT : T.heap = h) (W : Wo n0 h E) (N : Fr n0 locs) {t : FieldType} (hi : E[i]? = some (a, Pg Z t n f)) {j : Int32} {k : Nat} (hj : ¬ j < 0) (hk : j.toNatClampNeg = k) (hl : k < n) (hf : fits (.array t) v = true) (F : Sto Z h a v)
    {g : JFrame} (hg : g.method = m) {rest : List Value} (hs : g.stack = v :: .int j :: .ref a :: rest) (hd : decode c.code g.pc = .ok (.aastore, 1)) :
    ∃ T' h' L', Stand p l e R s m args below meth c T' L' cells slots ∧ T'.heap = h' ∧ Fr n0 L' ∧ Wo n0 h' (E.set i (a, Pg Z t n (upd f k v))) ∧ ∀ target, Steps p.tables e below (T'.setTop { g with pc := g.pc + 1, stack := rest }) target → Steps p.tables e below (T.setTop g) target := by
  obtain ⟨hge, c', hc, A, O⟩ := W.at hi
  obtain ⟨T', h', X', e', w', st⟩ := stR X hx hZ eT (a := a) (cl := c') (ty := .array t) ⟨hc, A.1, A.2.1⟩ (out_of A.2.2.1 hj hk hl) rfl F hg hs hd
  rw [hk] at w'
  exact ⟨T', h', _, X', e', Fr.snoc X' N hge, W.wr hi w' (fun c q => q.set hf k), st⟩
theorem newWR (X : Stand p l e R s m args below meth c T locs cells slots) (hx : p.tables.exec = Jvm.exec) (hZ : Z.Warmed39 s.vm) {own C : String} {t : FieldType} {index : Nat} (hown : s.vm.findClass own = some m.cls) (hC : (FieldType.array t).toString = C) (w1 : (Cond.classLink own index C).before a0 Z = true) (w2 : (Cond.arrayOver (.array t)).before a0 Z = true)
    (eT : T.heap = h) (W : Wo n0 h E) {g : JFrame} (hg : g.method = m) (hd : decode c.code g.pc = .ok (.anewarray index, 3)) {z : Int32} {rest : List Value} (hs : g.stack = .int z :: rest) (hz : ¬ z < 0) (hn : z.toNatClampNeg = n) {cap : Nat} (hcap : n ≤ cap) (hb : cap * 8 ≤ 536870912) (hc : cells + 1 ≤ R.cells) (hl : slots + cap ≤ R.slots) :
    ∃ T' h' b, Stand p l e R s m args below meth c T' locs (cells + 1) (slots + cap) ∧ T'.heap = h' ∧ Wo n0 h' ((b, Pg Z t n (fun _ => .null)) :: E) ∧ ∀ target, Steps p.tables e below (T'.setTop { g with pc := g.pc + 3, stack := .ref b :: rest }) target → Steps p.tables e below (T.setTop g) target := by
  subst hC
  obtain ⟨T', h', cA, X', e', E', A, B, O, st⟩ := newRA X hx hZ hown rfl w1 w2 eT hg hd hs hz (by rw [hn]; exact hcap) hb hc hl rfl
  exact ⟨T', h', h.size, X', e', W.push E' A.1 ⟨Ar.new A hz hn B, O⟩, st⟩
/-- the run comes from the frame F0 at S to the frame F at T -/
def Rch (p : Program) (e : Env) (below : List Frame) (S : State) (F0 : JFrame) (T : State) (F : JFrame) : Prop := ∀ t, Steps p.tables e below (T.setTop F) t → Steps p.tables e below (S.setTop F0) t
abbrev Rch.g {p : Program} {e : Env} {below : List Frame} {S : State} {F0 : JFrame} {T : State} {F : JFrame} (_ : Rch p e below S F0 T F) : JFrame := F
abbrev kI (z : Int32) : Value := .int z
abbrev kJ (z : Int64) : Value := .long z
abbrev kD (z : UInt64) : Value := .double z
abbrev kR (a : Addr) : Value := .ref a
abbrev sI (z : Int32) : Slot := .val (.int z)
abbrev sJ (z : Int64) : Slot := .val (.long z)
abbrev sD (z : UInt64) : Slot := .val (.double z)
abbrev sR (a : Addr) : Slot := .val (.ref a)
abbrev sU : Slot := .unset
abbrev sV : Slot := .second
def zI : Nat → Value := fun _ => .int 0
def zD : Nat → Value := fun _ => .double 0
def zN : Nat → Value := fun _ => .null
theorem mi {α : Type} {L : List α} {d : α} (i : Nat) (h : L[i]? = some d) : d ∈ L := List.mem_of_getElem? h
theorem all0 {α : Type} {Q : α → Prop} : ∀ x ∈ ([] : List α), Q x := fun _ q => nomatch q
theorem allS {α : Type} {Q : α → Prop} {y : α} {L : List α} (q : Q y) (r : ∀ x ∈ L, Q x) : ∀ x ∈ y :: L, Q x := fun x z => (List.mem_cons.mp z).elim (fun u => u ▸ q) (r x)
theorem retA (X : Stand p l e R s m args below meth c T locs cells slots) (hx : p.tables.exec = Jvm.exec) {pc : Nat} {Ls : Array Slot} {t : FieldType} {rest : List Value} (hret : meth.sig.returnType = some t) (ht : t.isReference = true) (hd : decode c.code pc = .ok (.areturn, 1)) {fs : List Frame}
    (hl : ∀ (f : JFrame) (acts : List Action), f.method = m → f.locked = none → f.entered = [] → (doReturn e (T.setTop f) acts (some (.ref a))).1 = T.setFrames fs) : Steps p.tables e below (T.setTop (mkF m pc Ls (.ref a :: rest))) (T.setFrames fs) := by
  have hm' : T.vm.method? m = some meth := X.method'
  show Steps p.tables e below (T.setTop { method := m, pc := pc, locals := Ls, stack := _ :: rest, locked := none }) _
  jvm_step X.here [X.here.top, hx, hd, hm', hret, Value.isRef, ht]
  first | (intro acts; rw [hl _ acts rfl rfl rfl]) | rw [hl _ _ rfl rfl rfl]
  exact Steps.refl _
theorem retD (X : Stand p l e R s m args below meth c T locs cells slots) (hx : p.tables.exec = Jvm.exec) {pc : Nat} {Ls : Array Slot} {z : UInt64} {rest : List Value} (hret : meth.sig.returnType = some .double) (hd : decode c.code pc = .ok (.dreturn, 1)) {fs : List Frame}
    (hl : ∀ (f : JFrame) (acts : List Action), f.method = m → f.locked = none → f.entered = [] → (doReturn e (T.setTop f) acts (some (.double z))).1 = T.setFrames fs) : Steps p.tables e below (T.setTop (mkF m pc Ls (.double z :: rest))) (T.setFrames fs) := by
  have hm' : T.vm.method? m = some meth := X.method'
  have hn : narrow .double (.double z) = .double z := rfl
  show Steps p.tables e below (T.setTop { method := m, pc := pc, locals := Ls, stack := _ :: rest, locked := none }) _
  jvm_step X.here [X.here.top, hx, hd, hm', hret, hn]
  first | (intro acts; rw [hl _ acts rfl rfl rfl]) | rw [hl _ _ rfl rfl rfl]
  exact Steps.refl _
theorem retL (X : Stand p l e R s m args below meth c T locs cells slots) (hx : p.tables.exec = Jvm.exec) {pc : Nat} {Ls : Array Slot} {z : Int64} {rest : List Value} (hret : meth.sig.returnType = some .long) (hd : decode c.code pc = .ok (.lreturn, 1)) {fs : List Frame}
    (hl : ∀ (f : JFrame) (acts : List Action), f.method = m → f.locked = none → f.entered = [] → (doReturn e (T.setTop f) acts (some (.long z))).1 = T.setFrames fs) : Steps p.tables e below (T.setTop (mkF m pc Ls (.long z :: rest))) (T.setFrames fs) := by
  have hm' : T.vm.method? m = some meth := X.method'
  have hn : narrow .long (.long z) = .long z := rfl
  show Steps p.tables e below (T.setTop { method := m, pc := pc, locals := Ls, stack := _ :: rest, locked := none }) _
  jvm_step X.here [X.here.top, hx, hd, hm', hret, hn]
  first | (intro acts; rw [hl _ acts rfl rfl rfl]) | rw [hl _ _ rfl rfl rfl]
  exact Steps.refl _
theorem privB (X : Stand p l e R s m args below meth c T locs cells slots) (hx : p.tables.exec = Jvm.exec) {own : String} {index kk : Nat} {y : MethodName} {bytes : ByteArray} {maxL : Nat} {ret : Option FieldType}
    (hown : s.vm.findClass own = some m.cls) (hlink : (Cond.methodLink own index y).before args s = true) (hinst : (Cond.instanceMethod y).before args s = true) (hplain : (Cond.instantiable y.cls kk).before args s = true)
    (hpriv : s.PrivateAt y) (hcode : (Cond.code y bytes maxL ret).before args s = true) (hy : y.cls ≠ "java/lang/invoke/MethodHandle" ∧ y.cls ≠ "java/lang/invoke/VarHandle")
    {W : Nat} {Pre : Free.Pt → Array Value → Prop} {Post : Free.Pt → Array Value → Option Value → Free.Pt → Prop} (hK : Free.Back l R p e below s args y 3 W Pre Post)
    {g : JFrame} (hg : g.method = m) (hsize : g.locals.size = c.maxLocals) {s₀ : State} (hcome : Steps p.tables e below s₀ (T.setTop g)) {cell : Cell} (hcell : T.heap[a]? = some cell) (hobj : ∀ q, cell.vm ≠ .statics q)
    {argsL rest : List Value} (hlen : ∀ sig, parseMethodDescriptor y.desc = some sig → argsL.length = sig.parameters.length)
    (hstack : g.stack = argsL.reverse ++ .ref a :: rest) (hW : 2 * g.monitorRoom + (rest.map fun v => v.category).sum ≤ W) (hdg : decode c.code g.pc = .ok (.invokevirtual index, 3))
    (hpre : ∀ vm₁, s.WarmedH vm₁ → Pre ⟨T.setVm vm₁, locs, cells, slots⟩ (.ref a :: argsL).toArray) :
    ∃ (v : Option Value) (vm₁ : Vm) (B : Free.Pt), s.WarmedH vm₁ ∧ Stand p l e R s m args below meth c B.U B.locs B.cells B.slots ∧ Post ⟨T.setVm vm₁, locs, cells, slots⟩ (.ref a :: argsL).toArray v B ∧
      Steps p.tables e below s₀ (B.U.setTop { g with pc := g.pc + 3, stack := v.toList ++ rest }) := by
  obtain ⟨mk, methM, hnamed, hmethM, hstM, habM⟩ := Cond.instanceMethod_spec hinst
  obtain ⟨methM', cM, hmethM', -, -, -, -, -, -, hsigM⟩ := Cond.code_spec hnamed hcode
  cases hmethM.symm.trans hmethM'
  obtain ⟨c2, kP, q1, q2, -, q4, -⟩ := Cond.instantiable_spec hplain
  have q5 := findClass_of_methodNamed hnamed
  cases q1.symm.trans q5
  have hkPi : kP.isInterface = false := by cases hq : kP.isInterface <;> simp [hq] at q4 ⊢
  have hselP : selectMethod e.platform s.vm cell.cls mk = .method mk := selectMethod_private hmethM (hpriv mk methM hnamed hmethM)
  obtain ⟨vm₁, X₁, hstep₁⟩ := X.invokevirtual hx hown hlink hnamed hmethM hstM q2 hkPi hy (a := a) (cell := cell) hcell hobj hselP hmethM habM q2 hkPi (g := g) hg (argsL := argsL) (rest := rest) (hlen _ hsigM) hstack hdg
  have hW₁ : s.WarmedH vm₁ := X₁.warmed
  obtain ⟨v, B, X', hpost, hsteps⟩ := hK m meth c ⟨T.setVm vm₁, locs, cells, slots⟩ { g with stack := rest } (.invokevirtual index) mk (.ref a :: argsL).toArray X₁ hg hsize hdg hW (X₁.named hnamed) (hpre vm₁ hW₁)
  exact ⟨v, vm₁, B, hW₁, X', hpost, (hcome.trans (hstep₁ _ fun acts => by rw [doInvoke_state]; exact Steps.refl _)).trans hsteps⟩
end Kit
end Jvm.OwnKit
namespace Jvm.Pilot.@@N@@
open Jvm Jvm.ClassFile Sem Op Lib Jvm.Free Jvm.Stand Jvm.LawKit Jvm.RoadKit Bundle Jvm.Pilot.@@N@@.Jvm.D
open Jvm.OwnKit (Wo Ob Ar Pg Dist upd upd_same upd_other cpy getR putW newWO newWA newWR ialW dalW balW aalW lenW iasW dasW basW aasW cpW Rch zI zD zN mi kI kJ kD kR sI sJ sD sR sU sV)
theorem own_add (a b : Nat) : Int32.ofNat a + Int32.ofNat b = Int32.ofNat (a + b) := (Int32.ofNat_add a b).symm
theorem own_int {a : Nat} (h : a < 2147483648) : (Int32.ofNat a).toInt = a := Int32.toInt_ofNat_of_lt h
theorem own_sub {a b : Nat} (h : b ≤ a) (ha : a < 2147483648) : Int32.ofNat a - Int32.ofNat b = Int32.ofNat (a - b) := by
  apply Int32.toInt_inj.mp
  have h1 := c_isub (Int32.ofNat a) (Int32.ofNat b)
  have h2 := rng32 (Int32.ofNat a - Int32.ofNat b)
  rw [own_int ha, own_int (by omega)] at h1
  rw [own_int (by omega)]
  omega
theorem own_lt {a b : Nat} (h : a < b) (hb : b < 2147483648) : Int32.ofNat a < Int32.ofNat b := by
  rw [Int32.lt_iff_toInt_lt, own_int (by omega), own_int hb]; omega
theorem own_nlt {a b : Nat} (h : b ≤ a) (ha : a < 2147483648) : ¬ (Int32.ofNat a < Int32.ofNat b) := by
  rw [Int32.lt_iff_toInt_lt, own_int ha, own_int (by omega)]; omega
theorem own_ne {a b : Nat} (h : a ≠ b) (ha : a < 2147483648) (hb : b < 2147483648) : ¬ (Int32.ofNat a = Int32.ofNat b) := fun q => by
  have q' := congrArg Int32.toInt q
  rw [own_int ha, own_int hb] at q'; omega
theorem own_nn {a : Nat} (h : a < 2147483648) : ¬ (Int32.ofNat a < 0) := by
  rw [Int32.lt_iff_toInt_lt, own_int h]; show ¬ (a : Int) < 0; omega
theorem own_tn {a : Nat} (h : a < 2147483648) : (Int32.ofNat a).toNatClampNeg = a := by
  simp only [Int32.toNatClampNeg, own_int h]; rfl
theorem own_rem (x y : Int32) (N : Nat) (hy : y.toInt = N) (hN : 0 < N) (hN' : N < 2147483648) (h0 : 0 ≤ x.toInt) : ∃ r : Nat, r < N ∧ x - x / y * y = Int32.ofNat r := by
  rw [irem_eq_mod]
  have h1 := (c_irem x y N hy).1 h0
  have h2 := Int.emod_nonneg x.toInt (b := (N : Int)) (by omega)
  have h3 := Int.emod_lt_of_pos x.toInt (b := (N : Int)) (by omega)
  refine ⟨(x.toInt % N).toNat, by omega, ?_⟩
  apply Int32.toInt_inj.mp
  rw [h1, Int32.toInt_ofNat_of_lt (by omega)]
  omega
/-- the int in a value -/
def own_iv : Value → Int32
  | .int z => z
  | _ => 0
theorem own_fits {v : Value} (h : fits .int v = true) : v = .int (own_iv v) := by cases v <;> simp [fits] at h ⊢ <;> rfl
theorem own_arI {n0 : Nat} {h : Heap} {E : List (Addr × (Cell → Prop))} {i : Nat} {a : Addr} {Z : State} {n : Nat} {f : Nat → Value} (W : Wo n0 h E) (hi : E[i]? = some (a, Ar Z .int n f)) {k : Nat} (hk : k < n) : f k = .int (own_iv (f k)) := by
  obtain ⟨-, c, -, A⟩ := W.at hi
  exact own_fits (A.2.2.2.2.2 k hk).2
def own_bi (b : Bool) : Int32 := if b then 1 else 0

def nsR : List (String × String) := [("keys", "[I"), ("ranges", "[I"), ("nextShape", "[I"), ("firstChoice", "[I"), ("firstKey", "[I"), ("keyLength", "[I"), ("firstRange", "[I"), ("firstAction", "[I"), ("firstCommand", "[I"), ("firstTransition", "[I"), ("actions", "[I"), ("commands", "[I"), ("successors", "[I"), ("probabilities", "[D"), ("shapeCount", "I"), ("lastRow", "[I"), ("rowCount", "I")]
theorem own_lR {Z : State} {a0 : Array Value} (hw : ∀ d ∈ tables_1, d.before a0 Z = true) : ∀ x ∈ nsR, Laid Z a0 "com/example/sambre/sambre/engine/Rows" "com/example/sambre/sambre/engine/Rows" x.1 x.2 := Jvm.OwnKit.allS (Or.inl (hw _ (mi 18 rfl))) (Jvm.OwnKit.allS (Or.inl (hw _ (mi 20 rfl))) (Jvm.OwnKit.allS (Or.inl (hw _ (mi 22 rfl))) (Jvm.OwnKit.allS (Or.inl (hw _ (mi 24 rfl))) (Jvm.OwnKit.allS (Or.inl (hw _ (mi 26 rfl))) (Jvm.OwnKit.allS (Or.inl (hw _ (mi 28 rfl))) (Jvm.OwnKit.allS (Or.inl (hw _ (mi 30 rfl))) (Jvm.OwnKit.allS (Or.inl (hw _ (mi 32 rfl))) (Jvm.OwnKit.allS (Or.inl (hw _ (mi 34 rfl))) (Jvm.OwnKit.allS (Or.inl (hw _ (mi 36 rfl))) (Jvm.OwnKit.allS (Or.inl (hw _ (mi 38 rfl))) (Jvm.OwnKit.allS (Or.inl (hw _ (mi 40 rfl))) (Jvm.OwnKit.allS (Or.inl (hw _ (mi 42 rfl))) (Jvm.OwnKit.allS (Or.inl (hw _ (mi 45 rfl))) (Jvm.OwnKit.allS (Or.inl (hw _ (mi 109 rfl))) (Jvm.OwnKit.allS (Or.inl (hw _ (mi 113 rfl))) (Jvm.OwnKit.allS (Or.inl (hw _ (mi 130 rfl))) (Jvm.OwnKit.all0)))))))))))))))))
theorem own_dR {Z : State} {a0 : Array Value} (hw : ∀ d ∈ tables_1, d.before a0 Z = true) : Dist Z "com/example/sambre/sambre/engine/Rows" nsR := Dist.of (own_lR hw) (by decide +kernel) (by decide +kernel)
theorem own_vR : nsR.map (fun x => (parseFieldDescriptor x.2).map defaultValue) = ([.null, .null, .null, .null, .null, .null, .null, .null, .null, .null, .null, .null, .null, .null, (.int (0 : Int32)), .null, (.int (0 : Int32))] : List Value).map some := by first | rfl | decide +kernel
abbrev oR (Z : State) (vs : List Value) : Cell → Prop := Ob Z "com/example/sambre/sambre/engine/Rows" nsR vs
def nsB : List (String × String) := [("key", "[I"), ("keyLength", "I"), ("varying", "[D"), ("varyingCount", "I"), ("firstAction", "[I"), ("actions", "[I"), ("firstCommand", "[I"), ("commands", "[I"), ("firstTransition", "[I"), ("successors", "[I"), ("probabilities", "[D"), ("choiceCount", "I"), ("actionCount", "I"), ("commandCount", "I"), ("transitionCount", "I"), ("places", "Ljava/util/Map;")]
theorem own_lB {Z : State} {a0 : Array Value} (hw : ∀ d ∈ tables_1, d.before a0 Z = true) : ∀ x ∈ nsB, Laid Z a0 "com/example/sambre/sambre/engine/Rows$Builder" "com/example/sambre/sambre/engine/Rows$Builder" x.1 x.2 := Jvm.OwnKit.allS (Or.inl (hw _ (mi 73 rfl))) (Jvm.OwnKit.allS (Or.inl (hw _ (mi 75 rfl))) (Jvm.OwnKit.allS (Or.inl (hw _ (mi 77 rfl))) (Jvm.OwnKit.allS (Or.inl (hw _ (mi 79 rfl))) (Jvm.OwnKit.allS (Or.inl (hw _ (mi 54 rfl))) (Jvm.OwnKit.allS (Or.inl (hw _ (mi 56 rfl))) (Jvm.OwnKit.allS (Or.inl (hw _ (mi 58 rfl))) (Jvm.OwnKit.allS (Or.inl (hw _ (mi 60 rfl))) (Jvm.OwnKit.allS (Or.inl (hw _ (mi 62 rfl))) (Jvm.OwnKit.allS (Or.inl (hw _ (mi 64 rfl))) (Jvm.OwnKit.allS (Or.inl (hw _ (mi 66 rfl))) (Jvm.OwnKit.allS (Or.inl (hw _ (mi 81 rfl))) (Jvm.OwnKit.allS (Or.inl (hw _ (mi 83 rfl))) (Jvm.OwnKit.allS (Or.inl (hw _ (mi 85 rfl))) (Jvm.OwnKit.allS (Or.inl (hw _ (mi 87 rfl))) (Jvm.OwnKit.allS (Or.inl (hw _ (mi 89 rfl))) (Jvm.OwnKit.all0))))))))))))))))
theorem own_dB {Z : State} {a0 : Array Value} (hw : ∀ d ∈ tables_1, d.before a0 Z = true) : Dist Z "com/example/sambre/sambre/engine/Rows$Builder" nsB := Dist.of (own_lB hw) (by decide +kernel) (by decide +kernel)
theorem own_vB : nsB.map (fun x => (parseFieldDescriptor x.2).map defaultValue) = ([.null, (.int (0 : Int32)), .null, (.int (0 : Int32)), .null, .null, .null, .null, .null, .null, .null, (.int (0 : Int32)), (.int (0 : Int32)), (.int (0 : Int32)), (.int (0 : Int32)), .null] : List Value).map some := by first | rfl | decide +kernel
abbrev oB (Z : State) (vs : List Value) : Cell → Prop := Ob Z "com/example/sambre/sambre/engine/Rows$Builder" nsB vs
theorem pd_ri : parseMethodDescriptor "()V" = some ⟨[], none⟩ := by decide +kernel
theorem pn_Rows : plainName "com/example/sambre/sambre/engine/Rows" = true := by first | (simp [plainName, overriddenIn]; done) | decide +kernel
theorem d_ri_0 : decode prog_87_method_1_code 0 = .ok (.aload_n 0, 1) := by decide +kernel
theorem d_ri_1 : decode prog_87_method_1_code 1 = .ok (.invokespecial 1, 3) := by decide +kernel
theorem d_ri_4 : decode prog_87_method_1_code 4 = .ok (.aload_n 0, 1) := by decide +kernel
theorem d_ri_5 : decode prog_87_method_1_code 5 = .ok (.iconst 0, 1) := by decide +kernel
theorem d_ri_6 : decode prog_87_method_1_code 6 = .ok (.newarray .int, 2) := by decide +kernel
theorem d_ri_8 : decode prog_87_method_1_code 8 = .ok (.putfield 7, 3) := by decide +kernel
theorem d_ri_11 : decode prog_87_method_1_code 11 = .ok (.aload_n 0, 1) := by decide +kernel
theorem d_ri_12 : decode prog_87_method_1_code 12 = .ok (.iconst 0, 1) := by decide +kernel
theorem d_ri_13 : decode prog_87_method_1_code 13 = .ok (.newarray .int, 2) := by decide +kernel
theorem d_ri_15 : decode prog_87_method_1_code 15 = .ok (.putfield 13, 3) := by decide +kernel
theorem d_ri_18 : decode prog_87_method_1_code 18 = .ok (.aload_n 0, 1) := by decide +kernel
theorem d_ri_19 : decode prog_87_method_1_code 19 = .ok (.bipush 16, 2) := by decide +kernel
theorem d_ri_21 : decode prog_87_method_1_code 21 = .ok (.newarray .int, 2) := by decide +kernel
theorem d_ri_23 : decode prog_87_method_1_code 23 = .ok (.putfield 16, 3) := by decide +kernel
theorem d_ri_26 : decode prog_87_method_1_code 26 = .ok (.aload_n 0, 1) := by decide +kernel
theorem d_ri_27 : decode prog_87_method_1_code 27 = .ok (.bipush 17, 2) := by decide +kernel
theorem d_ri_29 : decode prog_87_method_1_code 29 = .ok (.newarray .int, 2) := by decide +kernel
theorem d_ri_31 : decode prog_87_method_1_code 31 = .ok (.putfield 19, 3) := by decide +kernel
theorem d_ri_34 : decode prog_87_method_1_code 34 = .ok (.aload_n 0, 1) := by decide +kernel
theorem d_ri_35 : decode prog_87_method_1_code 35 = .ok (.bipush 17, 2) := by decide +kernel
theorem d_ri_37 : decode prog_87_method_1_code 37 = .ok (.newarray .int, 2) := by decide +kernel
theorem d_ri_39 : decode prog_87_method_1_code 39 = .ok (.putfield 22, 3) := by decide +kernel
theorem d_ri_42 : decode prog_87_method_1_code 42 = .ok (.aload_n 0, 1) := by decide +kernel
theorem d_ri_43 : decode prog_87_method_1_code 43 = .ok (.bipush 16, 2) := by decide +kernel
theorem d_ri_45 : decode prog_87_method_1_code 45 = .ok (.newarray .int, 2) := by decide +kernel
theorem d_ri_47 : decode prog_87_method_1_code 47 = .ok (.putfield 25, 3) := by decide +kernel
theorem d_ri_50 : decode prog_87_method_1_code 50 = .ok (.aload_n 0, 1) := by decide +kernel
theorem d_ri_51 : decode prog_87_method_1_code 51 = .ok (.bipush 17, 2) := by decide +kernel
theorem d_ri_53 : decode prog_87_method_1_code 53 = .ok (.newarray .int, 2) := by decide +kernel
theorem d_ri_55 : decode prog_87_method_1_code 55 = .ok (.putfield 28, 3) := by decide +kernel
theorem d_ri_58 : decode prog_87_method_1_code 58 = .ok (.aload_n 0, 1) := by decide +kernel
theorem d_ri_59 : decode prog_87_method_1_code 59 = .ok (.bipush 17, 2) := by decide +kernel
theorem d_ri_61 : decode prog_87_method_1_code 61 = .ok (.newarray .int, 2) := by decide +kernel
theorem d_ri_63 : decode prog_87_method_1_code 63 = .ok (.putfield 31, 3) := by decide +kernel
theorem d_ri_66 : decode prog_87_method_1_code 66 = .ok (.aload_n 0, 1) := by decide +kernel
theorem d_ri_67 : decode prog_87_method_1_code 67 = .ok (.bipush 17, 2) := by decide +kernel
theorem d_ri_69 : decode prog_87_method_1_code 69 = .ok (.newarray .int, 2) := by decide +kernel
theorem d_ri_71 : decode prog_87_method_1_code 71 = .ok (.putfield 34, 3) := by decide +kernel
theorem d_ri_74 : decode prog_87_method_1_code 74 = .ok (.aload_n 0, 1) := by decide +kernel
theorem d_ri_75 : decode prog_87_method_1_code 75 = .ok (.bipush 17, 2) := by decide +kernel
theorem d_ri_77 : decode prog_87_method_1_code 77 = .ok (.newarray .int, 2) := by decide +kernel
theorem d_ri_79 : decode prog_87_method_1_code 79 = .ok (.putfield 37, 3) := by decide +kernel
theorem d_ri_82 : decode prog_87_method_1_code 82 = .ok (.aload_n 0, 1) := by decide +kernel
theorem d_ri_83 : decode prog_87_method_1_code 83 = .ok (.bipush 16, 2) := by decide +kernel
theorem d_ri_85 : decode prog_87_method_1_code 85 = .ok (.newarray .int, 2) := by decide +kernel
theorem d_ri_87 : decode prog_87_method_1_code 87 = .ok (.putfield 40, 3) := by decide +kernel
theorem d_ri_90 : decode prog_87_method_1_code 90 = .ok (.aload_n 0, 1) := by decide +kernel
theorem d_ri_91 : decode prog_87_method_1_code 91 = .ok (.bipush 16, 2) := by decide +kernel
theorem d_ri_93 : decode prog_87_method_1_code 93 = .ok (.newarray .int, 2) := by decide +kernel
theorem d_ri_95 : decode prog_87_method_1_code 95 = .ok (.putfield 43, 3) := by decide +kernel
theorem d_ri_98 : decode prog_87_method_1_code 98 = .ok (.aload_n 0, 1) := by decide +kernel
theorem d_ri_99 : decode prog_87_method_1_code 99 = .ok (.bipush 64, 2) := by decide +kernel
theorem d_ri_101 : decode prog_87_method_1_code 101 = .ok (.newarray .int, 2) := by decide +kernel
theorem d_ri_103 : decode prog_87_method_1_code 103 = .ok (.putfield 46, 3) := by decide +kernel
theorem d_ri_106 : decode prog_87_method_1_code 106 = .ok (.aload_n 0, 1) := by decide +kernel
theorem d_ri_107 : decode prog_87_method_1_code 107 = .ok (.bipush 64, 2) := by decide +kernel
theorem d_ri_109 : decode prog_87_method_1_code 109 = .ok (.newarray .double, 2) := by decide +kernel
theorem d_ri_111 : decode prog_87_method_1_code 111 = .ok (.putfield 49, 3) := by decide +kernel
theorem d_ri_114 : decode prog_87_method_1_code 114 = .ok (.return_, 1) := by decide +kernel
theorem ef_rmRI (m : MethodId) (r : Addr) : entryFrame m #[(.ref r)] 1 = mkF m 0 #[.val (.ref r)] [] := by first | (simp [entryFrame, mkF, argsToLocals, Value.category]; done) | rfl
def QrmRI (Z : State) (r : Addr) (Rr : List (Addr × (Cell → Prop))) (n0 : Nat) (v : Option Value) (h : Heap) (L : List Loc) : Prop := ∃ a43 a40 a37 a34 a31 a28 a25 a22 a19 a16 a13 a10 a7 a4, v = none ∧ Fr n0 L ∧ Wo n0 h ((a43, Ar Z .double 64 zD) :: (a40, Ar Z .int 64 zI) :: (a37, Ar Z .int 16 zI) :: (a34, Ar Z .int 16 zI) :: (a31, Ar Z .int 17 zI) :: (a28, Ar Z .int 17 zI) :: (a25, Ar Z .int 17 zI) :: (a22, Ar Z .int 17 zI) :: (a19, Ar Z .int 16 zI) :: (a16, Ar Z .int 17 zI) :: (a13, Ar Z .int 17 zI) :: (a10, Ar Z .int 16 zI) :: (a7, Ar Z .int 0 zI) :: (a4, Ar Z .int 0 zI) :: (r, oR Z [(kR a4), (kR a7), (kR a10), (kR a13), (kR a16), (kR a19), (kR a22), (kR a25), (kR a28), (kR a31), (kR a34), (kR a37), (kR a40), (kR a43), (kI 0), .null, (kI 0)]) :: Rr)
set_option maxRecDepth 65536 in
set_option maxHeartbeats 40000000 in
theorem rmRI (l : Launch) (Z : State) (a0 : Array Value) (hw : ∀ d ∈ tables_1, d.before a0 Z = true) (ws : List Jvm.Cond) (r : Addr) (Rr : List (Addr × (Cell → Prop))) (h0 : Heap) (n0 : Nat) (W0 : Wo n0 h0 ((r, oR Z [.null, .null, .null, .null, .null, .null, .null, .null, .null, .null, .null, .null, .null, .null, (kI 0), .null, (kI 0)]) :: Rr)) :
    MetFree l (⟨"com/example/sambre/sambre/engine/Rows", "<init>", "()V"⟩ : MethodName) (head1 (Jvm.Cond.code (⟨"com/example/sambre/sambre/engine/Rows", "<init>", "()V"⟩ : MethodName) prog_87_method_1_code 1 none :: ws) ({ frames := 1, cells := 14, slots := 294, locals := 12 } : Room)) (fun aa U => aa = #[(.ref r)] ∧ Z.Warmed39 U.vm ∧ U.heap = h0) (fun _ _ _ _ _ => True) (fun _ U ou U' => ∃ v L, ou = .returned v ∧ QrmRI Z r Rr n0 v U'.heap L ∧ FrameEnd U ou U' L ({ frames := 1, cells := 14, slots := 294, locals := 12 } : Room).cells ({ frames := 1, cells := 14, slots := 294, locals := 12 } : Room).slots) := by
  refine MetFree.of_bodySF (plainFor_of_name pn_Rows) hisR ?_
  intro p e s m args below meth c s₁ Bd hml0 hP hK
  obtain ⟨rfl, hZ, hh⟩ := hP
  have hx := Bd.exec
  have hby := Bd.bytes
  have hml : c.maxLocals = 1 := hml0
  have hown : s.vm.findClass "com/example/sambre/sambre/engine/Rows" = some m.cls := findClass_of_methodNamed Bd.named
  have hnm := (name_of_methodNamed Bd.named Bd.method).1
  have X0 : Stand p l e ({ frames := 1, cells := 14, slots := 294, locals := 12 } : Room) s m #[(.ref r)] below meth c s₁ [] 0 0 := Stand.of_body Bd
  have e0 : s₁.heap = h0 := by rw [← hh, Bd.state]; rfl
  have N0 := Fr.nil n0
  obtain ⟨F0, hF0⟩ : ∃ F, F = mkF m 0 #[.val (.ref r)] [] := ⟨_, rfl⟩
  have pre0 : ∀ t, Steps p.tables e below (s₁.setTop F0) t → Steps p.tables e below (s₁.setTop (entryFrame m #[(.ref r)] 1)) t := fun t k => castTop ((ef_rmRI m r).trans hF0.symm) k
  have K0 : Rch p e below s₁ F0 s₁ (mkF m 0 #[.val (.ref r)] []) := fun t k => castTop hF0 k
  have K1 : Rch p e below s₁ F0 s₁ (mkF m 1 #[sR r] [(kR r)]) := fun t k => K0 t (XS.aloadN X0.here hx rfl (hb hby d_ri_0) rfl rfl k)
  obtain ⟨T2, X2, e2, st2⟩ := initO X0 hx hZ hown (hw _ (mi 14 rfl)) (hw _ (mi 15 rfl)) (hw _ (mi 16 rfl)) e0 (g := K1.g) rfl (by rw [hml]; rfl) rfl (hb hby d_ri_1) (by decide) (W := 0) (by show 2 * 0 + _ ≤ _; exact Nat.le_of_eq rfl) (by decide)
  have K3 : Rch p e below s₁ F0 T2 (mkF m 6 #[sR r] [(kI 0), (kR r)]) := fun t k => K1 t (st2 t (by
    refine XS.aloadN X2.here hx rfl (hb hby d_ri_4) rfl rfl ?_
    refine XS.iconst X2.here hx rfl (hb hby d_ri_5) ?_
    exact k))
  obtain ⟨T4, h4, a4, X4, e4, W4q, st4⟩ := newWA X2 hx hZ (aty := .int) (ty := .int) rfl (hw _ (mi 7 rfl)) e2 W0 (g := K3.g) rfl (hb hby d_ri_6) (z := (0 : Int32)) (n := 0) rfl (by decide) (by decide) (cap := 0) (by decide) (by decide) (by decide : 0 + 1 ≤ _) (by decide : 0 + 0 ≤ _)
  have W4 : Wo n0 h4 ((a4, Ar Z .int 0 zI) :: (r, oR Z [.null, .null, .null, .null, .null, .null, .null, .null, .null, .null, .null, .null, .null, .null, (kI 0), .null, (kI 0)]) :: Rr) := W4q
  obtain ⟨T5, h5, L5, X5, e5, N5, W5q, st5⟩ := putW X4 hx hZ hown (host := "") (Or.inl (hw _ (mi 17 rfl))) e4 W4 N0 (own_dR hw) (Or.inl (hw _ (mi 18 rfl))) (hw _ (mi 9 rfl)) (ty := (.array .int)) (by decide +kernel) (i := 1) (a := r) rfl (j := 0) rfl rfl (v := (.ref a4)) rfl rfl (g := (mkF m 8 #[sR r] [(kR a4), (kR r)])) rfl rfl (hb hby d_ri_8)
  have W5 : Wo n0 h5 ((a4, Ar Z .int 0 zI) :: (r, oR Z [(kR a4), .null, .null, .null, .null, .null, .null, .null, .null, .null, .null, .null, .null, .null, (kI 0), .null, (kI 0)]) :: Rr) := W5q
  have K6 : Rch p e below s₁ F0 T5 (mkF m 13 #[sR r] [(kI 0), (kR r)]) := fun t k => K3 t (st4 t (st5 t (by
    refine XS.aloadN X5.here hx rfl (hb hby d_ri_11) rfl rfl ?_
    refine XS.iconst X5.here hx rfl (hb hby d_ri_12) ?_
    exact k)))
  obtain ⟨T7, h7, a7, X7, e7, W7q, st7⟩ := newWA X5 hx hZ (aty := .int) (ty := .int) rfl (hw _ (mi 7 rfl)) e5 W5 (g := K6.g) rfl (hb hby d_ri_13) (z := (0 : Int32)) (n := 0) rfl (by decide) (by decide) (cap := 0) (by decide) (by decide) (by decide : 1 + 1 ≤ _) (by decide : 0 + 0 ≤ _)
  have W7 : Wo n0 h7 ((a7, Ar Z .int 0 zI) :: (a4, Ar Z .int 0 zI) :: (r, oR Z [(kR a4), .null, .null, .null, .null, .null, .null, .null, .null, .null, .null, .null, .null, .null, (kI 0), .null, (kI 0)]) :: Rr) := W7q
  obtain ⟨T8, h8, L8, X8, e8, N8, W8q, st8⟩ := putW X7 hx hZ hown (host := "") (Or.inl (hw _ (mi 19 rfl))) e7 W7 N5 (own_dR hw) (Or.inl (hw _ (mi 20 rfl))) (hw _ (mi 9 rfl)) (ty := (.array .int)) (by decide +kernel) (i := 2) (a := r) rfl (j := 1) rfl rfl (v := (.ref a7)) rfl rfl (g := (mkF m 15 #[sR r] [(kR a7), (kR r)])) rfl rfl (hb hby d_ri_15)
  have W8 : Wo n0 h8 ((a7, Ar Z .int 0 zI) :: (a4, Ar Z .int 0 zI) :: (r, oR Z [(kR a4), (kR a7), .null, .null, .null, .null, .null, .null, .null, .null, .null, .null, .null, .null, (kI 0), .null, (kI 0)]) :: Rr) := W8q
  have K9 : Rch p e below s₁ F0 T8 (mkF m 21 #[sR r] [(kI 16), (kR r)]) := fun t k => K6 t (st7 t (st8 t (by
    refine XS.aloadN X8.here hx rfl (hb hby d_ri_18) rfl rfl ?_
    refine XS.bipush X8.here hx rfl (hb hby d_ri_19) ?_
    exact k)))
  obtain ⟨T10, h10, a10, X10, e10, W10q, st10⟩ := newWA X8 hx hZ (aty := .int) (ty := .int) rfl (hw _ (mi 7 rfl)) e8 W8 (g := K9.g) rfl (hb hby d_ri_21) (z := (16 : Int32)) (n := 16) rfl (by decide) (by decide) (cap := 16) (by decide) (by decide) (by decide : 2 + 1 ≤ _) (by decide : 0 + 16 ≤ _)
  have W10 : Wo n0 h10 ((a10, Ar Z .int 16 zI) :: (a7, Ar Z .int 0 zI) :: (a4, Ar Z .int 0 zI) :: (r, oR Z [(kR a4), (kR a7), .null, .null, .null, .null, .null, .null, .null, .null, .null, .null, .null, .null, (kI 0), .null, (kI 0)]) :: Rr) := W10q
  obtain ⟨T11, h11, L11, X11, e11, N11, W11q, st11⟩ := putW X10 hx hZ hown (host := "") (Or.inl (hw _ (mi 21 rfl))) e10 W10 N8 (own_dR hw) (Or.inl (hw _ (mi 22 rfl))) (hw _ (mi 9 rfl)) (ty := (.array .int)) (by decide +kernel) (i := 3) (a := r) rfl (j := 2) rfl rfl (v := (.ref a10)) rfl rfl (g := (mkF m 23 #[sR r] [(kR a10), (kR r)])) rfl rfl (hb hby d_ri_23)
  have W11 : Wo n0 h11 ((a10, Ar Z .int 16 zI) :: (a7, Ar Z .int 0 zI) :: (a4, Ar Z .int 0 zI) :: (r, oR Z [(kR a4), (kR a7), (kR a10), .null, .null, .null, .null, .null, .null, .null, .null, .null, .null, .null, (kI 0), .null, (kI 0)]) :: Rr) := W11q
  have K12 : Rch p e below s₁ F0 T11 (mkF m 29 #[sR r] [(kI 17), (kR r)]) := fun t k => K9 t (st10 t (st11 t (by
    refine XS.aloadN X11.here hx rfl (hb hby d_ri_26) rfl rfl ?_
    refine XS.bipush X11.here hx rfl (hb hby d_ri_27) ?_
    exact k)))
  obtain ⟨T13, h13, a13, X13, e13, W13q, st13⟩ := newWA X11 hx hZ (aty := .int) (ty := .int) rfl (hw _ (mi 7 rfl)) e11 W11 (g := K12.g) rfl (hb hby d_ri_29) (z := (17 : Int32)) (n := 17) rfl (by decide) (by decide) (cap := 17) (by decide) (by decide) (by decide : 3 + 1 ≤ _) (by decide : 16 + 17 ≤ _)
  have W13 : Wo n0 h13 ((a13, Ar Z .int 17 zI) :: (a10, Ar Z .int 16 zI) :: (a7, Ar Z .int 0 zI) :: (a4, Ar Z .int 0 zI) :: (r, oR Z [(kR a4), (kR a7), (kR a10), .null, .null, .null, .null, .null, .null, .null, .null, .null, .null, .null, (kI 0), .null, (kI 0)]) :: Rr) := W13q
  obtain ⟨T14, h14, L14, X14, e14, N14, W14q, st14⟩ := putW X13 hx hZ hown (host := "") (Or.inl (hw _ (mi 23 rfl))) e13 W13 N11 (own_dR hw) (Or.inl (hw _ (mi 24 rfl))) (hw _ (mi 9 rfl)) (ty := (.array .int)) (by decide +kernel) (i := 4) (a := r) rfl (j := 3) rfl rfl (v := (.ref a13)) rfl rfl (g := (mkF m 31 #[sR r] [(kR a13), (kR r)])) rfl rfl (hb hby d_ri_31)
  have W14 : Wo n0 h14 ((a13, Ar Z .int 17 zI) :: (a10, Ar Z .int 16 zI) :: (a7, Ar Z .int 0 zI) :: (a4, Ar Z .int 0 zI) :: (r, oR Z [(kR a4), (kR a7), (kR a10), (kR a13), .null, .null, .null, .null, .null, .null, .null, .null, .null, .null, (kI 0), .null, (kI 0)]) :: Rr) := W14q
  have K15 : Rch p e below s₁ F0 T14 (mkF m 37 #[sR r] [(kI 17), (kR r)]) := fun t k => K12 t (st13 t (st14 t (by
    refine XS.aloadN X14.here hx rfl (hb hby d_ri_34) rfl rfl ?_
    refine XS.bipush X14.here hx rfl (hb hby d_ri_35) ?_
    exact k)))
  obtain ⟨T16, h16, a16, X16, e16, W16q, st16⟩ := newWA X14 hx hZ (aty := .int) (ty := .int) rfl (hw _ (mi 7 rfl)) e14 W14 (g := K15.g) rfl (hb hby d_ri_37) (z := (17 : Int32)) (n := 17) rfl (by decide) (by decide) (cap := 17) (by decide) (by decide) (by decide : 4 + 1 ≤ _) (by decide : 33 + 17 ≤ _)
  have W16 : Wo n0 h16 ((a16, Ar Z .int 17 zI) :: (a13, Ar Z .int 17 zI) :: (a10, Ar Z .int 16 zI) :: (a7, Ar Z .int 0 zI) :: (a4, Ar Z .int 0 zI) :: (r, oR Z [(kR a4), (kR a7), (kR a10), (kR a13), .null, .null, .null, .null, .null, .null, .null, .null, .null, .null, (kI 0), .null, (kI 0)]) :: Rr) := W16q
  obtain ⟨T17, h17, L17, X17, e17, N17, W17q, st17⟩ := putW X16 hx hZ hown (host := "") (Or.inl (hw _ (mi 25 rfl))) e16 W16 N14 (own_dR hw) (Or.inl (hw _ (mi 26 rfl))) (hw _ (mi 9 rfl)) (ty := (.array .int)) (by decide +kernel) (i := 5) (a := r) rfl (j := 4) rfl rfl (v := (.ref a16)) rfl rfl (g := (mkF m 39 #[sR r] [(kR a16), (kR r)])) rfl rfl (hb hby d_ri_39)
  have W17 : Wo n0 h17 ((a16, Ar Z .int 17 zI) :: (a13, Ar Z .int 17 zI) :: (a10, Ar Z .int 16 zI) :: (a7, Ar Z .int 0 zI) :: (a4, Ar Z .int 0 zI) :: (r, oR Z [(kR a4), (kR a7), (kR a10), (kR a13), (kR a16), .null, .null, .null, .null, .null, .null, .null, .null, .null, (kI 0), .null, (kI 0)]) :: Rr) := W17q
  have K18 : Rch p e below s₁ F0 T17 (mkF m 45 #[sR r] [(kI 16), (kR r)]) := fun t k => K15 t (st16 t (st17 t (by
    refine XS.aloadN X17.here hx rfl (hb hby d_ri_42) rfl rfl ?_
    refine XS.bipush X17.here hx rfl (hb hby d_ri_43) ?_
    exact k)))
  obtain ⟨T19, h19, a19, X19, e19, W19q, st19⟩ := newWA X17 hx hZ (aty := .int) (ty := .int) rfl (hw _ (mi 7 rfl)) e17 W17 (g := K18.g) rfl (hb hby d_ri_45) (z := (16 : Int32)) (n := 16) rfl (by decide) (by decide) (cap := 16) (by decide) (by decide) (by decide : 5 + 1 ≤ _) (by decide : 50 + 16 ≤ _)
  have W19 : Wo n0 h19 ((a19, Ar Z .int 16 zI) :: (a16, Ar Z .int 17 zI) :: (a13, Ar Z .int 17 zI) :: (a10, Ar Z .int 16 zI) :: (a7, Ar Z .int 0 zI) :: (a4, Ar Z .int 0 zI) :: (r, oR Z [(kR a4), (kR a7), (kR a10), (kR a13), (kR a16), .null, .null, .null, .null, .null, .null, .null, .null, .null, (kI 0), .null, (kI 0)]) :: Rr) := W19q
  obtain ⟨T20, h20, L20, X20, e20, N20, W20q, st20⟩ := putW X19 hx hZ hown (host := "") (Or.inl (hw _ (mi 27 rfl))) e19 W19 N17 (own_dR hw) (Or.inl (hw _ (mi 28 rfl))) (hw _ (mi 9 rfl)) (ty := (.array .int)) (by decide +kernel) (i := 6) (a := r) rfl (j := 5) rfl rfl (v := (.ref a19)) rfl rfl (g := (mkF m 47 #[sR r] [(kR a19), (kR r)])) rfl rfl (hb hby d_ri_47)
  have W20 : Wo n0 h20 ((a19, Ar Z .int 16 zI) :: (a16, Ar Z .int 17 zI) :: (a13, Ar Z .int 17 zI) :: (a10, Ar Z .int 16 zI) :: (a7, Ar Z .int 0 zI) :: (a4, Ar Z .int 0 zI) :: (r, oR Z [(kR a4), (kR a7), (kR a10), (kR a13), (kR a16), (kR a19), .null, .null, .null, .null, .null, .null, .null, .null, (kI 0), .null, (kI 0)]) :: Rr) := W20q
  have K21 : Rch p e below s₁ F0 T20 (mkF m 53 #[sR r] [(kI 17), (kR r)]) := fun t k => K18 t (st19 t (st20 t (by
    refine XS.aloadN X20.here hx rfl (hb hby d_ri_50) rfl rfl ?_
    refine XS.bipush X20.here hx rfl (hb hby d_ri_51) ?_
    exact k)))
  obtain ⟨T22, h22, a22, X22, e22, W22q, st22⟩ := newWA X20 hx hZ (aty := .int) (ty := .int) rfl (hw _ (mi 7 rfl)) e20 W20 (g := K21.g) rfl (hb hby d_ri_53) (z := (17 : Int32)) (n := 17) rfl (by decide) (by decide) (cap := 17) (by decide) (by decide) (by decide : 6 + 1 ≤ _) (by decide : 66 + 17 ≤ _)
  have W22 : Wo n0 h22 ((a22, Ar Z .int 17 zI) :: (a19, Ar Z .int 16 zI) :: (a16, Ar Z .int 17 zI) :: (a13, Ar Z .int 17 zI) :: (a10, Ar Z .int 16 zI) :: (a7, Ar Z .int 0 zI) :: (a4, Ar Z .int 0 zI) :: (r, oR Z [(kR a4), (kR a7), (kR a10), (kR a13), (kR a16), (kR a19), .null, .null, .null, .null, .null, .null, .null, .null, (kI 0), .null, (kI 0)]) :: Rr) := W22q
  obtain ⟨T23, h23, L23, X23, e23, N23, W23q, st23⟩ := putW X22 hx hZ hown (host := "") (Or.inl (hw _ (mi 29 rfl))) e22 W22 N20 (own_dR hw) (Or.inl (hw _ (mi 30 rfl))) (hw _ (mi 9 rfl)) (ty := (.array .int)) (by decide +kernel) (i := 7) (a := r) rfl (j := 6) rfl rfl (v := (.ref a22)) rfl rfl (g := (mkF m 55 #[sR r] [(kR a22), (kR r)])) rfl rfl (hb hby d_ri_55)
  have W23 : Wo n0 h23 ((a22, Ar Z .int 17 zI) :: (a19, Ar Z .int 16 zI) :: (a16, Ar Z .int 17 zI) :: (a13, Ar Z .int 17 zI) :: (a10, Ar Z .int 16 zI) :: (a7, Ar Z .int 0 zI) :: (a4, Ar Z .int 0 zI) :: (r, oR Z [(kR a4), (kR a7), (kR a10), (kR a13), (kR a16), (kR a19), (kR a22), .null, .null, .null, .null, .null, .null, .null, (kI 0), .null, (kI 0)]) :: Rr) := W23q
  have K24 : Rch p e below s₁ F0 T23 (mkF m 61 #[sR r] [(kI 17), (kR r)]) := fun t k => K21 t (st22 t (st23 t (by
    refine XS.aloadN X23.here hx rfl (hb hby d_ri_58) rfl rfl ?_
    refine XS.bipush X23.here hx rfl (hb hby d_ri_59) ?_
    exact k)))
  obtain ⟨T25, h25, a25, X25, e25, W25q, st25⟩ := newWA X23 hx hZ (aty := .int) (ty := .int) rfl (hw _ (mi 7 rfl)) e23 W23 (g := K24.g) rfl (hb hby d_ri_61) (z := (17 : Int32)) (n := 17) rfl (by decide) (by decide) (cap := 17) (by decide) (by decide) (by decide : 7 + 1 ≤ _) (by decide : 83 + 17 ≤ _)
  have W25 : Wo n0 h25 ((a25, Ar Z .int 17 zI) :: (a22, Ar Z .int 17 zI) :: (a19, Ar Z .int 16 zI) :: (a16, Ar Z .int 17 zI) :: (a13, Ar Z .int 17 zI) :: (a10, Ar Z .int 16 zI) :: (a7, Ar Z .int 0 zI) :: (a4, Ar Z .int 0 zI) :: (r, oR Z [(kR a4), (kR a7), (kR a10), (kR a13), (kR a16), (kR a19), (kR a22), .null, .null, .null, .null, .null, .null, .null, (kI 0), .null, (kI 0)]) :: Rr) := W25q
  obtain ⟨T26, h26, L26, X26, e26, N26, W26q, st26⟩ := putW X25 hx hZ hown (host := "") (Or.inl (hw _ (mi 31 rfl))) e25 W25 N23 (own_dR hw) (Or.inl (hw _ (mi 32 rfl))) (hw _ (mi 9 rfl)) (ty := (.array .int)) (by decide +kernel) (i := 8) (a := r) rfl (j := 7) rfl rfl (v := (.ref a25)) rfl rfl (g := (mkF m 63 #[sR r] [(kR a25), (kR r)])) rfl rfl (hb hby d_ri_63)
  have W26 : Wo n0 h26 ((a25, Ar Z .int 17 zI) :: (a22, Ar Z .int 17 zI) :: (a19, Ar Z .int 16 zI) :: (a16, Ar Z .int 17 zI) :: (a13, Ar Z .int 17 zI) :: (a10, Ar Z .int 16 zI) :: (a7, Ar Z .int 0 zI) :: (a4, Ar Z .int 0 zI) :: (r, oR Z [(kR a4), (kR a7), (kR a10), (kR a13), (kR a16), (kR a19), (kR a22), (kR a25), .null, .null, .null, .null, .null, .null, (kI 0), .null, (kI 0)]) :: Rr) := W26q
  have K27 : Rch p e below s₁ F0 T26 (mkF m 69 #[sR r] [(kI 17), (kR r)]) := fun t k => K24 t (st25 t (st26 t (by
    refine XS.aloadN X26.here hx rfl (hb hby d_ri_66) rfl rfl ?_
    refine XS.bipush X26.here hx rfl (hb hby d_ri_67) ?_
    exact k)))
  obtain ⟨T28, h28, a28, X28, e28, W28q, st28⟩ := newWA X26 hx hZ (aty := .int) (ty := .int) rfl (hw _ (mi 7 rfl)) e26 W26 (g := K27.g) rfl (hb hby d_ri_69) (z := (17 : Int32)) (n := 17) rfl (by decide) (by decide) (cap := 17) (by decide) (by decide) (by decide : 8 + 1 ≤ _) (by decide : 100 + 17 ≤ _)
  have W28 : Wo n0 h28 ((a28, Ar Z .int 17 zI) :: (a25, Ar Z .int 17 zI) :: (a22, Ar Z .int 17 zI) :: (a19, Ar Z .int 16 zI) :: (a16, Ar Z .int 17 zI) :: (a13, Ar Z .int 17 zI) :: (a10, Ar Z .int 16 zI) :: (a7, Ar Z .int 0 zI) :: (a4, Ar Z .int 0 zI) :: (r, oR Z [(kR a4), (kR a7), (kR a10), (kR a13), (kR a16), (kR a19), (kR a22), (kR a25), .null, .null, .null, .null, .null, .null, (kI 0), .null, (kI 0)]) :: Rr) := W28q
  obtain ⟨T29, h29, L29, X29, e29, N29, W29q, st29⟩ := putW X28 hx hZ hown (host := "") (Or.inl (hw _ (mi 33 rfl))) e28 W28 N26 (own_dR hw) (Or.inl (hw _ (mi 34 rfl))) (hw _ (mi 9 rfl)) (ty := (.array .int)) (by decide +kernel) (i := 9) (a := r) rfl (j := 8) rfl rfl (v := (.ref a28)) rfl rfl (g := (mkF m 71 #[sR r] [(kR a28), (kR r)])) rfl rfl (hb hby d_ri_71)
  have W29 : Wo n0 h29 ((a28, Ar Z .int 17 zI) :: (a25, Ar Z .int 17 zI) :: (a22, Ar Z .int 17 zI) :: (a19, Ar Z .int 16 zI) :: (a16, Ar Z .int 17 zI) :: (a13, Ar Z .int 17 zI) :: (a10, Ar Z .int 16 zI) :: (a7, Ar Z .int 0 zI) :: (a4, Ar Z .int 0 zI) :: (r, oR Z [(kR a4), (kR a7), (kR a10), (kR a13), (kR a16), (kR a19), (kR a22), (kR a25), (kR a28), .null, .null, .null, .null, .null, (kI 0), .null, (kI 0)]) :: Rr) := W29q
  have K30 : Rch p e below s₁ F0 T29 (mkF m 77 #[sR r] [(kI 17), (kR r)]) := fun t k => K27 t (st28 t (st29 t (by
    refine XS.aloadN X29.here hx rfl (hb hby d_ri_74) rfl rfl ?_
    refine XS.bipush X29.here hx rfl (hb hby d_ri_75) ?_
    exact k)))
  obtain ⟨T31, h31, a31, X31, e31, W31q, st31⟩ := newWA X29 hx hZ (aty := .int) (ty := .int) rfl (hw _ (mi 7 rfl)) e29 W29 (g := K30.g) rfl (hb hby d_ri_77) (z := (17 : Int32)) (n := 17) rfl (by decide) (by decide) (cap := 17) (by decide) (by decide) (by decide : 9 + 1 ≤ _) (by decide : 117 + 17 ≤ _)
  have W31 : Wo n0 h31 ((a31, Ar Z .int 17 zI) :: (a28, Ar Z .int 17 zI) :: (a25, Ar Z .int 17 zI) :: (a22, Ar Z .int 17 zI) :: (a19, Ar Z .int 16 zI) :: (a16, Ar Z .int 17 zI) :: (a13, Ar Z .int 17 zI) :: (a10, Ar Z .int 16 zI) :: (a7, Ar Z .int 0 zI) :: (a4, Ar Z .int 0 zI) :: (r, oR Z [(kR a4), (kR a7), (kR a10), (kR a13), (kR a16), (kR a19), (kR a22), (kR a25), (kR a28), .null, .null, .null, .null, .null, (kI 0), .null, (kI 0)]) :: Rr) := W31q
  obtain ⟨T32, h32, L32, X32, e32, N32, W32q, st32⟩ := putW X31 hx hZ hown (host := "") (Or.inl (hw _ (mi 35 rfl))) e31 W31 N29 (own_dR hw) (Or.inl (hw _ (mi 36 rfl))) (hw _ (mi 9 rfl)) (ty := (.array .int)) (by decide +kernel) (i := 10) (a := r) rfl (j := 9) rfl rfl (v := (.ref a31)) rfl rfl (g := (mkF m 79 #[sR r] [(kR a31), (kR r)])) rfl rfl (hb hby d_ri_79)
  have W32 : Wo n0 h32 ((a31, Ar Z .int 17 zI) :: (a28, Ar Z .int 17 zI) :: (a25, Ar Z .int 17 zI) :: (a22, Ar Z .int 17 zI) :: (a19, Ar Z .int 16 zI) :: (a16, Ar Z .int 17 zI) :: (a13, Ar Z .int 17 zI) :: (a10, Ar Z .int 16 zI) :: (a7, Ar Z .int 0 zI) :: (a4, Ar Z .int 0 zI) :: (r, oR Z [(kR a4), (kR a7), (kR a10), (kR a13), (kR a16), (kR a19), (kR a22), (kR a25), (kR a28), (kR a31), .null, .null, .null, .null, (kI 0), .null, (kI 0)]) :: Rr) := W32q
  have K33 : Rch p e below s₁ F0 T32 (mkF m 85 #[sR r] [(kI 16), (kR r)]) := fun t k => K30 t (st31 t (st32 t (by
    refine XS.aloadN X32.here hx rfl (hb hby d_ri_82) rfl rfl ?_
    refine XS.bipush X32.here hx rfl (hb hby d_ri_83) ?_
    exact k)))
  obtain ⟨T34, h34, a34, X34, e34, W34q, st34⟩ := newWA X32 hx hZ (aty := .int) (ty := .int) rfl (hw _ (mi 7 rfl)) e32 W32 (g := K33.g) rfl (hb hby d_ri_85) (z := (16 : Int32)) (n := 16) rfl (by decide) (by decide) (cap := 16) (by decide) (by decide) (by decide : 10 + 1 ≤ _) (by decide : 134 + 16 ≤ _)
  have W34 : Wo n0 h34 ((a34, Ar Z .int 16 zI) :: (a31, Ar Z .int 17 zI) :: (a28, Ar Z .int 17 zI) :: (a25, Ar Z .int 17 zI) :: (a22, Ar Z .int 17 zI) :: (a19, Ar Z .int 16 zI) :: (a16, Ar Z .int 17 zI) :: (a13, Ar Z .int 17 zI) :: (a10, Ar Z .int 16 zI) :: (a7, Ar Z .int 0 zI) :: (a4, Ar Z .int 0 zI) :: (r, oR Z [(kR a4), (kR a7), (kR a10), (kR a13), (kR a16), (kR a19), (kR a22), (kR a25), (kR a28), (kR a31), .null, .null, .null, .null, (kI 0), .null, (kI 0)]) :: Rr) := W34q
  obtain ⟨T35, h35, L35, X35, e35, N35, W35q, st35⟩ := putW X34 hx hZ hown (host := "") (Or.inl (hw _ (mi 37 rfl))) e34 W34 N32 (own_dR hw) (Or.inl (hw _ (mi 38 rfl))) (hw _ (mi 9 rfl)) (ty := (.array .int)) (by decide +kernel) (i := 11) (a := r) rfl (j := 10) rfl rfl (v := (.ref a34)) rfl rfl (g := (mkF m 87 #[sR r] [(kR a34), (kR r)])) rfl rfl (hb hby d_ri_87)
  have W35 : Wo n0 h35 ((a34, Ar Z .int 16 zI) :: (a31, Ar Z .int 17 zI) :: (a28, Ar Z .int 17 zI) :: (a25, Ar Z .int 17 zI) :: (a22, Ar Z .int 17 zI) :: (a19, Ar Z .int 16 zI) :: (a16, Ar Z .int 17 zI) :: (a13, Ar Z .int 17 zI) :: (a10, Ar Z .int 16 zI) :: (a7, Ar Z .int 0 zI) :: (a4, Ar Z .int 0 zI) :: (r, oR Z [(kR a4), (kR a7), (kR a10), (kR a13), (kR a16), (kR a19), (kR a22), (kR a25), (kR a28), (kR a31), (kR a34), .null, .null, .null, (kI 0), .null, (kI 0)]) :: Rr) := W35q
  have K36 : Rch p e below s₁ F0 T35 (mkF m 93 #[sR r] [(kI 16), (kR r)]) := fun t k => K33 t (st34 t (st35 t (by
    refine XS.aloadN X35.here hx rfl (hb hby d_ri_90) rfl rfl ?_
    refine XS.bipush X35.here hx rfl (hb hby d_ri_91) ?_
    exact k)))
  obtain ⟨T37, h37, a37, X37, e37, W37q, st37⟩ := newWA X35 hx hZ (aty := .int) (ty := .int) rfl (hw _ (mi 7 rfl)) e35 W35 (g := K36.g) rfl (hb hby d_ri_93) (z := (16 : Int32)) (n := 16) rfl (by decide) (by decide) (cap := 16) (by decide) (by decide) (by decide : 11 + 1 ≤ _) (by decide : 150 + 16 ≤ _)
  have W37 : Wo n0 h37 ((a37, Ar Z .int 16 zI) :: (a34, Ar Z .int 16 zI) :: (a31, Ar Z .int 17 zI) :: (a28, Ar Z .int 17 zI) :: (a25, Ar Z .int 17 zI) :: (a22, Ar Z .int 17 zI) :: (a19, Ar Z .int 16 zI) :: (a16, Ar Z .int 17 zI) :: (a13, Ar Z .int 17 zI) :: (a10, Ar Z .int 16 zI) :: (a7, Ar Z .int 0 zI) :: (a4, Ar Z .int 0 zI) :: (r, oR Z [(kR a4), (kR a7), (kR a10), (kR a13), (kR a16), (kR a19), (kR a22), (kR a25), (kR a28), (kR a31), (kR a34), .null, .null, .null, (kI 0), .null, (kI 0)]) :: Rr) := W37q
  obtain ⟨T38, h38, L38, X38, e38, N38, W38q, st38⟩ := putW X37 hx hZ hown (host := "") (Or.inl (hw _ (mi 39 rfl))) e37 W37 N35 (own_dR hw) (Or.inl (hw _ (mi 40 rfl))) (hw _ (mi 9 rfl)) (ty := (.array .int)) (by decide +kernel) (i := 12) (a := r) rfl (j := 11) rfl rfl (v := (.ref a37)) rfl rfl (g := (mkF m 95 #[sR r] [(kR a37), (kR r)])) rfl rfl (hb hby d_ri_95)
  have W38 : Wo n0 h38 ((a37, Ar Z .int 16 zI) :: (a34, Ar Z .int 16 zI) :: (a31, Ar Z .int 17 zI) :: (a28, Ar Z .int 17 zI) :: (a25, Ar Z .int 17 zI) :: (a22, Ar Z .int 17 zI) :: (a19, Ar Z .int 16 zI) :: (a16, Ar Z .int 17 zI) :: (a13, Ar Z .int 17 zI) :: (a10, Ar Z .int 16 zI) :: (a7, Ar Z .int 0 zI) :: (a4, Ar Z .int 0 zI) :: (r, oR Z [(kR a4), (kR a7), (kR a10), (kR a13), (kR a16), (kR a19), (kR a22), (kR a25), (kR a28), (kR a31), (kR a34), (kR a37), .null, .null, (kI 0), .null, (kI 0)]) :: Rr) := W38q
  have K39 : Rch p e below s₁ F0 T38 (mkF m 101 #[sR r] [(kI 64), (kR r)]) := fun t k => K36 t (st37 t (st38 t (by
    refine XS.aloadN X38.here hx rfl (hb hby d_ri_98) rfl rfl ?_
    refine XS.bipush X38.here hx rfl (hb hby d_ri_99) ?_
    exact k)))
  obtain ⟨T40, h40, a40, X40, e40, W40q, st40⟩ := newWA X38 hx hZ (aty := .int) (ty := .int) rfl (hw _ (mi 7 rfl)) e38 W38 (g := K39.g) rfl (hb hby d_ri_101) (z := (64 : Int32)) (n := 64) rfl (by decide) (by decide) (cap := 64) (by decide) (by decide) (by decide : 12 + 1 ≤ _) (by decide : 166 + 64 ≤ _)
  have W40 : Wo n0 h40 ((a40, Ar Z .int 64 zI) :: (a37, Ar Z .int 16 zI) :: (a34, Ar Z .int 16 zI) :: (a31, Ar Z .int 17 zI) :: (a28, Ar Z .int 17 zI) :: (a25, Ar Z .int 17 zI) :: (a22, Ar Z .int 17 zI) :: (a19, Ar Z .int 16 zI) :: (a16, Ar Z .int 17 zI) :: (a13, Ar Z .int 17 zI) :: (a10, Ar Z .int 16 zI) :: (a7, Ar Z .int 0 zI) :: (a4, Ar Z .int 0 zI) :: (r, oR Z [(kR a4), (kR a7), (kR a10), (kR a13), (kR a16), (kR a19), (kR a22), (kR a25), (kR a28), (kR a31), (kR a34), (kR a37), .null, .null, (kI 0), .null, (kI 0)]) :: Rr) := W40q
  obtain ⟨T41, h41, L41, X41, e41, N41, W41q, st41⟩ := putW X40 hx hZ hown (host := "") (Or.inl (hw _ (mi 41 rfl))) e40 W40 N38 (own_dR hw) (Or.inl (hw _ (mi 42 rfl))) (hw _ (mi 9 rfl)) (ty := (.array .int)) (by decide +kernel) (i := 13) (a := r) rfl (j := 12) rfl rfl (v := (.ref a40)) rfl rfl (g := (mkF m 103 #[sR r] [(kR a40), (kR r)])) rfl rfl (hb hby d_ri_103)
  have W41 : Wo n0 h41 ((a40, Ar Z .int 64 zI) :: (a37, Ar Z .int 16 zI) :: (a34, Ar Z .int 16 zI) :: (a31, Ar Z .int 17 zI) :: (a28, Ar Z .int 17 zI) :: (a25, Ar Z .int 17 zI) :: (a22, Ar Z .int 17 zI) :: (a19, Ar Z .int 16 zI) :: (a16, Ar Z .int 17 zI) :: (a13, Ar Z .int 17 zI) :: (a10, Ar Z .int 16 zI) :: (a7, Ar Z .int 0 zI) :: (a4, Ar Z .int 0 zI) :: (r, oR Z [(kR a4), (kR a7), (kR a10), (kR a13), (kR a16), (kR a19), (kR a22), (kR a25), (kR a28), (kR a31), (kR a34), (kR a37), (kR a40), .null, (kI 0), .null, (kI 0)]) :: Rr) := W41q
  have K42 : Rch p e below s₁ F0 T41 (mkF m 109 #[sR r] [(kI 64), (kR r)]) := fun t k => K39 t (st40 t (st41 t (by
    refine XS.aloadN X41.here hx rfl (hb hby d_ri_106) rfl rfl ?_
    refine XS.bipush X41.here hx rfl (hb hby d_ri_107) ?_
    exact k)))
  obtain ⟨T43, h43, a43, X43, e43, W43q, st43⟩ := newWA X41 hx hZ (aty := .double) (ty := .double) rfl (hw _ (mi 43 rfl)) e41 W41 (g := K42.g) rfl (hb hby d_ri_109) (z := (64 : Int32)) (n := 64) rfl (by decide) (by decide) (cap := 64) (by decide) (by decide) (by decide : 13 + 1 ≤ _) (by decide : 230 + 64 ≤ _)
  have W43 : Wo n0 h43 ((a43, Ar Z .double 64 zD) :: (a40, Ar Z .int 64 zI) :: (a37, Ar Z .int 16 zI) :: (a34, Ar Z .int 16 zI) :: (a31, Ar Z .int 17 zI) :: (a28, Ar Z .int 17 zI) :: (a25, Ar Z .int 17 zI) :: (a22, Ar Z .int 17 zI) :: (a19, Ar Z .int 16 zI) :: (a16, Ar Z .int 17 zI) :: (a13, Ar Z .int 17 zI) :: (a10, Ar Z .int 16 zI) :: (a7, Ar Z .int 0 zI) :: (a4, Ar Z .int 0 zI) :: (r, oR Z [(kR a4), (kR a7), (kR a10), (kR a13), (kR a16), (kR a19), (kR a22), (kR a25), (kR a28), (kR a31), (kR a34), (kR a37), (kR a40), .null, (kI 0), .null, (kI 0)]) :: Rr) := W43q
  obtain ⟨T44, h44, L44, X44, e44, N44, W44q, st44⟩ := putW X43 hx hZ hown (host := "") (Or.inl (hw _ (mi 44 rfl))) e43 W43 N41 (own_dR hw) (Or.inl (hw _ (mi 45 rfl))) (hw _ (mi 9 rfl)) (ty := (.array .double)) (by decide +kernel) (i := 14) (a := r) rfl (j := 13) rfl rfl (v := (.ref a43)) rfl rfl (g := (mkF m 111 #[sR r] [(kR a43), (kR r)])) rfl rfl (hb hby d_ri_111)
  have W44 : Wo n0 h44 ((a43, Ar Z .double 64 zD) :: (a40, Ar Z .int 64 zI) :: (a37, Ar Z .int 16 zI) :: (a34, Ar Z .int 16 zI) :: (a31, Ar Z .int 17 zI) :: (a28, Ar Z .int 17 zI) :: (a25, Ar Z .int 17 zI) :: (a22, Ar Z .int 17 zI) :: (a19, Ar Z .int 16 zI) :: (a16, Ar Z .int 17 zI) :: (a13, Ar Z .int 17 zI) :: (a10, Ar Z .int 16 zI) :: (a7, Ar Z .int 0 zI) :: (a4, Ar Z .int 0 zI) :: (r, oR Z [(kR a4), (kR a7), (kR a10), (kR a13), (kR a16), (kR a19), (kR a22), (kR a25), (kR a28), (kR a31), (kR a34), (kR a37), (kR a40), (kR a43), (kI 0), .null, (kI 0)]) :: Rr) := W44q
  have K45 : Rch p e below s₁ F0 T44 (mkF m 114 #[sR r] []) := fun t k => K42 t (st43 t (st44 t (k)))
  obtain ⟨fs, hr, hrun, hended, hWm, hsame⟩ := X44.leave (v := none) (fun _ => rfl)
  refine ⟨_, _, pre0 _ (K45 _ (X44.returnOut hx Bd.returns (hb hby d_ri_114) hr)), hrun, hended, _, _, rfl, ?_, ⟨_, rfl⟩, hWm, hsame.mono (by decide) (by decide)⟩
  show QrmRI Z r Rr n0 _ T44.heap _
  rw [e44]
  exact ⟨a43, a40, a37, a34, a31, a28, a25, a22, a19, a16, a13, a10, a7, a4, rfl, N44, W44⟩
theorem pd_bi : parseMethodDescriptor "()V" = some ⟨[], none⟩ := by decide +kernel
theorem pn_Rows_Builder : plainName "com/example/sambre/sambre/engine/Rows$Builder" = true := by first | (simp [plainName, overriddenIn]; done) | decide +kernel
theorem d_bi_0 : decode prog_88_method_1_code 0 = .ok (.aload_n 0, 1) := by decide +kernel
theorem d_bi_1 : decode prog_88_method_1_code 1 = .ok (.invokespecial 1, 3) := by decide +kernel
theorem d_bi_4 : decode prog_88_method_1_code 4 = .ok (.aload_n 0, 1) := by decide +kernel
theorem d_bi_5 : decode prog_88_method_1_code 5 = .ok (.iconst 2, 1) := by decide +kernel
theorem d_bi_6 : decode prog_88_method_1_code 6 = .ok (.newarray .int, 2) := by decide +kernel
theorem d_bi_8 : decode prog_88_method_1_code 8 = .ok (.putfield 7, 3) := by decide +kernel
theorem d_bi_11 : decode prog_88_method_1_code 11 = .ok (.aload_n 0, 1) := by decide +kernel
theorem d_bi_12 : decode prog_88_method_1_code 12 = .ok (.iconst 2, 1) := by decide +kernel
theorem d_bi_13 : decode prog_88_method_1_code 13 = .ok (.newarray .int, 2) := by decide +kernel
theorem d_bi_15 : decode prog_88_method_1_code 15 = .ok (.putfield 13, 3) := by decide +kernel
theorem d_bi_18 : decode prog_88_method_1_code 18 = .ok (.aload_n 0, 1) := by decide +kernel
theorem d_bi_19 : decode prog_88_method_1_code 19 = .ok (.iconst 2, 1) := by decide +kernel
theorem d_bi_20 : decode prog_88_method_1_code 20 = .ok (.newarray .int, 2) := by decide +kernel
theorem d_bi_22 : decode prog_88_method_1_code 22 = .ok (.putfield 16, 3) := by decide +kernel
theorem d_bi_25 : decode prog_88_method_1_code 25 = .ok (.aload_n 0, 1) := by decide +kernel
theorem d_bi_26 : decode prog_88_method_1_code 26 = .ok (.iconst 2, 1) := by decide +kernel
theorem d_bi_27 : decode prog_88_method_1_code 27 = .ok (.newarray .int, 2) := by decide +kernel
theorem d_bi_29 : decode prog_88_method_1_code 29 = .ok (.putfield 19, 3) := by decide +kernel
theorem d_bi_32 : decode prog_88_method_1_code 32 = .ok (.aload_n 0, 1) := by decide +kernel
theorem d_bi_33 : decode prog_88_method_1_code 33 = .ok (.iconst 2, 1) := by decide +kernel
theorem d_bi_34 : decode prog_88_method_1_code 34 = .ok (.newarray .int, 2) := by decide +kernel
theorem d_bi_36 : decode prog_88_method_1_code 36 = .ok (.putfield 22, 3) := by decide +kernel
theorem d_bi_39 : decode prog_88_method_1_code 39 = .ok (.aload_n 0, 1) := by decide +kernel
theorem d_bi_40 : decode prog_88_method_1_code 40 = .ok (.iconst 4, 1) := by decide +kernel
theorem d_bi_41 : decode prog_88_method_1_code 41 = .ok (.newarray .int, 2) := by decide +kernel
theorem d_bi_43 : decode prog_88_method_1_code 43 = .ok (.putfield 25, 3) := by decide +kernel
theorem d_bi_46 : decode prog_88_method_1_code 46 = .ok (.aload_n 0, 1) := by decide +kernel
theorem d_bi_47 : decode prog_88_method_1_code 47 = .ok (.iconst 4, 1) := by decide +kernel
theorem d_bi_48 : decode prog_88_method_1_code 48 = .ok (.newarray .double, 2) := by decide +kernel
theorem d_bi_50 : decode prog_88_method_1_code 50 = .ok (.putfield 28, 3) := by decide +kernel
theorem d_bi_53 : decode prog_88_method_1_code 53 = .ok (.return_, 1) := by decide +kernel
theorem ef_rmBI (m : MethodId) (b : Addr) : entryFrame m #[(.ref b)] 1 = mkF m 0 #[.val (.ref b)] [] := by first | (simp [entryFrame, mkF, argsToLocals, Value.category]; done) | rfl
def QrmBI (Z : State) (b : Addr) (Rr : List (Addr × (Cell → Prop))) (n0 : Nat) (v : Option Value) (h : Heap) (L : List Loc) : Prop := ∃ a22 a19 a16 a13 a10 a7 a4, v = none ∧ Fr n0 L ∧ Wo n0 h ((a22, Ar Z .double 4 zD) :: (a19, Ar Z .int 4 zI) :: (a16, Ar Z .int 2 zI) :: (a13, Ar Z .int 2 zI) :: (a10, Ar Z .int 2 zI) :: (a7, Ar Z .int 2 zI) :: (a4, Ar Z .int 2 zI) :: (b, oB Z [.null, (kI 0), .null, (kI 0), (kR a4), (kR a7), (kR a10), (kR a13), (kR a16), (kR a19), (kR a22), (kI 0), (kI 0), (kI 0), (kI 0), .null]) :: Rr)
set_option maxRecDepth 65536 in
set_option maxHeartbeats 40000000 in
theorem rmBI (l : Launch) (Z : State) (a0 : Array Value) (hw : ∀ d ∈ tables_1, d.before a0 Z = true) (ws : List Jvm.Cond) (b : Addr) (Rr : List (Addr × (Cell → Prop))) (h0 : Heap) (n0 : Nat) (W0 : Wo n0 h0 ((b, oB Z [.null, (kI 0), .null, (kI 0), .null, .null, .null, .null, .null, .null, .null, (kI 0), (kI 0), (kI 0), (kI 0), .null]) :: Rr)) :
    MetFree l (⟨"com/example/sambre/sambre/engine/Rows$Builder", "<init>", "()V"⟩ : MethodName) (head1 (Jvm.Cond.code (⟨"com/example/sambre/sambre/engine/Rows$Builder", "<init>", "()V"⟩ : MethodName) prog_88_method_1_code 1 none :: ws) ({ frames := 1, cells := 7, slots := 18, locals := 12 } : Room)) (fun aa U => aa = #[(.ref b)] ∧ Z.Warmed39 U.vm ∧ U.heap = h0) (fun _ _ _ _ _ => True) (fun _ U ou U' => ∃ v L, ou = .returned v ∧ QrmBI Z b Rr n0 v U'.heap L ∧ FrameEnd U ou U' L ({ frames := 1, cells := 7, slots := 18, locals := 12 } : Room).cells ({ frames := 1, cells := 7, slots := 18, locals := 12 } : Room).slots) := by
  refine MetFree.of_bodySF (plainFor_of_name pn_Rows_Builder) hisR ?_
  intro p e s m args below meth c s₁ Bd hml0 hP hK
  obtain ⟨rfl, hZ, hh⟩ := hP
  have hx := Bd.exec
  have hby := Bd.bytes
  have hml : c.maxLocals = 1 := hml0
  have hown : s.vm.findClass "com/example/sambre/sambre/engine/Rows$Builder" = some m.cls := findClass_of_methodNamed Bd.named
  have hnm := (name_of_methodNamed Bd.named Bd.method).1
  have X0 : Stand p l e ({ frames := 1, cells := 7, slots := 18, locals := 12 } : Room) s m #[(.ref b)] below meth c s₁ [] 0 0 := Stand.of_body Bd
  have e0 : s₁.heap = h0 := by rw [← hh, Bd.state]; rfl
  have N0 := Fr.nil n0
  obtain ⟨F0, hF0⟩ : ∃ F, F = mkF m 0 #[.val (.ref b)] [] := ⟨_, rfl⟩
  have pre0 : ∀ t, Steps p.tables e below (s₁.setTop F0) t → Steps p.tables e below (s₁.setTop (entryFrame m #[(.ref b)] 1)) t := fun t k => castTop ((ef_rmBI m b).trans hF0.symm) k
  have K0 : Rch p e below s₁ F0 s₁ (mkF m 0 #[.val (.ref b)] []) := fun t k => castTop hF0 k
  have K1 : Rch p e below s₁ F0 s₁ (mkF m 1 #[sR b] [(kR b)]) := fun t k => K0 t (XS.aloadN X0.here hx rfl (hb hby d_bi_0) rfl rfl k)
  obtain ⟨T2, X2, e2, st2⟩ := initO X0 hx hZ hown (hw _ (mi 52 rfl)) (hw _ (mi 15 rfl)) (hw _ (mi 16 rfl)) e0 (g := K1.g) rfl (by rw [hml]; rfl) rfl (hb hby d_bi_1) (by decide) (W := 0) (by show 2 * 0 + _ ≤ _; exact Nat.le_of_eq rfl) (by decide)
  have K3 : Rch p e below s₁ F0 T2 (mkF m 6 #[sR b] [(kI 2), (kR b)]) := fun t k => K1 t (st2 t (by
    refine XS.aloadN X2.here hx rfl (hb hby d_bi_4) rfl rfl ?_
    refine XS.iconst X2.here hx rfl (hb hby d_bi_5) ?_
    exact k))
  obtain ⟨T4, h4, a4, X4, e4, W4q, st4⟩ := newWA X2 hx hZ (aty := .int) (ty := .int) rfl (hw _ (mi 7 rfl)) e2 W0 (g := K3.g) rfl (hb hby d_bi_6) (z := (2 : Int32)) (n := 2) rfl (by decide) (by decide) (cap := 2) (by decide) (by decide) (by decide : 0 + 1 ≤ _) (by decide : 0 + 2 ≤ _)
  have W4 : Wo n0 h4 ((a4, Ar Z .int 2 zI) :: (b, oB Z [.null, (kI 0), .null, (kI 0), .null, .null, .null, .null, .null, .null, .null, (kI 0), (kI 0), (kI 0), (kI 0), .null]) :: Rr) := W4q
  obtain ⟨T5, h5, L5, X5, e5, N5, W5q, st5⟩ := putW X4 hx hZ hown (host := "") (Or.inl (hw _ (mi 53 rfl))) e4 W4 N0 (own_dB hw) (Or.inl (hw _ (mi 54 rfl))) (hw _ (mi 47 rfl)) (ty := (.array .int)) (by decide +kernel) (i := 1) (a := b) rfl (j := 4) rfl rfl (v := (.ref a4)) rfl rfl (g := (mkF m 8 #[sR b] [(kR a4), (kR b)])) rfl rfl (hb hby d_bi_8)
  have W5 : Wo n0 h5 ((a4, Ar Z .int 2 zI) :: (b, oB Z [.null, (kI 0), .null, (kI 0), (kR a4), .null, .null, .null, .null, .null, .null, (kI 0), (kI 0), (kI 0), (kI 0), .null]) :: Rr) := W5q
  have K6 : Rch p e below s₁ F0 T5 (mkF m 13 #[sR b] [(kI 2), (kR b)]) := fun t k => K3 t (st4 t (st5 t (by
    refine XS.aloadN X5.here hx rfl (hb hby d_bi_11) rfl rfl ?_
    refine XS.iconst X5.here hx rfl (hb hby d_bi_12) ?_
    exact k)))
  obtain ⟨T7, h7, a7, X7, e7, W7q, st7⟩ := newWA X5 hx hZ (aty := .int) (ty := .int) rfl (hw _ (mi 7 rfl)) e5 W5 (g := K6.g) rfl (hb hby d_bi_13) (z := (2 : Int32)) (n := 2) rfl (by decide) (by decide) (cap := 2) (by decide) (by decide) (by decide : 1 + 1 ≤ _) (by decide : 2 + 2 ≤ _)
  have W7 : Wo n0 h7 ((a7, Ar Z .int 2 zI) :: (a4, Ar Z .int 2 zI) :: (b, oB Z [.null, (kI 0), .null, (kI 0), (kR a4), .null, .null, .null, .null, .null, .null, (kI 0), (kI 0), (kI 0), (kI 0), .null]) :: Rr) := W7q
  obtain ⟨T8, h8, L8, X8, e8, N8, W8q, st8⟩ := putW X7 hx hZ hown (host := "") (Or.inl (hw _ (mi 55 rfl))) e7 W7 N5 (own_dB hw) (Or.inl (hw _ (mi 56 rfl))) (hw _ (mi 47 rfl)) (ty := (.array .int)) (by decide +kernel) (i := 2) (a := b) rfl (j := 5) rfl rfl (v := (.ref a7)) rfl rfl (g := (mkF m 15 #[sR b] [(kR a7), (kR b)])) rfl rfl (hb hby d_bi_15)
  have W8 : Wo n0 h8 ((a7, Ar Z .int 2 zI) :: (a4, Ar Z .int 2 zI) :: (b, oB Z [.null, (kI 0), .null, (kI 0), (kR a4), (kR a7), .null, .null, .null, .null, .null, (kI 0), (kI 0), (kI 0), (kI 0), .null]) :: Rr) := W8q
  have K9 : Rch p e below s₁ F0 T8 (mkF m 20 #[sR b] [(kI 2), (kR b)]) := fun t k => K6 t (st7 t (st8 t (by
    refine XS.aloadN X8.here hx rfl (hb hby d_bi_18) rfl rfl ?_
    refine XS.iconst X8.here hx rfl (hb hby d_bi_19) ?_
    exact k)))
  obtain ⟨T10, h10, a10, X10, e10, W10q, st10⟩ := newWA X8 hx hZ (aty := .int) (ty := .int) rfl (hw _ (mi 7 rfl)) e8 W8 (g := K9.g) rfl (hb hby d_bi_20) (z := (2 : Int32)) (n := 2) rfl (by decide) (by decide) (cap := 2) (by decide) (by decide) (by decide : 2 + 1 ≤ _) (by decide : 4 + 2 ≤ _)
  have W10 : Wo n0 h10 ((a10, Ar Z .int 2 zI) :: (a7, Ar Z .int 2 zI) :: (a4, Ar Z .int 2 zI) :: (b, oB Z [.null, (kI 0), .null, (kI 0), (kR a4), (kR a7), .null, .null, .null, .null, .null, (kI 0), (kI 0), (kI 0), (kI 0), .null]) :: Rr) := W10q
  obtain ⟨T11, h11, L11, X11, e11, N11, W11q, st11⟩ := putW X10 hx hZ hown (host := "") (Or.inl (hw _ (mi 57 rfl))) e10 W10 N8 (own_dB hw) (Or.inl (hw _ (mi 58 rfl))) (hw _ (mi 47 rfl)) (ty := (.array .int)) (by decide +kernel) (i := 3) (a := b) rfl (j := 6) rfl rfl (v := (.ref a10)) rfl rfl (g := (mkF m 22 #[sR b] [(kR a10), (kR b)])) rfl rfl (hb hby d_bi_22)
  have W11 : Wo n0 h11 ((a10, Ar Z .int 2 zI) :: (a7, Ar Z .int 2 zI) :: (a4, Ar Z .int 2 zI) :: (b, oB Z [.null, (kI 0), .null, (kI 0), (kR a4), (kR a7), (kR a10), .null, .null, .null, .null, (kI 0), (kI 0), (kI 0), (kI 0), .null]) :: Rr) := W11q
  have K12 : Rch p e below s₁ F0 T11 (mkF m 27 #[sR b] [(kI 2), (kR b)]) := fun t k => K9 t (st10 t (st11 t (by
    refine XS.aloadN X11.here hx rfl (hb hby d_bi_25) rfl rfl ?_
    refine XS.iconst X11.here hx rfl (hb hby d_bi_26) ?_
    exact k)))
  obtain ⟨T13, h13, a13, X13, e13, W13q, st13⟩ := newWA X11 hx hZ (aty := .int) (ty := .int) rfl (hw _ (mi 7 rfl)) e11 W11 (g := K12.g) rfl (hb hby d_bi_27) (z := (2 : Int32)) (n := 2) rfl (by decide) (by decide) (cap := 2) (by decide) (by decide) (by decide : 3 + 1 ≤ _) (by decide : 6 + 2 ≤ _)
  have W13 : Wo n0 h13 ((a13, Ar Z .int 2 zI) :: (a10, Ar Z .int 2 zI) :: (a7, Ar Z .int 2 zI) :: (a4, Ar Z .int 2 zI) :: (b, oB Z [.null, (kI 0), .null, (kI 0), (kR a4), (kR a7), (kR a10), .null, .null, .null, .null, (kI 0), (kI 0), (kI 0), (kI 0), .null]) :: Rr) := W13q
  obtain ⟨T14, h14, L14, X14, e14, N14, W14q, st14⟩ := putW X13 hx hZ hown (host := "") (Or.inl (hw _ (mi 59 rfl))) e13 W13 N11 (own_dB hw) (Or.inl (hw _ (mi 60 rfl))) (hw _ (mi 47 rfl)) (ty := (.array .int)) (by decide +kernel) (i := 4) (a := b) rfl (j := 7) rfl rfl (v := (.ref a13)) rfl rfl (g := (mkF m 29 #[sR b] [(kR a13), (kR b)])) rfl rfl (hb hby d_bi_29)
  have W14 : Wo n0 h14 ((a13, Ar Z .int 2 zI) :: (a10, Ar Z .int 2 zI) :: (a7, Ar Z .int 2 zI) :: (a4, Ar Z .int 2 zI) :: (b, oB Z [.null, (kI 0), .null, (kI 0), (kR a4), (kR a7), (kR a10), (kR a13), .null, .null, .null, (kI 0), (kI 0), (kI 0), (kI 0), .null]) :: Rr) := W14q
  have K15 : Rch p e below s₁ F0 T14 (mkF m 34 #[sR b] [(kI 2), (kR b)]) := fun t k => K12 t (st13 t (st14 t (by
    refine XS.aloadN X14.here hx rfl (hb hby d_bi_32) rfl rfl ?_
    refine XS.iconst X14.here hx rfl (hb hby d_bi_33) ?_
    exact k)))
  obtain ⟨T16, h16, a16, X16, e16, W16q, st16⟩ := newWA X14 hx hZ (aty := .int) (ty := .int) rfl (hw _ (mi 7 rfl)) e14 W14 (g := K15.g) rfl (hb hby d_bi_34) (z := (2 : Int32)) (n := 2) rfl (by decide) (by decide) (cap := 2) (by decide) (by decide) (by decide : 4 + 1 ≤ _) (by decide : 8 + 2 ≤ _)
  have W16 : Wo n0 h16 ((a16, Ar Z .int 2 zI) :: (a13, Ar Z .int 2 zI) :: (a10, Ar Z .int 2 zI) :: (a7, Ar Z .int 2 zI) :: (a4, Ar Z .int 2 zI) :: (b, oB Z [.null, (kI 0), .null, (kI 0), (kR a4), (kR a7), (kR a10), (kR a13), .null, .null, .null, (kI 0), (kI 0), (kI 0), (kI 0), .null]) :: Rr) := W16q
  obtain ⟨T17, h17, L17, X17, e17, N17, W17q, st17⟩ := putW X16 hx hZ hown (host := "") (Or.inl (hw _ (mi 61 rfl))) e16 W16 N14 (own_dB hw) (Or.inl (hw _ (mi 62 rfl))) (hw _ (mi 47 rfl)) (ty := (.array .int)) (by decide +kernel) (i := 5) (a := b) rfl (j := 8) rfl rfl (v := (.ref a16)) rfl rfl (g := (mkF m 36 #[sR b] [(kR a16), (kR b)])) rfl rfl (hb hby d_bi_36)
  have W17 : Wo n0 h17 ((a16, Ar Z .int 2 zI) :: (a13, Ar Z .int 2 zI) :: (a10, Ar Z .int 2 zI) :: (a7, Ar Z .int 2 zI) :: (a4, Ar Z .int 2 zI) :: (b, oB Z [.null, (kI 0), .null, (kI 0), (kR a4), (kR a7), (kR a10), (kR a13), (kR a16), .null, .null, (kI 0), (kI 0), (kI 0), (kI 0), .null]) :: Rr) := W17q
  have K18 : Rch p e below s₁ F0 T17 (mkF m 41 #[sR b] [(kI 4), (kR b)]) := fun t k => K15 t (st16 t (st17 t (by
    refine XS.aloadN X17.here hx rfl (hb hby d_bi_39) rfl rfl ?_
    refine XS.iconst X17.here hx rfl (hb hby d_bi_40) ?_
    exact k)))
  obtain ⟨T19, h19, a19, X19, e19, W19q, st19⟩ := newWA X17 hx hZ (aty := .int) (ty := .int) rfl (hw _ (mi 7 rfl)) e17 W17 (g := K18.g) rfl (hb hby d_bi_41) (z := (4 : Int32)) (n := 4) rfl (by decide) (by decide) (cap := 4) (by decide) (by decide) (by decide : 5 + 1 ≤ _) (by decide : 10 + 4 ≤ _)
  have W19 : Wo n0 h19 ((a19, Ar Z .int 4 zI) :: (a16, Ar Z .int 2 zI) :: (a13, Ar Z .int 2 zI) :: (a10, Ar Z .int 2 zI) :: (a7, Ar Z .int 2 zI) :: (a4, Ar Z .int 2 zI) :: (b, oB Z [.null, (kI 0), .null, (kI 0), (kR a4), (kR a7), (kR a10), (kR a13), (kR a16), .null, .null, (kI 0), (kI 0), (kI 0), (kI 0), .null]) :: Rr) := W19q
  obtain ⟨T20, h20, L20, X20, e20, N20, W20q, st20⟩ := putW X19 hx hZ hown (host := "") (Or.inl (hw _ (mi 63 rfl))) e19 W19 N17 (own_dB hw) (Or.inl (hw _ (mi 64 rfl))) (hw _ (mi 47 rfl)) (ty := (.array .int)) (by decide +kernel) (i := 6) (a := b) rfl (j := 9) rfl rfl (v := (.ref a19)) rfl rfl (g := (mkF m 43 #[sR b] [(kR a19), (kR b)])) rfl rfl (hb hby d_bi_43)
  have W20 : Wo n0 h20 ((a19, Ar Z .int 4 zI) :: (a16, Ar Z .int 2 zI) :: (a13, Ar Z .int 2 zI) :: (a10, Ar Z .int 2 zI) :: (a7, Ar Z .int 2 zI) :: (a4, Ar Z .int 2 zI) :: (b, oB Z [.null, (kI 0), .null, (kI 0), (kR a4), (kR a7), (kR a10), (kR a13), (kR a16), (kR a19), .null, (kI 0), (kI 0), (kI 0), (kI 0), .null]) :: Rr) := W20q
  have K21 : Rch p e below s₁ F0 T20 (mkF m 48 #[sR b] [(kI 4), (kR b)]) := fun t k => K18 t (st19 t (st20 t (by
    refine XS.aloadN X20.here hx rfl (hb hby d_bi_46) rfl rfl ?_
    refine XS.iconst X20.here hx rfl (hb hby d_bi_47) ?_
    exact k)))
  obtain ⟨T22, h22, a22, X22, e22, W22q, st22⟩ := newWA X20 hx hZ (aty := .double) (ty := .double) rfl (hw _ (mi 43 rfl)) e20 W20 (g := K21.g) rfl (hb hby d_bi_48) (z := (4 : Int32)) (n := 4) rfl (by decide) (by decide) (cap := 4) (by decide) (by decide) (by decide : 6 + 1 ≤ _) (by decide : 14 + 4 ≤ _)
  have W22 : Wo n0 h22 ((a22, Ar Z .double 4 zD) :: (a19, Ar Z .int 4 zI) :: (a16, Ar Z .int 2 zI) :: (a13, Ar Z .int 2 zI) :: (a10, Ar Z .int 2 zI) :: (a7, Ar Z .int 2 zI) :: (a4, Ar Z .int 2 zI) :: (b, oB Z [.null, (kI 0), .null, (kI 0), (kR a4), (kR a7), (kR a10), (kR a13), (kR a16), (kR a19), .null, (kI 0), (kI 0), (kI 0), (kI 0), .null]) :: Rr) := W22q
  obtain ⟨T23, h23, L23, X23, e23, N23, W23q, st23⟩ := putW X22 hx hZ hown (host := "") (Or.inl (hw _ (mi 65 rfl))) e22 W22 N20 (own_dB hw) (Or.inl (hw _ (mi 66 rfl))) (hw _ (mi 47 rfl)) (ty := (.array .double)) (by decide +kernel) (i := 7) (a := b) rfl (j := 10) rfl rfl (v := (.ref a22)) rfl rfl (g := (mkF m 50 #[sR b] [(kR a22), (kR b)])) rfl rfl (hb hby d_bi_50)
  have W23 : Wo n0 h23 ((a22, Ar Z .double 4 zD) :: (a19, Ar Z .int 4 zI) :: (a16, Ar Z .int 2 zI) :: (a13, Ar Z .int 2 zI) :: (a10, Ar Z .int 2 zI) :: (a7, Ar Z .int 2 zI) :: (a4, Ar Z .int 2 zI) :: (b, oB Z [.null, (kI 0), .null, (kI 0), (kR a4), (kR a7), (kR a10), (kR a13), (kR a16), (kR a19), (kR a22), (kI 0), (kI 0), (kI 0), (kI 0), .null]) :: Rr) := W23q
  have K24 : Rch p e below s₁ F0 T23 (mkF m 53 #[sR b] []) := fun t k => K21 t (st22 t (st23 t (k)))
  obtain ⟨fs, hr, hrun, hended, hWm, hsame⟩ := X23.leave (v := none) (fun _ => rfl)
  refine ⟨_, _, pre0 _ (K24 _ (X23.returnOut hx Bd.returns (hb hby d_bi_53) hr)), hrun, hended, _, _, rfl, ?_, ⟨_, rfl⟩, hWm, hsame.mono (by decide) (by decide)⟩
  show QrmBI Z b Rr n0 _ T23.heap _
  rw [e23]
  exact ⟨a22, a19, a16, a13, a10, a7, a4, rfl, N23, W23⟩
theorem pd_st : parseMethodDescriptor "([II[DI)V" = some ⟨[(.array .int), .int, (.array .double), .int], none⟩ := by decide +kernel
theorem d_st_0 : decode prog_88_method_2_code 0 = .ok (.aload_n 0, 1) := by decide +kernel
theorem d_st_1 : decode prog_88_method_2_code 1 = .ok (.aload_n 1, 1) := by decide +kernel
theorem d_st_2 : decode prog_88_method_2_code 2 = .ok (.putfield 32, 3) := by decide +kernel
theorem d_st_5 : decode prog_88_method_2_code 5 = .ok (.aload_n 0, 1) := by decide +kernel
theorem d_st_6 : decode prog_88_method_2_code 6 = .ok (.iload_n 2, 1) := by decide +kernel
theorem d_st_7 : decode prog_88_method_2_code 7 = .ok (.putfield 35, 3) := by decide +kernel
theorem d_st_10 : decode prog_88_method_2_code 10 = .ok (.aload_n 0, 1) := by decide +kernel
theorem d_st_11 : decode prog_88_method_2_code 11 = .ok (.aload_n 3, 1) := by decide +kernel
theorem d_st_12 : decode prog_88_method_2_code 12 = .ok (.putfield 39, 3) := by decide +kernel
theorem d_st_15 : decode prog_88_method_2_code 15 = .ok (.aload_n 0, 1) := by decide +kernel
theorem d_st_16 : decode prog_88_method_2_code 16 = .ok (.iload 4, 2) := by decide +kernel
theorem d_st_18 : decode prog_88_method_2_code 18 = .ok (.putfield 42, 3) := by decide +kernel
theorem d_st_21 : decode prog_88_method_2_code 21 = .ok (.aload_n 0, 1) := by decide +kernel
theorem d_st_22 : decode prog_88_method_2_code 22 = .ok (.iconst 0, 1) := by decide +kernel
theorem d_st_23 : decode prog_88_method_2_code 23 = .ok (.putfield 45, 3) := by decide +kernel
theorem d_st_26 : decode prog_88_method_2_code 26 = .ok (.aload_n 0, 1) := by decide +kernel
theorem d_st_27 : decode prog_88_method_2_code 27 = .ok (.iconst 0, 1) := by decide +kernel
theorem d_st_28 : decode prog_88_method_2_code 28 = .ok (.putfield 48, 3) := by decide +kernel
theorem d_st_31 : decode prog_88_method_2_code 31 = .ok (.aload_n 0, 1) := by decide +kernel
theorem d_st_32 : decode prog_88_method_2_code 32 = .ok (.iconst 0, 1) := by decide +kernel
theorem d_st_33 : decode prog_88_method_2_code 33 = .ok (.putfield 51, 3) := by decide +kernel
theorem d_st_36 : decode prog_88_method_2_code 36 = .ok (.aload_n 0, 1) := by decide +kernel
theorem d_st_37 : decode prog_88_method_2_code 37 = .ok (.iconst 0, 1) := by decide +kernel
theorem d_st_38 : decode prog_88_method_2_code 38 = .ok (.putfield 54, 3) := by decide +kernel
theorem d_st_41 : decode prog_88_method_2_code 41 = .ok (.aload_n 0, 1) := by decide +kernel
theorem d_st_42 : decode prog_88_method_2_code 42 = .ok (.aconst_null, 1) := by decide +kernel
theorem d_st_43 : decode prog_88_method_2_code 43 = .ok (.putfield 57, 3) := by decide +kernel
theorem d_st_46 : decode prog_88_method_2_code 46 = .ok (.return_, 1) := by decide +kernel
theorem ef_rmST (m : MethodId) (b fa ac fc cm ft su pr : Addr) (cc mc : Int32) : entryFrame m #[(.ref b), .null, (.int (0 : Int32)), .null, (.int (0 : Int32))] 5 = mkF m 0 #[.val (.ref b), .val .null, .val (.int (0 : Int32)), .val .null, .val (.int (0 : Int32))] [] := by first | (simp [entryFrame, mkF, argsToLocals, Value.category]; done) | rfl
def QrmST (Z : State) (b fa ac fc cm ft su pr : Addr) (cc mc : Int32) (Rr : List (Addr × (Cell → Prop))) (n0 : Nat) (v : Option Value) (h : Heap) (L : List Loc) : Prop := v = none ∧ Fr n0 L ∧ Wo n0 h ((b, oB Z [.null, (kI 0), .null, (kI 0), (kR fa), (kR ac), (kR fc), (kR cm), (kR ft), (kR su), (kR pr), (kI 0), (kI 0), (kI 0), (kI 0), .null]) :: Rr)
set_option maxRecDepth 65536 in
set_option maxHeartbeats 40000000 in
theorem rmST (l : Launch) (Z : State) (a0 : Array Value) (hw : ∀ d ∈ tables_1, d.before a0 Z = true) (ws : List Jvm.Cond) (b fa ac fc cm ft su pr : Addr) (cc mc : Int32) (Rr : List (Addr × (Cell → Prop))) (h0 : Heap) (n0 : Nat) (W0 : Wo n0 h0 ((b, oB Z [.null, (kI 0), .null, (kI 0), (kR fa), (kR ac), (kR fc), (kR cm), (kR ft), (kR su), (kR pr), (kI cc), (kI 0), (kI mc), (kI 0), .null]) :: Rr)) :
    MetFree l (⟨"com/example/sambre/sambre/engine/Rows$Builder", "start", "([II[DI)V"⟩ : MethodName) (head1 (Jvm.Cond.code (⟨"com/example/sambre/sambre/engine/Rows$Builder", "start", "([II[DI)V"⟩ : MethodName) prog_88_method_2_code 5 none :: ws) ({ frames := 0, cells := 0, slots := 0, locals := 0 } : Room)) (fun aa U => aa = #[(.ref b), .null, (.int (0 : Int32)), .null, (.int (0 : Int32))] ∧ Z.Warmed39 U.vm ∧ U.heap = h0) (fun _ _ _ _ _ => True) (fun _ U ou U' => ∃ v L, ou = .returned v ∧ QrmST Z b fa ac fc cm ft su pr cc mc Rr n0 v U'.heap L ∧ FrameEnd U ou U' L ({ frames := 0, cells := 0, slots := 0, locals := 0 } : Room).cells ({ frames := 0, cells := 0, slots := 0, locals := 0 } : Room).slots) := by
  refine MetFree.of_bodySF (plainFor_of_name pn_Rows_Builder) hisR ?_
  intro p e s m args below meth c s₁ Bd hml0 hP hK
  obtain ⟨rfl, hZ, hh⟩ := hP
  have hx := Bd.exec
  have hby := Bd.bytes
  have hml : c.maxLocals = 5 := hml0
  have hown : s.vm.findClass "com/example/sambre/sambre/engine/Rows$Builder" = some m.cls := findClass_of_methodNamed Bd.named
  have hnm := (name_of_methodNamed Bd.named Bd.method).1
  have X0 : Stand p l e ({ frames := 0, cells := 0, slots := 0, locals := 0 } : Room) s m #[(.ref b), .null, (.int (0 : Int32)), .null, (.int (0 : Int32))] below meth c s₁ [] 0 0 := Stand.of_body Bd
  have e0 : s₁.heap = h0 := by rw [← hh, Bd.state]; rfl
  have N0 := Fr.nil n0
  obtain ⟨F0, hF0⟩ : ∃ F, F = mkF m 0 #[.val (.ref b), .val .null, .val (.int (0 : Int32)), .val .null, .val (.int (0 : Int32))] [] := ⟨_, rfl⟩
  have pre0 : ∀ t, Steps p.tables e below (s₁.setTop F0) t → Steps p.tables e below (s₁.setTop (entryFrame m #[(.ref b), .null, (.int (0 : Int32)), .null, (.int (0 : Int32))] 5)) t := fun t k => castTop ((ef_rmST m b fa ac fc cm ft su pr cc mc).trans hF0.symm) k
  have K0 : Rch p e below s₁ F0 s₁ (mkF m 0 #[.val (.ref b), .val .null, .val (.int (0 : Int32)), .val .null, .val (.int (0 : Int32))] []) := fun t k => castTop hF0 k
  have K1 : Rch p e below s₁ F0 s₁ (mkF m 2 #[sR b, .val .null, sI 0, .val .null, sI 0] [.null, (kR b)]) := fun t k => K0 t (by
    refine XS.aloadN X0.here hx rfl (hb hby d_st_0) rfl rfl ?_
    refine XS.aloadN X0.here hx rfl (hb hby d_st_1) rfl rfl ?_
    exact k)
  obtain ⟨T2, h2, L2, X2, e2, N2, W2q, st2⟩ := putW X0 hx hZ hown (host := "") (Or.inl (hw _ (mi 72 rfl))) e0 W0 N0 (own_dB hw) (Or.inl (hw _ (mi 73 rfl))) (hw _ (mi 47 rfl)) (ty := (.array .int)) (by decide +kernel) (i := 0) (a := b) rfl (j := 0) rfl rfl (v := .null) rfl rfl (g := K1.g) rfl rfl (hb hby d_st_2)
  have W2 : Wo n0 h2 ((b, oB Z [.null, (kI 0), .null, (kI 0), (kR fa), (kR ac), (kR fc), (kR cm), (kR ft), (kR su), (kR pr), (kI cc), (kI 0), (kI mc), (kI 0), .null]) :: Rr) := W2q
  have K3 : Rch p e below s₁ F0 T2 (mkF m 7 #[sR b, .val .null, sI 0, .val .null, sI 0] [(kI 0), (kR b)]) := fun t k => K1 t (st2 t (by
    refine XS.aloadN X2.here hx rfl (hb hby d_st_5) rfl rfl ?_
    refine XS.iloadN X2.here hx rfl (hb hby d_st_6) rfl ?_
    exact k))
  obtain ⟨T4, h4, L4, X4, e4, N4, W4q, st4⟩ := putW X2 hx hZ hown (host := "") (Or.inl (hw _ (mi 74 rfl))) e2 W2 N2 (own_dB hw) (Or.inl (hw _ (mi 75 rfl))) (hw _ (mi 47 rfl)) (ty := .int) (by decide +kernel) (i := 0) (a := b) rfl (j := 1) rfl rfl (v := (.int (0 : Int32))) rfl rfl (g := K3.g) rfl rfl (hb hby d_st_7)
  have W4 : Wo n0 h4 ((b, oB Z [.null, (kI 0), .null, (kI 0), (kR fa), (kR ac), (kR fc), (kR cm), (kR ft), (kR su), (kR pr), (kI cc), (kI 0), (kI mc), (kI 0), .null]) :: Rr) := W4q
  have K5 : Rch p e below s₁ F0 T4 (mkF m 12 #[sR b, .val .null, sI 0, .val .null, sI 0] [.null, (kR b)]) := fun t k => K3 t (st4 t (by
    refine XS.aloadN X4.here hx rfl (hb hby d_st_10) rfl rfl ?_
    refine XS.aloadN X4.here hx rfl (hb hby d_st_11) rfl rfl ?_
    exact k))
  obtain ⟨T6, h6, L6, X6, e6, N6, W6q, st6⟩ := putW X4 hx hZ hown (host := "") (Or.inl (hw _ (mi 76 rfl))) e4 W4 N4 (own_dB hw) (Or.inl (hw _ (mi 77 rfl))) (hw _ (mi 47 rfl)) (ty := (.array .double)) (by decide +kernel) (i := 0) (a := b) rfl (j := 2) rfl rfl (v := .null) rfl rfl (g := K5.g) rfl rfl (hb hby d_st_12)
  have W6 : Wo n0 h6 ((b, oB Z [.null, (kI 0), .null, (kI 0), (kR fa), (kR ac), (kR fc), (kR cm), (kR ft), (kR su), (kR pr), (kI cc), (kI 0), (kI mc), (kI 0), .null]) :: Rr) := W6q
  have K7 : Rch p e below s₁ F0 T6 (mkF m 18 #[sR b, .val .null, sI 0, .val .null, sI 0] [(kI 0), (kR b)]) := fun t k => K5 t (st6 t (by
    refine XS.aloadN X6.here hx rfl (hb hby d_st_15) rfl rfl ?_
    refine XS.iload X6.here hx rfl (hb hby d_st_16) rfl ?_
    exact k))
  obtain ⟨T8, h8, L8, X8, e8, N8, W8q, st8⟩ := putW X6 hx hZ hown (host := "") (Or.inl (hw _ (mi 78 rfl))) e6 W6 N6 (own_dB hw) (Or.inl (hw _ (mi 79 rfl))) (hw _ (mi 47 rfl)) (ty := .int) (by decide +kernel) (i := 0) (a := b) rfl (j := 3) rfl rfl (v := (.int (0 : Int32))) rfl rfl (g := K7.g) rfl rfl (hb hby d_st_18)
  have W8 : Wo n0 h8 ((b, oB Z [.null, (kI 0), .null, (kI 0), (kR fa), (kR ac), (kR fc), (kR cm), (kR ft), (kR su), (kR pr), (kI cc), (kI 0), (kI mc), (kI 0), .null]) :: Rr) := W8q
  have K9 : Rch p e below s₁ F0 T8 (mkF m 23 #[sR b, .val .null, sI 0, .val .null, sI 0] [(kI 0), (kR b)]) := fun t k => K7 t (st8 t (by
    refine XS.aloadN X8.here hx rfl (hb hby d_st_21) rfl rfl ?_
    refine XS.iconst X8.here hx rfl (hb hby d_st_22) ?_
    exact k))
  obtain ⟨T10, h10, L10, X10, e10, N10, W10q, st10⟩ := putW X8 hx hZ hown (host := "") (Or.inl (hw _ (mi 80 rfl))) e8 W8 N8 (own_dB hw) (Or.inl (hw _ (mi 81 rfl))) (hw _ (mi 47 rfl)) (ty := .int) (by decide +kernel) (i := 0) (a := b) rfl (j := 11) rfl rfl (v := (.int (0 : Int32))) rfl rfl (g := K9.g) rfl rfl (hb hby d_st_23)
  have W10 : Wo n0 h10 ((b, oB Z [.null, (kI 0), .null, (kI 0), (kR fa), (kR ac), (kR fc), (kR cm), (kR ft), (kR su), (kR pr), (kI 0), (kI 0), (kI mc), (kI 0), .null]) :: Rr) := W10q
  have K11 : Rch p e below s₁ F0 T10 (mkF m 28 #[sR b, .val .null, sI 0, .val .null, sI 0] [(kI 0), (kR b)]) := fun t k => K9 t (st10 t (by
    refine XS.aloadN X10.here hx rfl (hb hby d_st_26) rfl rfl ?_
    refine XS.iconst X10.here hx rfl (hb hby d_st_27) ?_
    exact k))
  obtain ⟨T12, h12, L12, X12, e12, N12, W12q, st12⟩ := putW X10 hx hZ hown (host := "") (Or.inl (hw _ (mi 82 rfl))) e10 W10 N10 (own_dB hw) (Or.inl (hw _ (mi 83 rfl))) (hw _ (mi 47 rfl)) (ty := .int) (by decide +kernel) (i := 0) (a := b) rfl (j := 12) rfl rfl (v := (.int (0 : Int32))) rfl rfl (g := K11.g) rfl rfl (hb hby d_st_28)
  have W12 : Wo n0 h12 ((b, oB Z [.null, (kI 0), .null, (kI 0), (kR fa), (kR ac), (kR fc), (kR cm), (kR ft), (kR su), (kR pr), (kI 0), (kI 0), (kI mc), (kI 0), .null]) :: Rr) := W12q
  have K13 : Rch p e below s₁ F0 T12 (mkF m 33 #[sR b, .val .null, sI 0, .val .null, sI 0] [(kI 0), (kR b)]) := fun t k => K11 t (st12 t (by
    refine XS.aloadN X12.here hx rfl (hb hby d_st_31) rfl rfl ?_
    refine XS.iconst X12.here hx rfl (hb hby d_st_32) ?_
    exact k))
  obtain ⟨T14, h14, L14, X14, e14, N14, W14q, st14⟩ := putW X12 hx hZ hown (host := "") (Or.inl (hw _ (mi 84 rfl))) e12 W12 N12 (own_dB hw) (Or.inl (hw _ (mi 85 rfl))) (hw _ (mi 47 rfl)) (ty := .int) (by decide +kernel) (i := 0) (a := b) rfl (j := 13) rfl rfl (v := (.int (0 : Int32))) rfl rfl (g := K13.g) rfl rfl (hb hby d_st_33)
  have W14 : Wo n0 h14 ((b, oB Z [.null, (kI 0), .null, (kI 0), (kR fa), (kR ac), (kR fc), (kR cm), (kR ft), (kR su), (kR pr), (kI 0), (kI 0), (kI 0), (kI 0), .null]) :: Rr) := W14q
  have K15 : Rch p e below s₁ F0 T14 (mkF m 38 #[sR b, .val .null, sI 0, .val .null, sI 0] [(kI 0), (kR b)]) := fun t k => K13 t (st14 t (by
    refine XS.aloadN X14.here hx rfl (hb hby d_st_36) rfl rfl ?_
    refine XS.iconst X14.here hx rfl (hb hby d_st_37) ?_
    exact k))
  obtain ⟨T16, h16, L16, X16, e16, N16, W16q, st16⟩ := putW X14 hx hZ hown (host := "") (Or.inl (hw _ (mi 86 rfl))) e14 W14 N14 (own_dB hw) (Or.inl (hw _ (mi 87 rfl))) (hw _ (mi 47 rfl)) (ty := .int) (by decide +kernel) (i := 0) (a := b) rfl (j := 14) rfl rfl (v := (.int (0 : Int32))) rfl rfl (g := K15.g) rfl rfl (hb hby d_st_38)
  have W16 : Wo n0 h16 ((b, oB Z [.null, (kI 0), .null, (kI 0), (kR fa), (kR ac), (kR fc), (kR cm), (kR ft), (kR su), (kR pr), (kI 0), (kI 0), (kI 0), (kI 0), .null]) :: Rr) := W16q
  have K17 : Rch p e below s₁ F0 T16 (mkF m 43 #[sR b, .val .null, sI 0, .val .null, sI 0] [.null, (kR b)]) := fun t k => K15 t (st16 t (by
    refine XS.aloadN X16.here hx rfl (hb hby d_st_41) rfl rfl ?_
    refine XS.aconstNull X16.here hx rfl (hb hby d_st_42) ?_
    exact k))
  obtain ⟨T18, h18, L18, X18, e18, N18, W18q, st18⟩ := putW X16 hx hZ hown (host := "") (Or.inl (hw _ (mi 88 rfl))) e16 W16 N16 (own_dB hw) (Or.inl (hw _ (mi 89 rfl))) (hw _ (mi 47 rfl)) (ty := (.object "java/util/Map")) (by decide +kernel) (i := 0) (a := b) rfl (j := 15) rfl rfl (v := .null) rfl rfl (g := K17.g) rfl rfl (hb hby d_st_43)
  have W18 : Wo n0 h18 ((b, oB Z [.null, (kI 0), .null, (kI 0), (kR fa), (kR ac), (kR fc), (kR cm), (kR ft), (kR su), (kR pr), (kI 0), (kI 0), (kI 0), (kI 0), .null]) :: Rr) := W18q
  have K19 : Rch p e below s₁ F0 T18 (mkF m 46 #[sR b, .val .null, sI 0, .val .null, sI 0] []) := fun t k => K17 t (st18 t (k))
  obtain ⟨fs, hr, hrun, hended, hWm, hsame⟩ := X18.leave (v := none) (fun _ => rfl)
  refine ⟨_, _, pre0 _ (K19 _ (X18.returnOut hx Bd.returns (hb hby d_st_46) hr)), hrun, hended, _, _, rfl, ?_, ⟨_, rfl⟩, hWm, hsame.mono (by decide) (by decide)⟩
  show QrmST Z b fa ac fc cm ft su pr cc mc Rr n0 _ T18.heap _
  rw [e18]
  exact ⟨rfl, N18, W18⟩
theorem pd_sc : parseMethodDescriptor "()V" = some ⟨[], none⟩ := by decide +kernel
theorem d_sc_0 : decode prog_88_method_3_code 0 = .ok (.aload_n 0, 1) := by decide +kernel
theorem d_sc_1 : decode prog_88_method_3_code 1 = .ok (.getfield 45, 3) := by decide +kernel
theorem d_sc_4 : decode prog_88_method_3_code 4 = .ok (.aload_n 0, 1) := by decide +kernel
theorem d_sc_5 : decode prog_88_method_3_code 5 = .ok (.getfield 7, 3) := by decide +kernel
theorem d_sc_8 : decode prog_88_method_3_code 8 = .ok (.arraylength, 1) := by decide +kernel
theorem d_sc_9 : decode prog_88_method_3_code 9 = .ok (.if_icmp .ne 54, 3) := by decide +kernel
theorem d_sc_63 : decode prog_88_method_3_code 63 = .ok (.aload_n 0, 1) := by decide +kernel
theorem d_sc_64 : decode prog_88_method_3_code 64 = .ok (.getfield 7, 3) := by decide +kernel
theorem d_sc_67 : decode prog_88_method_3_code 67 = .ok (.aload_n 0, 1) := by decide +kernel
theorem d_sc_68 : decode prog_88_method_3_code 68 = .ok (.getfield 45, 3) := by decide +kernel
theorem d_sc_71 : decode prog_88_method_3_code 71 = .ok (.aload_n 0, 1) := by decide +kernel
theorem d_sc_72 : decode prog_88_method_3_code 72 = .ok (.getfield 48, 3) := by decide +kernel
theorem d_sc_75 : decode prog_88_method_3_code 75 = .ok (.iastore, 1) := by decide +kernel
theorem d_sc_76 : decode prog_88_method_3_code 76 = .ok (.aload_n 0, 1) := by decide +kernel
theorem d_sc_77 : decode prog_88_method_3_code 77 = .ok (.getfield 16, 3) := by decide +kernel
theorem d_sc_80 : decode prog_88_method_3_code 80 = .ok (.aload_n 0, 1) := by decide +kernel
theorem d_sc_81 : decode prog_88_method_3_code 81 = .ok (.getfield 45, 3) := by decide +kernel
theorem d_sc_84 : decode prog_88_method_3_code 84 = .ok (.aload_n 0, 1) := by decide +kernel
theorem d_sc_85 : decode prog_88_method_3_code 85 = .ok (.getfield 51, 3) := by decide +kernel
theorem d_sc_88 : decode prog_88_method_3_code 88 = .ok (.iastore, 1) := by decide +kernel
theorem d_sc_89 : decode prog_88_method_3_code 89 = .ok (.aload_n 0, 1) := by decide +kernel
theorem d_sc_90 : decode prog_88_method_3_code 90 = .ok (.getfield 22, 3) := by decide +kernel
theorem d_sc_93 : decode prog_88_method_3_code 93 = .ok (.aload_n 0, 1) := by decide +kernel
theorem d_sc_94 : decode prog_88_method_3_code 94 = .ok (.dup, 1) := by decide +kernel
theorem d_sc_95 : decode prog_88_method_3_code 95 = .ok (.getfield 45, 3) := by decide +kernel
theorem d_sc_98 : decode prog_88_method_3_code 98 = .ok (.dup_x1, 1) := by decide +kernel
theorem d_sc_99 : decode prog_88_method_3_code 99 = .ok (.iconst 1, 1) := by decide +kernel
theorem d_sc_100 : decode prog_88_method_3_code 100 = .ok (.iadd, 1) := by decide +kernel
theorem d_sc_101 : decode prog_88_method_3_code 101 = .ok (.putfield 45, 3) := by decide +kernel
theorem d_sc_104 : decode prog_88_method_3_code 104 = .ok (.aload_n 0, 1) := by decide +kernel
theorem d_sc_105 : decode prog_88_method_3_code 105 = .ok (.getfield 54, 3) := by decide +kernel
theorem d_sc_108 : decode prog_88_method_3_code 108 = .ok (.iastore, 1) := by decide +kernel
theorem d_sc_109 : decode prog_88_method_3_code 109 = .ok (.aload_n 0, 1) := by decide +kernel
theorem d_sc_110 : decode prog_88_method_3_code 110 = .ok (.aconst_null, 1) := by decide +kernel
theorem d_sc_111 : decode prog_88_method_3_code 111 = .ok (.putfield 57, 3) := by decide +kernel
theorem d_sc_114 : decode prog_88_method_3_code 114 = .ok (.return_, 1) := by decide +kernel
theorem ef_rmSC0 (m : MethodId) (b fa ac fc cm ft su pr : Addr) (mc : Int32) (f1 f2 f3 : Nat → Value) : entryFrame m #[(.ref b)] 1 = mkF m 0 #[.val (.ref b)] [] := by first | (simp [entryFrame, mkF, argsToLocals, Value.category]; done) | rfl
def QrmSC0 (Z : State) (b fa ac fc cm ft su pr : Addr) (mc : Int32) (f1 f2 f3 : Nat → Value) (Rr : List (Addr × (Cell → Prop))) (n0 : Nat) (v : Option Value) (h : Heap) (L : List Loc) : Prop := v = none ∧ Fr n0 L ∧ Wo n0 h ((b, oB Z [.null, (kI 0), .null, (kI 0), (kR fa), (kR ac), (kR fc), (kR cm), (kR ft), (kR su), (kR pr), (kI 1), (kI 0), (kI mc), (kI 0), .null]) :: (fa, Ar Z .int 2 (upd f1 0 (kI 0))) :: (fc, Ar Z .int 2 (upd f2 0 (kI mc))) :: (ft, Ar Z .int 2 (upd f3 0 (kI 0))) :: Rr)
set_option maxRecDepth 65536 in
set_option maxHeartbeats 40000000 in
theorem rmSC0 (l : Launch) (Z : State) (a0 : Array Value) (hw : ∀ d ∈ tables_1, d.before a0 Z = true) (ws : List Jvm.Cond) (b fa ac fc cm ft su pr : Addr) (mc : Int32) (f1 f2 f3 : Nat → Value) (Rr : List (Addr × (Cell → Prop))) (h0 : Heap) (n0 : Nat) (W0 : Wo n0 h0 ((b, oB Z [.null, (kI 0), .null, (kI 0), (kR fa), (kR ac), (kR fc), (kR cm), (kR ft), (kR su), (kR pr), (kI 0), (kI 0), (kI mc), (kI 0), .null]) :: (fa, Ar Z .int 2 f1) :: (fc, Ar Z .int 2 f2) :: (ft, Ar Z .int 2 f3) :: Rr)) :
    MetFree l (⟨"com/example/sambre/sambre/engine/Rows$Builder", "startChoice", "()V"⟩ : MethodName) (head1 (Jvm.Cond.code (⟨"com/example/sambre/sambre/engine/Rows$Builder", "startChoice", "()V"⟩ : MethodName) prog_88_method_3_code 1 none :: ws) ({ frames := 0, cells := 0, slots := 0, locals := 0 } : Room)) (fun aa U => aa = #[(.ref b)] ∧ Z.Warmed39 U.vm ∧ U.heap = h0) (fun _ _ _ _ _ => True) (fun _ U ou U' => ∃ v L, ou = .returned v ∧ QrmSC0 Z b fa ac fc cm ft su pr mc f1 f2 f3 Rr n0 v U'.heap L ∧ FrameEnd U ou U' L ({ frames := 0, cells := 0, slots := 0, locals := 0 } : Room).cells ({ frames := 0, cells := 0, slots := 0, locals := 0 } : Room).slots) := by
  refine MetFree.of_bodySF (plainFor_of_name pn_Rows_Builder) hisR ?_
  intro p e s m args below meth c s₁ Bd hml0 hP hK
  obtain ⟨rfl, hZ, hh⟩ := hP
  have hx := Bd.exec
  have hby := Bd.bytes
  have hml : c.maxLocals = 1 := hml0
  have hown : s.vm.findClass "com/example/sambre/sambre/engine/Rows$Builder" = some m.cls := findClass_of_methodNamed Bd.named
  have hnm := (name_of_methodNamed Bd.named Bd.method).1
  have X0 : Stand p l e ({ frames := 0, cells := 0, slots := 0, locals := 0 } : Room) s m #[(.ref b)] below meth c s₁ [] 0 0 := Stand.of_body Bd
  have e0 : s₁.heap = h0 := by rw [← hh, Bd.state]; rfl
  have N0 := Fr.nil n0
  obtain ⟨F0, hF0⟩ : ∃ F, F = mkF m 0 #[.val (.ref b)] [] := ⟨_, rfl⟩
  have pre0 : ∀ t, Steps p.tables e below (s₁.setTop F0) t → Steps p.tables e below (s₁.setTop (entryFrame m #[(.ref b)] 1)) t := fun t k => castTop ((ef_rmSC0 m b fa ac fc cm ft su pr mc f1 f2 f3).trans hF0.symm) k
  have K0 : Rch p e below s₁ F0 s₁ (mkF m 0 #[.val (.ref b)] []) := fun t k => castTop hF0 k
  have K1 : Rch p e below s₁ F0 s₁ (mkF m 1 #[sR b] [(kR b)]) := fun t k => K0 t (XS.aloadN X0.here hx rfl (hb hby d_sc_0) rfl rfl k)
  obtain ⟨T2, X2, e2, st2⟩ := getF X0 hx hZ hown (host := "") (Or.inl (hw _ (mi 80 rfl))) Via.refl e0 (W0.fld (i := 0) rfl (j := 11) rfl rfl) (g := K1.g) rfl rfl (hb hby d_sc_1)
  have K3 : Rch p e below s₁ F0 T2 (mkF m 5 #[sR b] [(kR b), (kI 0)]) := fun t k => K1 t (st2 t (XS.aloadN X2.here hx rfl (hb hby d_sc_4) rfl rfl k))
  obtain ⟨T4, X4, e4, st4⟩ := getF X2 hx hZ hown (host := "") (Or.inl (hw _ (mi 53 rfl))) Via.refl e2 (W0.fld (i := 0) rfl (j := 4) rfl rfl) (g := K3.g) rfl rfl (hb hby d_sc_5)
  have K5 : Rch p e below s₁ F0 T4 (mkF m 64 #[sR b] [(kR b)]) := fun t k => K3 t (st4 t (by
    refine lenW X4 hx hZ e4 W0 (i := 1) rfl (fun _ q => q) (z := (2 : Int32)) (by decide) (g := (mkF m 8 #[sR b] [(kR fa), (kI 0)])) rfl rfl (hb hby d_sc_8) _ ?_
    refine XS.icmpYes X4.here hx rfl (pc0 := 9) (pc' := 63) rfl (hb hby d_sc_9) rfl (by decide) (by decide) (by decide) ?_
    refine XS.aloadN X4.here hx rfl (hb hby d_sc_63) rfl rfl ?_
    exact k))
  obtain ⟨T6, X6, e6, st6⟩ := getF X4 hx hZ hown (host := "") (Or.inl (hw _ (mi 53 rfl))) Via.refl e4 (W0.fld (i := 0) rfl (j := 4) rfl rfl) (g := K5.g) rfl rfl (hb hby d_sc_64)
  have K7 : Rch p e below s₁ F0 T6 (mkF m 68 #[sR b] [(kR b), (kR fa)]) := fun t k => K5 t (st6 t (XS.aloadN X6.here hx rfl (hb hby d_sc_67) rfl rfl k))
  obtain ⟨T8, X8, e8, st8⟩ := getF X6 hx hZ hown (host := "") (Or.inl (hw _ (mi 80 rfl))) Via.refl e6 (W0.fld (i := 0) rfl (j := 11) rfl rfl) (g := K7.g) rfl rfl (hb hby d_sc_68)
  have K9 : Rch p e below s₁ F0 T8 (mkF m 72 #[sR b] [(kR b), (kI 0), (kR fa)]) := fun t k => K7 t (st8 t (XS.aloadN X8.here hx rfl (hb hby d_sc_71) rfl rfl k))
  obtain ⟨T10, X10, e10, st10⟩ := getF X8 hx hZ hown (host := "") (Or.inl (hw _ (mi 82 rfl))) Via.refl e8 (W0.fld (i := 0) rfl (j := 12) rfl rfl) (g := K9.g) rfl rfl (hb hby d_sc_72)
  obtain ⟨T11, h11, L11, X11, e11, N11, W11q, st11⟩ := iasW X10 hx hZ e10 W0 N0 (i := 1) (a := fa) rfl (j := (0 : Int32)) (x := (0 : Int32)) (k := 0) (by decide) (by decide) (by decide) (g := (mkF m 75 #[sR b] [(kI 0), (kI 0), (kR fa)])) rfl rfl (hb hby d_sc_75)
  have W11 : Wo n0 h11 ((b, oB Z [.null, (kI 0), .null, (kI 0), (kR fa), (kR ac), (kR fc), (kR cm), (kR ft), (kR su), (kR pr), (kI 0), (kI 0), (kI mc), (kI 0), .null]) :: (fa, Ar Z .int 2 (upd f1 0 (kI 0))) :: (fc, Ar Z .int 2 f2) :: (ft, Ar Z .int 2 f3) :: Rr) := W11q
  have K12 : Rch p e below s₁ F0 T11 (mkF m 77 #[sR b] [(kR b)]) := fun t k => K9 t (st10 t (st11 t (XS.aloadN X11.here hx rfl (hb hby d_sc_76) rfl rfl k)))
  obtain ⟨T13, X13, e13, st13⟩ := getF X11 hx hZ hown (host := "") (Or.inl (hw _ (mi 57 rfl))) Via.refl e11 (W11.fld (i := 0) rfl (j := 6) rfl rfl) (g := K12.g) rfl rfl (hb hby d_sc_77)
  have K14 : Rch p e below s₁ F0 T13 (mkF m 81 #[sR b] [(kR b), (kR fc)]) := fun t k => K12 t (st13 t (XS.aloadN X13.here hx rfl (hb hby d_sc_80) rfl rfl k))
  obtain ⟨T15, X15, e15, st15⟩ := getF X13 hx hZ hown (host := "") (Or.inl (hw _ (mi 80 rfl))) Via.refl e13 (W11.fld (i := 0) rfl (j := 11) rfl rfl) (g := K14.g) rfl rfl (hb hby d_sc_81)
  have K16 : Rch p e below s₁ F0 T15 (mkF m 85 #[sR b] [(kR b), (kI 0), (kR fc)]) := fun t k => K14 t (st15 t (XS.aloadN X15.here hx rfl (hb hby d_sc_84) rfl rfl k))
  obtain ⟨T17, X17, e17, st17⟩ := getF X15 hx hZ hown (host := "") (Or.inl (hw _ (mi 84 rfl))) Via.refl e15 (W11.fld (i := 0) rfl (j := 13) rfl rfl) (g := K16.g) rfl rfl (hb hby d_sc_85)
  obtain ⟨T18, h18, L18, X18, e18, N18, W18q, st18⟩ := iasW X17 hx hZ e17 W11 N11 (i := 2) (a := fc) rfl (j := (0 : Int32)) (x := mc) (k := 0) (by decide) (by decide) (by decide) (g := (mkF m 88 #[sR b] [(kI mc), (kI 0), (kR fc)])) rfl rfl (hb hby d_sc_88)
  have W18 : Wo n0 h18 ((b, oB Z [.null, (kI 0), .null, (kI 0), (kR fa), (kR ac), (kR fc), (kR cm), (kR ft), (kR su), (kR pr), (kI 0), (kI 0), (kI mc), (kI 0), .null]) :: (fa, Ar Z .int 2 (upd f1 0 (kI 0))) :: (fc, Ar Z .int 2 (upd f2 0 (kI mc))) :: (ft, Ar Z .int 2 f3) :: Rr) := W18q
  have K19 : Rch p e below s₁ F0 T18 (mkF m 90 #[sR b] [(kR b)]) := fun t k => K16 t (st17 t (st18 t (XS.aloadN X18.here hx rfl (hb hby d_sc_89) rfl rfl k)))
  obtain ⟨T20, X20, e20, st20⟩ := getF X18 hx hZ hown (host := "") (Or.inl (hw _ (mi 61 rfl))) Via.refl e18 (W18.fld (i := 0) rfl (j := 8) rfl rfl) (g := K19.g) rfl rfl (hb hby d_sc_90)
  have K21 : Rch p e below s₁ F0 T20 (mkF m 95 #[sR b] [(kR b), (kR b), (kR ft)]) := fun t k => K19 t (st20 t (by
    refine XS.aloadN X20.here hx rfl (hb hby d_sc_93) rfl rfl ?_
    refine XS.dup X20.here hx rfl (hb hby d_sc_94) rfl rfl ?_
    exact k))
  obtain ⟨T22, X22, e22, st22⟩ := getF X20 hx hZ hown (host := "") (Or.inl (hw _ (mi 80 rfl))) Via.refl e20 (W18.fld (i := 0) rfl (j := 11) rfl rfl) (g := K21.g) rfl rfl (hb hby d_sc_95)
  have K23 : Rch p e below s₁ F0 T22 (mkF m 101 #[sR b] [(kI 1), (kR b), (kI 0), (kR ft)]) := fun t k => K21 t (st22 t (by
    refine XS.dupX1 X22.here hx rfl (hb hby d_sc_98) rfl rfl rfl ?_
    refine XS.iconst X22.here hx rfl (hb hby d_sc_99) ?_
    refine XS.iadd X22.here hx rfl (hb hby d_sc_100) rfl ?_
    exact k))
  obtain ⟨T24, h24, L24, X24, e24, N24, W24q, st24⟩ := putW X22 hx hZ hown (host := "") (Or.inl (hw _ (mi 80 rfl))) e22 W18 N18 (own_dB hw) (Or.inl (hw _ (mi 81 rfl))) (hw _ (mi 47 rfl)) (ty := .int) (by decide +kernel) (i := 0) (a := b) rfl (j := 11) rfl rfl (v := (.int (1 : Int32))) rfl rfl (g := K23.g) rfl rfl (hb hby d_sc_101)
  have W24 : Wo n0 h24 ((b, oB Z [.null, (kI 0), .null, (kI 0), (kR fa), (kR ac), (kR fc), (kR cm), (kR ft), (kR su), (kR pr), (kI 1), (kI 0), (kI mc), (kI 0), .null]) :: (fa, Ar Z .int 2 (upd f1 0 (kI 0))) :: (fc, Ar Z .int 2 (upd f2 0 (kI mc))) :: (ft, Ar Z .int 2 f3) :: Rr) := W24q
  have K25 : Rch p e below s₁ F0 T24 (mkF m 105 #[sR b] [(kR b), (kI 0), (kR ft)]) := fun t k => K23 t (st24 t (XS.aloadN X24.here hx rfl (hb hby d_sc_104) rfl rfl k))
  obtain ⟨T26, X26, e26, st26⟩ := getF X24 hx hZ hown (host := "") (Or.inl (hw _ (mi 86 rfl))) Via.refl e24 (W24.fld (i := 0) rfl (j := 14) rfl rfl) (g := K25.g) rfl rfl (hb hby d_sc_105)
  obtain ⟨T27, h27, L27, X27, e27, N27, W27q, st27⟩ := iasW X26 hx hZ e26 W24 N24 (i := 3) (a := ft) rfl (j := (0 : Int32)) (x := (0 : Int32)) (k := 0) (by decide) (by decide) (by decide) (g := (mkF m 108 #[sR b] [(kI 0), (kI 0), (kR ft)])) rfl rfl (hb hby d_sc_108)
  have W27 : Wo n0 h27 ((b, oB Z [.null, (kI 0), .null, (kI 0), (kR fa), (kR ac), (kR fc), (kR cm), (kR ft), (kR su), (kR pr), (kI 1), (kI 0), (kI mc), (kI 0), .null]) :: (fa, Ar Z .int 2 (upd f1 0 (kI 0))) :: (fc, Ar Z .int 2 (upd f2 0 (kI mc))) :: (ft, Ar Z .int 2 (upd f3 0 (kI 0))) :: Rr) := W27q
  have K28 : Rch p e below s₁ F0 T27 (mkF m 111 #[sR b] [.null, (kR b)]) := fun t k => K25 t (st26 t (st27 t (by
    refine XS.aloadN X27.here hx rfl (hb hby d_sc_109) rfl rfl ?_
    refine XS.aconstNull X27.here hx rfl (hb hby d_sc_110) ?_
    exact k)))
  obtain ⟨T29, h29, L29, X29, e29, N29, W29q, st29⟩ := putW X27 hx hZ hown (host := "") (Or.inl (hw _ (mi 88 rfl))) e27 W27 N27 (own_dB hw) (Or.inl (hw _ (mi 89 rfl))) (hw _ (mi 47 rfl)) (ty := (.object "java/util/Map")) (by decide +kernel) (i := 0) (a := b) rfl (j := 15) rfl rfl (v := .null) rfl rfl (g := K28.g) rfl rfl (hb hby d_sc_111)
  have W29 : Wo n0 h29 ((b, oB Z [.null, (kI 0), .null, (kI 0), (kR fa), (kR ac), (kR fc), (kR cm), (kR ft), (kR su), (kR pr), (kI 1), (kI 0), (kI mc), (kI 0), .null]) :: (fa, Ar Z .int 2 (upd f1 0 (kI 0))) :: (fc, Ar Z .int 2 (upd f2 0 (kI mc))) :: (ft, Ar Z .int 2 (upd f3 0 (kI 0))) :: Rr) := W29q
  have K30 : Rch p e below s₁ F0 T29 (mkF m 114 #[sR b] []) := fun t k => K28 t (st29 t (k))
  obtain ⟨fs, hr, hrun, hended, hWm, hsame⟩ := X29.leave (v := none) (fun _ => rfl)
  refine ⟨_, _, pre0 _ (K30 _ (X29.returnOut hx Bd.returns (hb hby d_sc_114) hr)), hrun, hended, _, _, rfl, ?_, ⟨_, rfl⟩, hWm, hsame.mono (by decide) (by decide)⟩
  show QrmSC0 Z b fa ac fc cm ft su pr mc f1 f2 f3 Rr n0 _ T29.heap _
  rw [e29]
  exact ⟨rfl, N29, W29⟩
theorem ef_rmSC1 (m : MethodId) (b fa ac fc cm ft su pr : Addr) (mc : Int32) (f1 f2 f3 : Nat → Value) : entryFrame m #[(.ref b)] 1 = mkF m 0 #[.val (.ref b)] [] := by first | (simp [entryFrame, mkF, argsToLocals, Value.category]; done) | rfl
def QrmSC1 (Z : State) (b fa ac fc cm ft su pr : Addr) (mc : Int32) (f1 f2 f3 : Nat → Value) (Rr : List (Addr × (Cell → Prop))) (n0 : Nat) (v : Option Value) (h : Heap) (L : List Loc) : Prop := v = none ∧ Fr n0 L ∧ Wo n0 h ((b, oB Z [.null, (kI 0), .null, (kI 0), (kR fa), (kR ac), (kR fc), (kR cm), (kR ft), (kR su), (kR pr), (kI 2), (kI 0), (kI mc), (kI 0), .null]) :: (fa, Ar Z .int 2 (upd f1 1 (kI 0))) :: (fc, Ar Z .int 2 (upd f2 1 (kI mc))) :: (ft, Ar Z .int 2 (upd f3 1 (kI 0))) :: Rr)
set_option maxRecDepth 65536 in
set_option maxHeartbeats 40000000 in
theorem rmSC1 (l : Launch) (Z : State) (a0 : Array Value) (hw : ∀ d ∈ tables_1, d.before a0 Z = true) (ws : List Jvm.Cond) (b fa ac fc cm ft su pr : Addr) (mc : Int32) (f1 f2 f3 : Nat → Value) (Rr : List (Addr × (Cell → Prop))) (h0 : Heap) (n0 : Nat) (W0 : Wo n0 h0 ((b, oB Z [.null, (kI 0), .null, (kI 0), (kR fa), (kR ac), (kR fc), (kR cm), (kR ft), (kR su), (kR pr), (kI 1), (kI 0), (kI mc), (kI 0), .null]) :: (fa, Ar Z .int 2 f1) :: (fc, Ar Z .int 2 f2) :: (ft, Ar Z .int 2 f3) :: Rr)) :
    MetFree l (⟨"com/example/sambre/sambre/engine/Rows$Builder", "startChoice", "()V"⟩ : MethodName) (head1 (Jvm.Cond.code (⟨"com/example/sambre/sambre/engine/Rows$Builder", "startChoice", "()V"⟩ : MethodName) prog_88_method_3_code 1 none :: ws) ({ frames := 0, cells := 0, slots := 0, locals := 0 } : Room)) (fun aa U => aa = #[(.ref b)] ∧ Z.Warmed39 U.vm ∧ U.heap = h0) (fun _ _ _ _ _ => True) (fun _ U ou U' => ∃ v L, ou = .returned v ∧ QrmSC1 Z b fa ac fc cm ft su pr mc f1 f2 f3 Rr n0 v U'.heap L ∧ FrameEnd U ou U' L ({ frames := 0, cells := 0, slots := 0, locals := 0 } : Room).cells ({ frames := 0, cells := 0, slots := 0, locals := 0 } : Room).slots) := by
  refine MetFree.of_bodySF (plainFor_of_name pn_Rows_Builder) hisR ?_
  intro p e s m args below meth c s₁ Bd hml0 hP hK
  obtain ⟨rfl, hZ, hh⟩ := hP
  have hx := Bd.exec
  have hby := Bd.bytes
  have hml : c.maxLocals = 1 := hml0
  have hown : s.vm.findClass "com/example/sambre/sambre/engine/Rows$Builder" = some m.cls := findClass_of_methodNamed Bd.named
  have hnm := (name_of_methodNamed Bd.named Bd.method).1
  have X0 : Stand p l e ({ frames := 0, cells := 0, slots := 0, locals := 0 } : Room) s m #[(.ref b)] below meth c s₁ [] 0 0 := Stand.of_body Bd
  have e0 : s₁.heap = h0 := by rw [← hh, Bd.state]; rfl
  have N0 := Fr.nil n0
  obtain ⟨F0, hF0⟩ : ∃ F, F = mkF m 0 #[.val (.ref b)] [] := ⟨_, rfl⟩
  have pre0 : ∀ t, Steps p.tables e below (s₁.setTop F0) t → Steps p.tables e below (s₁.setTop (entryFrame m #[(.ref b)] 1)) t := fun t k => castTop ((ef_rmSC1 m b fa ac fc cm ft su pr mc f1 f2 f3).trans hF0.symm) k
  have K0 : Rch p e below s₁ F0 s₁ (mkF m 0 #[.val (.ref b)] []) := fun t k => castTop hF0 k
  have K1 : Rch p e below s₁ F0 s₁ (mkF m 1 #[sR b] [(kR b)]) := fun t k => K0 t (XS.aloadN X0.here hx rfl (hb hby d_sc_0) rfl rfl k)
  obtain ⟨T2, X2, e2, st2⟩ := getF X0 hx hZ hown (host := "") (Or.inl (hw _ (mi 80 rfl))) Via.refl e0 (W0.fld (i := 0) rfl (j := 11) rfl rfl) (g := K1.g) rfl rfl (hb hby d_sc_1)
  have K3 : Rch p e below s₁ F0 T2 (mkF m 5 #[sR b] [(kR b), (kI 1)]) := fun t k => K1 t (st2 t (XS.aloadN X2.here hx rfl (hb hby d_sc_4) rfl rfl k))
  obtain ⟨T4, X4, e4, st4⟩ := getF X2 hx hZ hown (host := "") (Or.inl (hw _ (mi 53 rfl))) Via.refl e2 (W0.fld (i := 0) rfl (j := 4) rfl rfl) (g := K3.g) rfl rfl (hb hby d_sc_5)
  have K5 : Rch p e below s₁ F0 T4 (mkF m 64 #[sR b] [(kR b)]) := fun t k => K3 t (st4 t (by
    refine lenW X4 hx hZ e4 W0 (i := 1) rfl (fun _ q => q) (z := (2 : Int32)) (by decide) (g := (mkF m 8 #[sR b] [(kR fa), (kI 1)])) rfl rfl (hb hby d_sc_8) _ ?_
    refine XS.icmpYes X4.here hx rfl (pc0 := 9) (pc' := 63) rfl (hb hby d_sc_9) rfl (by decide) (by decide) (by decide) ?_
    refine XS.aloadN X4.here hx rfl (hb hby d_sc_63) rfl rfl ?_
    exact k))
  obtain ⟨T6, X6, e6, st6⟩ := getF X4 hx hZ hown (host := "") (Or.inl (hw _ (mi 53 rfl))) Via.refl e4 (W0.fld (i := 0) rfl (j := 4) rfl rfl) (g := K5.g) rfl rfl (hb hby d_sc_64)
  have K7 : Rch p e below s₁ F0 T6 (mkF m 68 #[sR b] [(kR b), (kR fa)]) := fun t k => K5 t (st6 t (XS.aloadN X6.here hx rfl (hb hby d_sc_67) rfl rfl k))
  obtain ⟨T8, X8, e8, st8⟩ := getF X6 hx hZ hown (host := "") (Or.inl (hw _ (mi 80 rfl))) Via.refl e6 (W0.fld (i := 0) rfl (j := 11) rfl rfl) (g := K7.g) rfl rfl (hb hby d_sc_68)
  have K9 : Rch p e below s₁ F0 T8 (mkF m 72 #[sR b] [(kR b), (kI 1), (kR fa)]) := fun t k => K7 t (st8 t (XS.aloadN X8.here hx rfl (hb hby d_sc_71) rfl rfl k))
  obtain ⟨T10, X10, e10, st10⟩ := getF X8 hx hZ hown (host := "") (Or.inl (hw _ (mi 82 rfl))) Via.refl e8 (W0.fld (i := 0) rfl (j := 12) rfl rfl) (g := K9.g) rfl rfl (hb hby d_sc_72)
  obtain ⟨T11, h11, L11, X11, e11, N11, W11q, st11⟩ := iasW X10 hx hZ e10 W0 N0 (i := 1) (a := fa) rfl (j := (1 : Int32)) (x := (0 : Int32)) (k := 1) (by decide) (by decide) (by decide) (g := (mkF m 75 #[sR b] [(kI 0), (kI 1), (kR fa)])) rfl rfl (hb hby d_sc_75)
  have W11 : Wo n0 h11 ((b, oB Z [.null, (kI 0), .null, (kI 0), (kR fa), (kR ac), (kR fc), (kR cm), (kR ft), (kR su), (kR pr), (kI 1), (kI 0), (kI mc), (kI 0), .null]) :: (fa, Ar Z .int 2 (upd f1 1 (kI 0))) :: (fc, Ar Z .int 2 f2) :: (ft, Ar Z .int 2 f3) :: Rr) := W11q
  have K12 : Rch p e below s₁ F0 T11 (mkF m 77 #[sR b] [(kR b)]) := fun t k => K9 t (st10 t (st11 t (XS.aloadN X11.here hx rfl (hb hby d_sc_76) rfl rfl k)))
  obtain ⟨T13, X13, e13, st13⟩ := getF X11 hx hZ hown (host := "") (Or.inl (hw _ (mi 57 rfl))) Via.refl e11 (W11.fld (i := 0) rfl (j := 6) rfl rfl) (g := K12.g) rfl rfl (hb hby d_sc_77)
  have K14 : Rch p e below s₁ F0 T13 (mkF m 81 #[sR b] [(kR b), (kR fc)]) := fun t k => K12 t (st13 t (XS.aloadN X13.here hx rfl (hb hby d_sc_80) rfl rfl k))
  obtain ⟨T15, X15, e15, st15⟩ := getF X13 hx hZ hown (host := "") (Or.inl (hw _ (mi 80 rfl))) Via.refl e13 (W11.fld (i := 0) rfl (j := 11) rfl rfl) (g := K14.g) rfl rfl (hb hby d_sc_81)
  have K16 : Rch p e below s₁ F0 T15 (mkF m 85 #[sR b] [(kR b), (kI 1), (kR fc)]) := fun t k => K14 t (st15 t (XS.aloadN X15.here hx rfl (hb hby d_sc_84) rfl rfl k))
  obtain ⟨T17, X17, e17, st17⟩ := getF X15 hx hZ hown (host := "") (Or.inl (hw _ (mi 84 rfl))) Via.refl e15 (W11.fld (i := 0) rfl (j := 13) rfl rfl) (g := K16.g) rfl rfl (hb hby d_sc_85)
  obtain ⟨T18, h18, L18, X18, e18, N18, W18q, st18⟩ := iasW X17 hx hZ e17 W11 N11 (i := 2) (a := fc) rfl (j := (1 : Int32)) (x := mc) (k := 1) (by decide) (by decide) (by decide) (g := (mkF m 88 #[sR b] [(kI mc), (kI 1), (kR fc)])) rfl rfl (hb hby d_sc_88)
  have W18 : Wo n0 h18 ((b, oB Z [.null, (kI 0), .null, (kI 0), (kR fa), (kR ac), (kR fc), (kR cm), (kR ft), (kR su), (kR pr), (kI 1), (kI 0), (kI mc), (kI 0), .null]) :: (fa, Ar Z .int 2 (upd f1 1 (kI 0))) :: (fc, Ar Z .int 2 (upd f2 1 (kI mc))) :: (ft, Ar Z .int 2 f3) :: Rr) := W18q
  have K19 : Rch p e below s₁ F0 T18 (mkF m 90 #[sR b] [(kR b)]) := fun t k => K16 t (st17 t (st18 t (XS.aloadN X18.here hx rfl (hb hby d_sc_89) rfl rfl k)))
  obtain ⟨T20, X20, e20, st20⟩ := getF X18 hx hZ hown (host := "") (Or.inl (hw _ (mi 61 rfl))) Via.refl e18 (W18.fld (i := 0) rfl (j := 8) rfl rfl) (g := K19.g) rfl rfl (hb hby d_sc_90)
  have K21 : Rch p e below s₁ F0 T20 (mkF m 95 #[sR b] [(kR b), (kR b), (kR ft)]) := fun t k => K19 t (st20 t (by
    refine XS.aloadN X20.here hx rfl (hb hby d_sc_93) rfl rfl ?_
    refine XS.dup X20.here hx rfl (hb hby d_sc_94) rfl rfl ?_
    exact k))
  obtain ⟨T22, X22, e22, st22⟩ := getF X20 hx hZ hown (host := "") (Or.inl (hw _ (mi 80 rfl))) Via.refl e20 (W18.fld (i := 0) rfl (j := 11) rfl rfl) (g := K21.g) rfl rfl (hb hby d_sc_95)
  have K23 : Rch p e below s₁ F0 T22 (mkF m 101 #[sR b] [(kI 2), (kR b), (kI 1), (kR ft)]) := fun t k => K21 t (st22 t (by
    refine XS.dupX1 X22.here hx rfl (hb hby d_sc_98) rfl rfl rfl ?_
    refine XS.iconst X22.here hx rfl (hb hby d_sc_99) ?_
    refine XS.iadd X22.here hx rfl (hb hby d_sc_100) rfl ?_
    exact k))
  obtain ⟨T24, h24, L24, X24, e24, N24, W24q, st24⟩ := putW X22 hx hZ hown (host := "") (Or.inl (hw _ (mi 80 rfl))) e22 W18 N18 (own_dB hw) (Or.inl (hw _ (mi 81 rfl))) (hw _ (mi 47 rfl)) (ty := .int) (by decide +kernel) (i := 0) (a := b) rfl (j := 11) rfl rfl (v := (.int (2 : Int32))) rfl rfl (g := K23.g) rfl rfl (hb hby d_sc_101)
  have W24 : Wo n0 h24 ((b, oB Z [.null, (kI 0), .null, (kI 0), (kR fa), (kR ac), (kR fc), (kR cm), (kR ft), (kR su), (kR pr), (kI 2), (kI 0), (kI mc), (kI 0), .null]) :: (fa, Ar Z .int 2 (upd f1 1 (kI 0))) :: (fc, Ar Z .int 2 (upd f2 1 (kI mc))) :: (ft, Ar Z .int 2 f3) :: Rr) := W24q
  have K25 : Rch p e below s₁ F0 T24 (mkF m 105 #[sR b] [(kR b), (kI 1), (kR ft)]) := fun t k => K23 t (st24 t (XS.aloadN X24.here hx rfl (hb hby d_sc_104) rfl rfl k))
  obtain ⟨T26, X26, e26, st26⟩ := getF X24 hx hZ hown (host := "") (Or.inl (hw _ (mi 86 rfl))) Via.refl e24 (W24.fld (i := 0) rfl (j := 14) rfl rfl) (g := K25.g) rfl rfl (hb hby d_sc_105)
  obtain ⟨T27, h27, L27, X27, e27, N27, W27q, st27⟩ := iasW X26 hx hZ e26 W24 N24 (i := 3) (a := ft) rfl (j := (1 : Int32)) (x := (0 : Int32)) (k := 1) (by decide) (by decide) (by decide) (g := (mkF m 108 #[sR b] [(kI 0), (kI 1), (kR ft)])) rfl rfl (hb hby d_sc_108)
  have W27 : Wo n0 h27 ((b, oB Z [.null, (kI 0), .null, (kI 0), (kR fa), (kR ac), (kR fc), (kR cm), (kR ft), (kR su), (kR pr), (kI 2), (kI 0), (kI mc), (kI 0), .null]) :: (fa, Ar Z .int 2 (upd f1 1 (kI 0))) :: (fc, Ar Z .int 2 (upd f2 1 (kI mc))) :: (ft, Ar Z .int 2 (upd f3 1 (kI 0))) :: Rr) := W27q
  have K28 : Rch p e below s₁ F0 T27 (mkF m 111 #[sR b] [.null, (kR b)]) := fun t k => K25 t (st26 t (st27 t (by
    refine XS.aloadN X27.here hx rfl (hb hby d_sc_109) rfl rfl ?_
    refine XS.aconstNull X27.here hx rfl (hb hby d_sc_110) ?_
    exact k)))
  obtain ⟨T29, h29, L29, X29, e29, N29, W29q, st29⟩ := putW X27 hx hZ hown (host := "") (Or.inl (hw _ (mi 88 rfl))) e27 W27 N27 (own_dB hw) (Or.inl (hw _ (mi 89 rfl))) (hw _ (mi 47 rfl)) (ty := (.object "java/util/Map")) (by decide +kernel) (i := 0) (a := b) rfl (j := 15) rfl rfl (v := .null) rfl rfl (g := K28.g) rfl rfl (hb hby d_sc_111)
  have W29 : Wo n0 h29 ((b, oB Z [.null, (kI 0), .null, (kI 0), (kR fa), (kR ac), (kR fc), (kR cm), (kR ft), (kR su), (kR pr), (kI 2), (kI 0), (kI mc), (kI 0), .null]) :: (fa, Ar Z .int 2 (upd f1 1 (kI 0))) :: (fc, Ar Z .int 2 (upd f2 1 (kI mc))) :: (ft, Ar Z .int 2 (upd f3 1 (kI 0))) :: Rr) := W29q
  have K30 : Rch p e below s₁ F0 T29 (mkF m 114 #[sR b] []) := fun t k => K28 t (st29 t (k))
  obtain ⟨fs, hr, hrun, hended, hWm, hsame⟩ := X29.leave (v := none) (fun _ => rfl)
  refine ⟨_, _, pre0 _ (K30 _ (X29.returnOut hx Bd.returns (hb hby d_sc_114) hr)), hrun, hended, _, _, rfl, ?_, ⟨_, rfl⟩, hWm, hsame.mono (by decide) (by decide)⟩
  show QrmSC1 Z b fa ac fc cm ft su pr mc f1 f2 f3 Rr n0 _ T29.heap _
  rw [e29]
  exact ⟨rfl, N29, W29⟩
theorem pd_min : parseMethodDescriptor "(II)I" = some ⟨[.int, .int], some .int⟩ := by decide +kernel
theorem d_min_0 : decode jdk_29_method_69_code 0 = .ok (.iload_n 0, 1) := by decide +kernel
theorem d_min_1 : decode jdk_29_method_69_code 1 = .ok (.iload_n 1, 1) := by decide +kernel
theorem d_min_2 : decode jdk_29_method_69_code 2 = .ok (.if_icmp .gt 7, 3) := by decide +kernel
theorem d_min_5 : decode jdk_29_method_69_code 5 = .ok (.iload_n 0, 1) := by decide +kernel
theorem d_min_6 : decode jdk_29_method_69_code 6 = .ok (.goto 4, 3) := by decide +kernel
theorem d_min_10 : decode jdk_29_method_69_code 10 = .ok (.ireturn, 1) := by decide +kernel
theorem ef_rmMIN (m : MethodId)  : entryFrame m #[(.int (2 : Int32)), (.int (4 : Int32))] 2 = mkF m 0 #[.val (.int (2 : Int32)), .val (.int (4 : Int32))] [] := by first | (simp [entryFrame, mkF, argsToLocals, Value.category]; done) | rfl
def QrmMIN (Z : State)  (Rr : List (Addr × (Cell → Prop))) (n0 : Nat) (v : Option Value) (h : Heap) (L : List Loc) : Prop := v = some (.int (2 : Int32)) ∧ Fr n0 L ∧ Wo n0 h (Rr)
set_option maxRecDepth 65536 in
set_option maxHeartbeats 40000000 in
theorem rmMIN (l : Launch) (Z : State) (a0 : Array Value) (hw : ∀ d ∈ tables_1, d.before a0 Z = true) (ws : List Jvm.Cond)  (Rr : List (Addr × (Cell → Prop))) (h0 : Heap) (n0 : Nat) (W0 : Wo n0 h0 (Rr)) :
    MetFree l (⟨"java/lang/Math", "min", "(II)I"⟩ : MethodName) (head1 (Jvm.Cond.code (⟨"java/lang/Math", "min", "(II)I"⟩ : MethodName) jdk_29_method_69_code 2 (some .int) :: ws) ({ frames := 0, cells := 0, slots := 0, locals := 0 } : Room)) (fun aa U => aa = #[(.int (2 : Int32)), (.int (4 : Int32))] ∧ Z.Warmed39 U.vm ∧ U.heap = h0) (fun _ _ _ _ _ => True) (fun _ U ou U' => ∃ v L, ou = .returned v ∧ QrmMIN Z  Rr n0 v U'.heap L ∧ FrameEnd U ou U' L ({ frames := 0, cells := 0, slots := 0, locals := 0 } : Room).cells ({ frames := 0, cells := 0, slots := 0, locals := 0 } : Room).slots) := by
  refine MetFree.of_bodySF (Jvm.Free.JP.mathPlain rfl (by decide +kernel)) hisR ?_
  intro p e s m args below meth c s₁ Bd hml0 hP hK
  obtain ⟨rfl, hZ, hh⟩ := hP
  have hx := Bd.exec
  have hby := Bd.bytes
  have hml : c.maxLocals = 2 := hml0
  have hown : s.vm.findClass "java/lang/Math" = some m.cls := findClass_of_methodNamed Bd.named
  have hnm := (name_of_methodNamed Bd.named Bd.method).1
  have X0 : Stand p l e ({ frames := 0, cells := 0, slots := 0, locals := 0 } : Room) s m #[(.int (2 : Int32)), (.int (4 : Int32))] below meth c s₁ [] 0 0 := Stand.of_body Bd
  have e0 : s₁.heap = h0 := by rw [← hh, Bd.state]; rfl
  have N0 := Fr.nil n0
  obtain ⟨F0, hF0⟩ : ∃ F, F = mkF m 0 #[.val (.int (2 : Int32)), .val (.int (4 : Int32))] [] := ⟨_, rfl⟩
  have pre0 : ∀ t, Steps p.tables e below (s₁.setTop F0) t → Steps p.tables e below (s₁.setTop (entryFrame m #[(.int (2 : Int32)), (.int (4 : Int32))] 2)) t := fun t k => castTop ((ef_rmMIN m ).trans hF0.symm) k
  have K0 : Rch p e below s₁ F0 s₁ (mkF m 0 #[.val (.int (2 : Int32)), .val (.int (4 : Int32))] []) := fun t k => castTop hF0 k
  have K1 : Rch p e below s₁ F0 s₁ (mkF m 10 #[sI 2, sI 4] [(kI 2)]) := fun t k => K0 t (by
    refine XS.iloadN X0.here hx rfl (hb hby d_min_0) rfl ?_
    refine XS.iloadN X0.here hx rfl (hb hby d_min_1) rfl ?_
    refine XS.icmpNo X0.here hx rfl (hb hby d_min_2) rfl (by decide) ?_
    refine XS.iloadN X0.here hx rfl (hb hby d_min_5) rfl ?_
    refine XS.goto X0.here hx rfl (pc0 := 6) (pc' := 10) rfl (hb hby d_min_6) (by decide) (by decide) ?_
    exact k)
  obtain ⟨fs, hr, hrun, hended, hWm, hsame⟩ := X0.leave (v := some (.int (2 : Int32))) (fun h => by rw [Bd.returns] at h; cases h)
  refine ⟨_, _, pre0 _ (K1 _ (retI X0 hx Bd.returns (hb hby d_min_10) hr)), hrun, hended, _, _, rfl, ?_, ⟨_, rfl⟩, hWm, hsame.mono (by decide) (by decide)⟩
  show QrmMIN Z  Rr n0 _ s₁.heap _
  rw [e0]
  exact ⟨rfl, N0, W0⟩
theorem pd_co : parseMethodDescriptor "([II)[I" = some ⟨[(.array .int), .int], some (.array .int)⟩ := by decide +kernel
theorem pn_Arrays : plainName "java/util/Arrays" = true := by first | (simp [plainName, overriddenIn]; done) | decide +kernel
theorem d_co_0 : decode jdk_65_method_123_code 0 = .ok (.iload_n 1, 1) := by decide +kernel
theorem d_co_1 : decode jdk_65_method_123_code 1 = .ok (.aload_n 0, 1) := by decide +kernel
theorem d_co_2 : decode jdk_65_method_123_code 2 = .ok (.arraylength, 1) := by decide +kernel
theorem d_co_3 : decode jdk_65_method_123_code 3 = .ok (.if_icmp .ne 11, 3) := by decide +kernel
theorem d_co_14 : decode jdk_65_method_123_code 14 = .ok (.iload_n 1, 1) := by decide +kernel
theorem d_co_15 : decode jdk_65_method_123_code 15 = .ok (.newarray .int, 2) := by decide +kernel
theorem d_co_17 : decode jdk_65_method_123_code 17 = .ok (.astore_n 2, 1) := by decide +kernel
theorem d_co_18 : decode jdk_65_method_123_code 18 = .ok (.aload_n 0, 1) := by decide +kernel
theorem d_co_19 : decode jdk_65_method_123_code 19 = .ok (.iconst 0, 1) := by decide +kernel
theorem d_co_20 : decode jdk_65_method_123_code 20 = .ok (.aload_n 2, 1) := by decide +kernel
theorem d_co_21 : decode jdk_65_method_123_code 21 = .ok (.iconst 0, 1) := by decide +kernel
theorem d_co_22 : decode jdk_65_method_123_code 22 = .ok (.aload_n 0, 1) := by decide +kernel
theorem d_co_23 : decode jdk_65_method_123_code 23 = .ok (.arraylength, 1) := by decide +kernel
theorem d_co_24 : decode jdk_65_method_123_code 24 = .ok (.iload_n 1, 1) := by decide +kernel
theorem d_co_25 : decode jdk_65_method_123_code 25 = .ok (.invokestatic 304, 3) := by decide +kernel
theorem d_co_28 : decode jdk_65_method_123_code 28 = .ok (.invokestatic 150, 3) := by decide +kernel
theorem d_co_31 : decode jdk_65_method_123_code 31 = .ok (.aload_n 2, 1) := by decide +kernel
theorem d_co_32 : decode jdk_65_method_123_code 32 = .ok (.areturn, 1) := by decide +kernel
theorem ef_rmCO (m : MethodId) (q : Addr) (f : Nat → Value) : entryFrame m #[(.ref q), (.int (4 : Int32))] 3 = mkF m 0 #[.val (.ref q), .val (.int (4 : Int32)), .unset] [] := by first | (simp [entryFrame, mkF, argsToLocals, Value.category]; done) | rfl
def QrmCO (Z : State) (q : Addr) (f : Nat → Value) (Rr : List (Addr × (Cell → Prop))) (n0 : Nat) (v : Option Value) (h : Heap) (L : List Loc) : Prop := ∃ a2, v = some (.ref a2) ∧ Fr n0 L ∧ Wo n0 h ((a2, Ar Z .int 4 (cpy f zI 0 0 2)) :: (q, Ar Z .int 2 f) :: Rr)
set_option maxRecDepth 65536 in
set_option maxHeartbeats 40000000 in
theorem rmCO (l : Launch) (Z : State) (a0 : Array Value) (hw : ∀ d ∈ tables_1, d.before a0 Z = true) (ws : List Jvm.Cond) (q : Addr) (f : Nat → Value) (Rr : List (Addr × (Cell → Prop))) (h0 : Heap) (n0 : Nat) (W0 : Wo n0 h0 ((q, Ar Z .int 2 f) :: Rr)) :
    MetFree l (⟨"java/util/Arrays", "copyOf", "([II)[I"⟩ : MethodName) (head1 (Jvm.Cond.code (⟨"java/util/Arrays", "copyOf", "([II)[I"⟩ : MethodName) jdk_65_method_123_code 3 (some (.array .int)) :: ws) ({ frames := 1, cells := 1, slots := 4, locals := 18 } : Room)) (fun aa U => aa = #[(.ref q), (.int (4 : Int32))] ∧ Z.Warmed39 U.vm ∧ U.heap = h0) (fun _ _ _ _ _ => True) (fun _ U ou U' => ∃ v L, ou = .returned v ∧ QrmCO Z q f Rr n0 v U'.heap L ∧ FrameEnd U ou U' L ({ frames := 1, cells := 1, slots := 4, locals := 18 } : Room).cells ({ frames := 1, cells := 1, slots := 4, locals := 18 } : Room).slots) := by
  refine MetFree.of_bodySF (plainFor_of_name pn_Arrays) hisR ?_
  intro p e s m args below meth c s₁ Bd hml0 hP hK
  obtain ⟨rfl, hZ, hh⟩ := hP
  have hx := Bd.exec
  have hby := Bd.bytes
  have hml : c.maxLocals = 3 := hml0
  have hown : s.vm.findClass "java/util/Arrays" = some m.cls := findClass_of_methodNamed Bd.named
  have hnm := (name_of_methodNamed Bd.named Bd.method).1
  have X0 : Stand p l e ({ frames := 1, cells := 1, slots := 4, locals := 18 } : Room) s m #[(.ref q), (.int (4 : Int32))] below meth c s₁ [] 0 0 := Stand.of_body Bd
  have e0 : s₁.heap = h0 := by rw [← hh, Bd.state]; rfl
  have N0 := Fr.nil n0
  obtain ⟨F0, hF0⟩ : ∃ F, F = mkF m 0 #[.val (.ref q), .val (.int (4 : Int32)), .unset] [] := ⟨_, rfl⟩
  have pre0 : ∀ t, Steps p.tables e below (s₁.setTop F0) t → Steps p.tables e below (s₁.setTop (entryFrame m #[(.ref q), (.int (4 : Int32))] 3)) t := fun t k => castTop ((ef_rmCO m q f).trans hF0.symm) k
  have K0 : Rch p e below s₁ F0 s₁ (mkF m 0 #[.val (.ref q), .val (.int (4 : Int32)), .unset] []) := fun t k => castTop hF0 k
  have K1 : Rch p e below s₁ F0 s₁ (mkF m 15 #[sR q, sI 4, sU] [(kI 4)]) := fun t k => K0 t (by
    refine XS.iloadN X0.here hx rfl (hb hby d_co_0) rfl ?_
    refine XS.aloadN X0.here hx rfl (hb hby d_co_1) rfl rfl ?_
    refine lenW X0 hx hZ e0 W0 (i := 0) rfl (fun _ q => q) (z := (2 : Int32)) (by decide) (g := (mkF m 2 #[sR q, sI 4, sU] [(kR q), (kI 4)])) rfl rfl (hb hby d_co_2) _ ?_
    refine XS.icmpYes X0.here hx rfl (pc0 := 3) (pc' := 14) rfl (hb hby d_co_3) rfl (by decide) (by decide) (by decide) ?_
    refine XS.iloadN X0.here hx rfl (hb hby d_co_14) rfl ?_
    exact k)
  obtain ⟨T2, h2, a2, X2, e2, W2q, st2⟩ := newWA X0 hx hZ (aty := .int) (ty := .int) rfl (hw _ (mi 7 rfl)) e0 W0 (g := K1.g) rfl (hb hby d_co_15) (z := (4 : Int32)) (n := 4) rfl (by decide) (by decide) (cap := 4) (by decide) (by decide) (by decide : 0 + 1 ≤ _) (by decide : 0 + 4 ≤ _)
  have W2 : Wo n0 h2 ((a2, Ar Z .int 4 zI) :: (q, Ar Z .int 2 f) :: Rr) := W2q
  have K3 : Rch p e below s₁ F0 T2 (mkF m 25 #[sR q, sI 4, sR a2] [(kI 4), (kI 2), (kI 0), (kR a2), (kI 0), (kR q)]) := fun t k => K1 t (st2 t (by
    refine XS.astoreN X2.here hx rfl (hb hby d_co_17) rfl rfl (l' := #[sR q, sI 4, sR a2]) rfl ?_
    refine XS.aloadN X2.here hx rfl (hb hby d_co_18) rfl rfl ?_
    refine XS.iconst X2.here hx rfl (hb hby d_co_19) ?_
    refine XS.aloadN X2.here hx rfl (hb hby d_co_20) rfl rfl ?_
    refine XS.iconst X2.here hx rfl (hb hby d_co_21) ?_
    refine XS.aloadN X2.here hx rfl (hb hby d_co_22) rfl rfl ?_
    show Steps p.tables e below (T2.setTop (mkF m 23 #[sR q, sI 4, sR a2] [(kR q), (kI 0), (kR a2), (kI 0), (kR q)])) _
    refine lenW X2 hx hZ e2 W2 (i := 1) rfl (fun _ q => q) (z := (2 : Int32)) (by decide) (g := (mkF m 23 #[sR q, sI 4, sR a2] [(kR q), (kI 0), (kR a2), (kI 0), (kR q)])) rfl rfl (hb hby d_co_23) _ ?_
    refine XS.iloadN X2.here hx rfl (hb hby d_co_24) rfl ?_
    exact k))
  obtain ⟨_, _, ⟨T4, L4, k4, n4⟩, -, X4, ⟨Lc4, hQ4, l4, y4, z4⟩, st4⟩ := Jvm.LawKit.callS X2 hx (y := (⟨"java/lang/Math", "min", "(II)I"⟩ : MethodName)) hown (mvT hZ (hw _ (mi 140 rfl))) (mvT hZ (hw _ (mi 141 rfl))) (mvT hZ (hw _ (mi 142 rfl))) (mvT hZ (hw _ (mi 143 rfl))) (by decide) (backOf (W := 4) (rmMIN l Z a0 hw []  ((a2, Ar Z .int 4 zI) :: (q, Ar Z .int 2 f) :: Rr) h2 n0 W2) hZ (hw _ (mi 143 rfl)) (hw _ (mi 142 rfl)) (by decide) (by decide)) (g := K3.g) rfl (by rw [hml]; rfl) (argsL := [(.int (2 : Int32)), (.int (4 : Int32))]) (rest := [(.int (0 : Int32)), (.ref a2), (.int (0 : Int32)), (.ref q)]) (lenOf pd_min rfl) rfl (by show 2 * 0 + _ ≤ _; exact Nat.le_of_eq rfl) (hb hby d_co_25) (fun _ _ => ⟨rfl, e2, (by decide : 1 + 0 ≤ _), (by decide : 4 + 0 ≤ _)⟩)
  dsimp only [Pt.U, Pt.locs, Pt.cells, Pt.slots] at X4 l4 y4 z4 st4 hQ4
  subst l4 y4 z4
  obtain ⟨rfl, N4q, W4⟩ := hQ4
  have N4 := Fr.app N0 N4q
  obtain ⟨T5, h5, L5, X5, e5, N5, W5q, st5⟩ := cpW X4 hx hZ hown (hw _ (mi 144 rfl)) (hw _ (mi 125 rfl)) (hw _ (mi 123 rfl)) (hw _ (mi 124 rfl)) (rfl : T4.heap = T4.heap) W4 N4 (i := 1) (j := 0) rfl rfl rfl (sp := (0 : Int32)) (dp := (0 : Int32)) (nn := (2 : Int32)) (s' := 0) (d' := 0) (k' := 2) (by decide) (by decide) (by decide) (by decide) (by decide) (by decide) (by decide) (by decide) (g := (mkF m 28 #[sR q, sI 4, sR a2] [(kI 2), (kI 0), (kR a2), (kI 0), (kR q)])) rfl (by rw [hml]; rfl) (rest := []) rfl (hb hby d_co_28) (by decide) (W0 := 0) (by show 2 * 0 + _ ≤ _; exact Nat.le_of_eq rfl) (by decide)
  have W5 : Wo n0 h5 ((a2, Ar Z .int 4 (cpy f zI 0 0 2)) :: (q, Ar Z .int 2 f) :: Rr) := W5q
  have K6 : Rch p e below s₁ F0 T5 (mkF m 32 #[sR q, sI 4, sR a2] [(kR a2)]) := fun t k => K3 t (st4 t (st5 t (XS.aloadN X5.here hx rfl (hb hby d_co_31) rfl rfl k)))
  obtain ⟨fs, hr, hrun, hended, hWm, hsame⟩ := X5.leave (v := some (.ref a2)) (fun h => by rw [Bd.returns] at h; cases h)
  refine ⟨_, _, pre0 _ (K6 _ (Jvm.OwnKit.retA X5 hx Bd.returns rfl (hb hby d_co_32) hr)), hrun, hended, _, _, rfl, ?_, ⟨_, rfl⟩, hWm, hsame.mono (by decide) (by decide)⟩
  show QrmCO Z q f Rr n0 _ T5.heap _
  rw [e5]
  exact ⟨a2, rfl, N5, W5⟩
theorem pd_acm : parseMethodDescriptor "(I)V" = some ⟨[.int], none⟩ := by decide +kernel
theorem d_acm_0 : decode prog_88_method_5_code 0 = .ok (.aload_n 0, 1) := by decide +kernel
theorem d_acm_1 : decode prog_88_method_5_code 1 = .ok (.getfield 51, 3) := by decide +kernel
theorem d_acm_4 : decode prog_88_method_5_code 4 = .ok (.aload_n 0, 1) := by decide +kernel
theorem d_acm_5 : decode prog_88_method_5_code 5 = .ok (.getfield 19, 3) := by decide +kernel
theorem d_acm_8 : decode prog_88_method_5_code 8 = .ok (.arraylength, 1) := by decide +kernel
theorem d_acm_9 : decode prog_88_method_5_code 9 = .ok (.if_icmp .ne 20, 3) := by decide +kernel
theorem d_acm_12 : decode prog_88_method_5_code 12 = .ok (.aload_n 0, 1) := by decide +kernel
theorem d_acm_13 : decode prog_88_method_5_code 13 = .ok (.aload_n 0, 1) := by decide +kernel
theorem d_acm_14 : decode prog_88_method_5_code 14 = .ok (.getfield 19, 3) := by decide +kernel
theorem d_acm_17 : decode prog_88_method_5_code 17 = .ok (.iconst 2, 1) := by decide +kernel
theorem d_acm_18 : decode prog_88_method_5_code 18 = .ok (.aload_n 0, 1) := by decide +kernel
theorem d_acm_19 : decode prog_88_method_5_code 19 = .ok (.getfield 51, 3) := by decide +kernel
theorem d_acm_22 : decode prog_88_method_5_code 22 = .ok (.imul, 1) := by decide +kernel
theorem d_acm_23 : decode prog_88_method_5_code 23 = .ok (.invokestatic 61, 3) := by decide +kernel
theorem d_acm_26 : decode prog_88_method_5_code 26 = .ok (.putfield 19, 3) := by decide +kernel
theorem d_acm_29 : decode prog_88_method_5_code 29 = .ok (.aload_n 0, 1) := by decide +kernel
theorem d_acm_30 : decode prog_88_method_5_code 30 = .ok (.getfield 19, 3) := by decide +kernel
theorem d_acm_33 : decode prog_88_method_5_code 33 = .ok (.aload_n 0, 1) := by decide +kernel
theorem d_acm_34 : decode prog_88_method_5_code 34 = .ok (.dup, 1) := by decide +kernel
theorem d_acm_35 : decode prog_88_method_5_code 35 = .ok (.getfield 51, 3) := by decide +kernel
theorem d_acm_38 : decode prog_88_method_5_code 38 = .ok (.dup_x1, 1) := by decide +kernel
theorem d_acm_39 : decode prog_88_method_5_code 39 = .ok (.iconst 1, 1) := by decide +kernel
theorem d_acm_40 : decode prog_88_method_5_code 40 = .ok (.iadd, 1) := by decide +kernel
theorem d_acm_41 : decode prog_88_method_5_code 41 = .ok (.putfield 51, 3) := by decide +kernel
theorem d_acm_44 : decode prog_88_method_5_code 44 = .ok (.iload_n 1, 1) := by decide +kernel
theorem d_acm_45 : decode prog_88_method_5_code 45 = .ok (.iastore, 1) := by decide +kernel
theorem d_acm_46 : decode prog_88_method_5_code 46 = .ok (.return_, 1) := by decide +kernel
theorem ef_rmAC (m : MethodId) (b fa ac fc cm ft su pr : Addr) (x cc : Int32) (cq n : Nat) (f : Nat → Value) : entryFrame m #[(.ref b), (.int x)] 2 = mkF m 0 #[.val (.ref b), .val (.int x)] [] := by first | (simp [entryFrame, mkF, argsToLocals, Value.category]; done) | rfl
def QrmAC (Z : State) (b fa ac fc cm ft su pr : Addr) (x cc : Int32) (cq n : Nat) (f : Nat → Value) (Rr : List (Addr × (Cell → Prop))) (n0 : Nat) (v : Option Value) (h : Heap) (L : List Loc) : Prop := v = none ∧ Fr n0 L ∧ ∃ (cm' : Addr) (n' : Nat) (f' : Nat → Value), Wo n0 h ((b, oB Z [.null, (.int (0 : Int32)), .null, (.int (0 : Int32)), (.ref fa), (.ref ac), (.ref fc), (.ref cm'), (.ref ft), (.ref su), (.ref pr), (.int cc), (.int (0 : Int32)), (.int (Int32.ofNat (cq + 1))), (.int (0 : Int32)), .null]) :: (cm', Ar Z .int n' f') :: Rr) ∧ (n' = 2 ∨ n' = 4) ∧ cq + 1 ≤ n' ∧ f' cq = .int x ∧ ∀ k, k < cq → f' k = f k
set_option maxRecDepth 65536 in
set_option maxHeartbeats 40000000 in
theorem rmAC (l : Launch) (Z : State) (a0 : Array Value) (hw : ∀ d ∈ tables_1, d.before a0 Z = true) (ws : List Jvm.Cond) (b fa ac fc cm ft su pr : Addr) (x cc : Int32) (cq n : Nat) (f : Nat → Value) (Rr : List (Addr × (Cell → Prop))) (h0 : Heap) (n0 : Nat) (W0 : Wo n0 h0 ((b, oB Z [.null, (kI 0), .null, (kI 0), (kR fa), (kR ac), (kR fc), (kR cm), (kR ft), (kR su), (kR pr), (kI cc), (kI 0), (kI (Int32.ofNat cq)), (kI 0), .null]) :: (cm, Ar Z .int n f) :: Rr)) (hn : n = 2 ∨ n = 4) (hc : cq ≤ n) (hc4 : cq < 4) :
    MetFree l (⟨"com/example/sambre/sambre/engine/Rows$Builder", "addCommand", "(I)V"⟩ : MethodName) (head1 (Jvm.Cond.code (⟨"com/example/sambre/sambre/engine/Rows$Builder", "addCommand", "(I)V"⟩ : MethodName) prog_88_method_5_code 2 none :: ws) ({ frames := 2, cells := 1, slots := 4, locals := 33 } : Room)) (fun aa U => aa = #[(.ref b), (.int x)] ∧ Z.Warmed39 U.vm ∧ U.heap = h0) (fun _ _ _ _ _ => True) (fun _ U ou U' => ∃ v L, ou = .returned v ∧ QrmAC Z b fa ac fc cm ft su pr x cc cq n f Rr n0 v U'.heap L ∧ FrameEnd U ou U' L ({ frames := 2, cells := 1, slots := 4, locals := 33 } : Room).cells ({ frames := 2, cells := 1, slots := 4, locals := 33 } : Room).slots) := by
  refine MetFree.of_bodySF (plainFor_of_name pn_Rows_Builder) hisR ?_
  intro p e s m args below meth c s₁ Bd hml0 hP hK
  obtain ⟨rfl, hZ, hh⟩ := hP
  have hx := Bd.exec
  have hby := Bd.bytes
  have hml : c.maxLocals = 2 := hml0
  have hown : s.vm.findClass "com/example/sambre/sambre/engine/Rows$Builder" = some m.cls := findClass_of_methodNamed Bd.named
  have hnm := (name_of_methodNamed Bd.named Bd.method).1
  have X0 : Stand p l e ({ frames := 2, cells := 1, slots := 4, locals := 33 } : Room) s m #[(.ref b), (.int x)] below meth c s₁ [] 0 0 := Stand.of_body Bd
  have e0 : s₁.heap = h0 := by rw [← hh, Bd.state]; rfl
  have N0 := Fr.nil n0
  obtain ⟨F0, hF0⟩ : ∃ F, F = mkF m 0 #[.val (.ref b), .val (.int x)] [] := ⟨_, rfl⟩
  have pre0 : ∀ t, Steps p.tables e below (s₁.setTop F0) t → Steps p.tables e below (s₁.setTop (entryFrame m #[(.ref b), (.int x)] 2)) t := fun t k => castTop ((ef_rmAC m b fa ac fc cm ft su pr x cc cq n f).trans hF0.symm) k
  have K0 : Rch p e below s₁ F0 s₁ (mkF m 0 #[.val (.ref b), .val (.int x)] []) := fun t k => castTop hF0 k
  have K1 : Rch p e below s₁ F0 s₁ (mkF m 1 #[sR b, sI x] [(kR b)]) := fun t k => K0 t (XS.aloadN X0.here hx rfl (hb hby d_acm_0) rfl rfl k)
  obtain ⟨T2, X2, e2, st2⟩ := getF X0 hx hZ hown (host := "") (Or.inl (hw _ (mi 84 rfl))) Via.refl e0 (W0.fld (i := 0) rfl (j := 13) rfl rfl) (g := K1.g) rfl rfl (hb hby d_acm_1)
  have K3 : Rch p e below s₁ F0 T2 (mkF m 5 #[sR b, sI x] [(kR b), (kI (Int32.ofNat cq))]) := fun t k => K1 t (st2 t (XS.aloadN X2.here hx rfl (hb hby d_acm_4) rfl rfl k))
  obtain ⟨T4, X4, e4, st4⟩ := getF X2 hx hZ hown (host := "") (Or.inl (hw _ (mi 59 rfl))) Via.refl e2 (W0.fld (i := 0) rfl (j := 7) rfl rfl) (g := K3.g) rfl rfl (hb hby d_acm_5)
  have K5 : Rch p e below s₁ F0 T4 (mkF m 9 #[sR b, sI x] [(kI (Int32.ofNat n)), (kI (Int32.ofNat cq))]) := fun t k => K3 t (st4 t (lenW X4 hx hZ e4 W0 (i := 1) rfl (fun _ q => q) (z := (Int32.ofNat n)) rfl (g := (mkF m 8 #[sR b, sI x] [(kR cm), (kI (Int32.ofNat cq))])) rfl rfl (hb hby d_acm_8) _ k))
  by_cases hg : cq = n
  · obtain ⟨q1, q2⟩ : cq = 2 ∧ n = 2 := by omega
    subst q1 q2
    have K6 : Rch p e below s₁ F0 T4 (mkF m 14 #[sR b, sI x] [(kR b), (kR b)]) := fun t k => K5 t (by
      refine XS.icmpNo X4.here hx rfl (hb hby d_acm_9) rfl (by decide) ?_
      refine XS.aloadN X4.here hx rfl (hb hby d_acm_12) rfl rfl ?_
      refine XS.aloadN X4.here hx rfl (hb hby d_acm_13) rfl rfl ?_
      exact k)
    obtain ⟨T7, X7, e7, st7⟩ := getF X4 hx hZ hown (host := "") (Or.inl (hw _ (mi 59 rfl))) Via.refl e4 (W0.fld (i := 0) rfl (j := 7) rfl rfl) (g := K6.g) rfl rfl (hb hby d_acm_14)
    have K8 : Rch p e below s₁ F0 T7 (mkF m 19 #[sR b, sI x] [(kR b), (kI 2), (kR cm), (kR b)]) := fun t k => K6 t (st7 t (by
      refine XS.iconst X7.here hx rfl (hb hby d_acm_17) ?_
      refine XS.aloadN X7.here hx rfl (hb hby d_acm_18) rfl rfl ?_
      exact k))
    obtain ⟨T9, X9, e9, st9⟩ := getF X7 hx hZ hown (host := "") (Or.inl (hw _ (mi 84 rfl))) Via.refl e7 (W0.fld (i := 0) rfl (j := 13) rfl rfl) (g := K8.g) rfl rfl (hb hby d_acm_19)
    have K10 : Rch p e below s₁ F0 T9 (mkF m 23 #[sR b, sI x] [(kI 4), (kR cm), (kR b)]) := fun t k => K8 t (st9 t (XS.imul X9.here hx rfl (hb hby d_acm_22) rfl k))
    have W11 : Wo n0 h0 ((cm, Ar Z .int 2 f) :: (b, oB Z [.null, (kI 0), .null, (kI 0), (kR fa), (kR ac), (kR fc), (kR cm), (kR ft), (kR su), (kR pr), (kI cc), (kI 0), (kI 2), (kI 0), .null]) :: Rr) := Wo.pick W0 [1, 0] 2 (by decide +kernel) rfl
    obtain ⟨_, _, ⟨T12, L12, k12, n12⟩, -, X12, ⟨Lc12, hQ12, l12, y12, z12⟩, st12⟩ := Jvm.LawKit.callS X9 hx (y := (⟨"java/util/Arrays", "copyOf", "([II)[I"⟩ : MethodName)) hown (mvT hZ (hw _ (mi 136 rfl))) (mvT hZ (hw _ (mi 137 rfl))) (mvT hZ (hw _ (mi 138 rfl))) (mvT hZ (hw _ (mi 139 rfl))) (by decide) (backOf (W := 1) (rmCO l Z a0 hw [] cm f ((b, oB Z [.null, (kI 0), .null, (kI 0), (kR fa), (kR ac), (kR fc), (kR cm), (kR ft), (kR su), (kR pr), (kI cc), (kI 0), (kI 2), (kI 0), .null]) :: Rr) h0 n0 W11) hZ (hw _ (mi 139 rfl)) (hw _ (mi 138 rfl)) (by decide) (by decide)) (g := K10.g) rfl (by rw [hml]; rfl) (argsL := [(.ref cm), (.int (4 : Int32))]) (rest := [(.ref b)]) (lenOf pd_co rfl) rfl (by show 2 * 0 + _ ≤ _; exact Nat.le_of_eq rfl) (hb hby d_acm_23) (fun _ _ => ⟨rfl, e9, (by decide : 0 + 1 ≤ _), (by decide : 0 + 4 ≤ _)⟩)
    dsimp only [Pt.U, Pt.locs, Pt.cells, Pt.slots] at X12 l12 y12 z12 st12 hQ12
    subst l12 y12 z12
    obtain ⟨a2_12, rfl, N12q, W12⟩ := hQ12
    have N12 := Fr.app N0 N12q
    obtain ⟨T13, h13, L13, X13, e13, N13, W13q, st13⟩ := putW X12 hx hZ hown (host := "") (Or.inl (hw _ (mi 59 rfl))) (rfl : T12.heap = T12.heap) W12 N12 (own_dB hw) (Or.inl (hw _ (mi 60 rfl))) (hw _ (mi 47 rfl)) (ty := (.array .int)) (by decide +kernel) (i := 2) (a := b) rfl (j := 7) rfl rfl (v := (.ref a2_12)) rfl rfl (g := (mkF m 26 #[sR b, sI x] [(kR a2_12), (kR b)])) rfl rfl (hb hby d_acm_26)
    have W13 : Wo n0 h13 ((a2_12, Ar Z .int 4 (cpy f zI 0 0 2)) :: (cm, Ar Z .int 2 f) :: (b, oB Z [.null, (kI 0), .null, (kI 0), (kR fa), (kR ac), (kR fc), (kR a2_12), (kR ft), (kR su), (kR pr), (kI cc), (kI 0), (kI 2), (kI 0), .null]) :: Rr) := W13q
    have K14 : Rch p e below s₁ F0 T13 (mkF m 30 #[sR b, sI x] [(kR b)]) := fun t k => K10 t (st12 t (st13 t (XS.aloadN X13.here hx rfl (hb hby d_acm_29) rfl rfl k)))
    obtain ⟨T15, X15, e15, st15⟩ := getF X13 hx hZ hown (host := "") (Or.inl (hw _ (mi 59 rfl))) Via.refl e13 (W13.fld (i := 2) rfl (j := 7) rfl rfl) (g := K14.g) rfl rfl (hb hby d_acm_30)
    have K16 : Rch p e below s₁ F0 T15 (mkF m 35 #[sR b, sI x] [(kR b), (kR b), (kR a2_12)]) := fun t k => K14 t (st15 t (by
      refine XS.aloadN X15.here hx rfl (hb hby d_acm_33) rfl rfl ?_
      refine XS.dup X15.here hx rfl (hb hby d_acm_34) rfl rfl ?_
      exact k))
    obtain ⟨T17, X17, e17, st17⟩ := getF X15 hx hZ hown (host := "") (Or.inl (hw _ (mi 84 rfl))) Via.refl e15 (W13.fld (i := 2) rfl (j := 13) rfl rfl) (g := K16.g) rfl rfl (hb hby d_acm_35)
    have K18 : Rch p e below s₁ F0 T17 (mkF m 41 #[sR b, sI x] [(kI 3), (kR b), (kI 2), (kR a2_12)]) := fun t k => K16 t (st17 t (by
      refine XS.dupX1 X17.here hx rfl (hb hby d_acm_38) rfl rfl rfl ?_
      refine XS.iconst X17.here hx rfl (hb hby d_acm_39) ?_
      refine XS.iadd X17.here hx rfl (hb hby d_acm_40) rfl ?_
      exact k))
    obtain ⟨T19, h19, L19, X19, e19, N19, W19q, st19⟩ := putW X17 hx hZ hown (host := "") (Or.inl (hw _ (mi 84 rfl))) e17 W13 N13 (own_dB hw) (Or.inl (hw _ (mi 85 rfl))) (hw _ (mi 47 rfl)) (ty := .int) (by decide +kernel) (i := 2) (a := b) rfl (j := 13) rfl rfl (v := (.int (3 : Int32))) rfl rfl (g := K18.g) rfl rfl (hb hby d_acm_41)
    have W19 : Wo n0 h19 ((a2_12, Ar Z .int 4 (cpy f zI 0 0 2)) :: (cm, Ar Z .int 2 f) :: (b, oB Z [.null, (kI 0), .null, (kI 0), (kR fa), (kR ac), (kR fc), (kR a2_12), (kR ft), (kR su), (kR pr), (kI cc), (kI 0), (kI 3), (kI 0), .null]) :: Rr) := W19q
    have K20 : Rch p e below s₁ F0 T19 (mkF m 45 #[sR b, sI x] [(kI x), (kI 2), (kR a2_12)]) := fun t k => K18 t (st19 t (XS.iloadN X19.here hx rfl (hb hby d_acm_44) rfl k))
    obtain ⟨T21, h21, L21, X21, e21, N21, W21q, st21⟩ := iasW X19 hx hZ e19 W19 N19 (i := 0) (a := a2_12) rfl (j := (2 : Int32)) (x := x) (k := 2) (by decide) (by decide) (by decide) (g := K20.g) rfl rfl (hb hby d_acm_45)
    have W21 : Wo n0 h21 ((a2_12, Ar Z .int 4 (upd (cpy f zI 0 0 2) 2 (kI x))) :: (cm, Ar Z .int 2 f) :: (b, oB Z [.null, (kI 0), .null, (kI 0), (kR fa), (kR ac), (kR fc), (kR a2_12), (kR ft), (kR su), (kR pr), (kI cc), (kI 0), (kI 3), (kI 0), .null]) :: Rr) := W21q
    have K22 : Rch p e below s₁ F0 T21 (mkF m 46 #[sR b, sI x] []) := fun t k => K20 t (st21 t (k))
    have W23 : Wo n0 h21 ((cm, Ar Z .int 2 f) :: (b, oB Z [.null, (kI 0), .null, (kI 0), (kR fa), (kR ac), (kR fc), (kR a2_12), (kR ft), (kR su), (kR pr), (kI cc), (kI 0), (kI 3), (kI 0), .null]) :: (a2_12, Ar Z .int 4 (upd (cpy f zI 0 0 2) 2 (kI x))) :: Rr) := Wo.pick W21 [1, 2, 0] 3 (by decide +kernel) rfl
    have W24 : Wo n0 h21 ((b, oB Z [.null, (kI 0), .null, (kI 0), (kR fa), (kR ac), (kR fc), (kR a2_12), (kR ft), (kR su), (kR pr), (kI cc), (kI 0), (kI 3), (kI 0), .null]) :: (a2_12, Ar Z .int 4 (upd (cpy f zI 0 0 2) 2 (kI x))) :: Rr) := W23.tail
    obtain ⟨fs, hr, hrun, hended, hWm, hsame⟩ := X21.leave (v := none) (fun _ => rfl)
    refine ⟨_, _, pre0 _ (K22 _ (X21.returnOut hx Bd.returns (hb hby d_acm_46) hr)), hrun, hended, _, _, rfl, ?_, ⟨_, rfl⟩, hWm, hsame.mono (by decide) (by decide)⟩
    show QrmAC Z b fa ac fc cm ft su pr x cc 2 2 f Rr n0 _ T21.heap _
    rw [e21]
    exact ⟨rfl, N21, a2_12, 4, (upd (cpy f zI 0 0 2) 2 (kI x)), W24, Or.inr rfl, (by decide), rfl, (fun k hk => by rcases (by omega : k = 0 ∨ k = 1) with rfl | rfl <;> rfl)⟩
  · have hlt : cq < n := by omega
    have K25 : Rch p e below s₁ F0 T4 (mkF m 30 #[sR b, sI x] [(kR b)]) := fun t k => K5 t (by
      refine XS.icmpYes X4.here hx rfl (pc0 := 9) (pc' := 29) rfl (hb hby d_acm_9) rfl (feq (own_ne hg (by omega) (by omega))).2 (by decide) (by decide) ?_
      refine XS.aloadN X4.here hx rfl (hb hby d_acm_29) rfl rfl ?_
      exact k)
    obtain ⟨T26, X26, e26, st26⟩ := getF X4 hx hZ hown (host := "") (Or.inl (hw _ (mi 59 rfl))) Via.refl e4 (W0.fld (i := 0) rfl (j := 7) rfl rfl) (g := K25.g) rfl rfl (hb hby d_acm_30)
    have K27 : Rch p e below s₁ F0 T26 (mkF m 35 #[sR b, sI x] [(kR b), (kR b), (kR cm)]) := fun t k => K25 t (st26 t (by
      refine XS.aloadN X26.here hx rfl (hb hby d_acm_33) rfl rfl ?_
      refine XS.dup X26.here hx rfl (hb hby d_acm_34) rfl rfl ?_
      exact k))
    obtain ⟨T28, X28, e28, st28⟩ := getF X26 hx hZ hown (host := "") (Or.inl (hw _ (mi 84 rfl))) Via.refl e26 (W0.fld (i := 0) rfl (j := 13) rfl rfl) (g := K27.g) rfl rfl (hb hby d_acm_35)
    have K29 : Rch p e below s₁ F0 T28 (mkF m 41 #[sR b, sI x] [(kI (Int32.ofNat (cq + 1))), (kR b), (kI (Int32.ofNat cq)), (kR cm)]) := fun t k => K27 t (st28 t (by
      refine XS.dupX1 X28.here hx rfl (hb hby d_acm_38) rfl rfl rfl ?_
      refine XS.iconst X28.here hx rfl (hb hby d_acm_39) ?_
      refine XS.iadd X28.here hx rfl (hb hby d_acm_40) rfl ?_
      show Steps p.tables e below (T28.setTop (mkF m 41 #[sR b, sI x] [(kI ((Int32.ofNat cq) + (1 : Int32))), (kR b), (kI (Int32.ofNat cq)), (kR cm)])) _
      rw [show (Int32.ofNat cq) + (1 : Int32) = (Int32.ofNat (cq + 1)) from own_add cq 1]
      exact k))
    obtain ⟨T30, h30, L30, X30, e30, N30, W30q, st30⟩ := putW X28 hx hZ hown (host := "") (Or.inl (hw _ (mi 84 rfl))) e28 W0 N0 (own_dB hw) (Or.inl (hw _ (mi 85 rfl))) (hw _ (mi 47 rfl)) (ty := .int) (by decide +kernel) (i := 0) (a := b) rfl (j := 13) rfl rfl (v := (.int (Int32.ofNat (cq + 1)))) rfl rfl (g := K29.g) rfl rfl (hb hby d_acm_41)
    have W30 : Wo n0 h30 ((b, oB Z [.null, (kI 0), .null, (kI 0), (kR fa), (kR ac), (kR fc), (kR cm), (kR ft), (kR su), (kR pr), (kI cc), (kI 0), (kI (Int32.ofNat (cq + 1))), (kI 0), .null]) :: (cm, Ar Z .int n f) :: Rr) := W30q
    have K31 : Rch p e below s₁ F0 T30 (mkF m 45 #[sR b, sI x] [(kI x), (kI (Int32.ofNat cq)), (kR cm)]) := fun t k => K29 t (st30 t (XS.iloadN X30.here hx rfl (hb hby d_acm_44) rfl k))
    obtain ⟨T32, h32, L32, X32, e32, N32, W32q, st32⟩ := iasW X30 hx hZ e30 W30 N30 (i := 1) (a := cm) rfl (j := (Int32.ofNat cq)) (x := x) (k := cq) (own_nn (by omega)) (own_tn (by omega)) (by omega) (g := K31.g) rfl rfl (hb hby d_acm_45)
    have W32 : Wo n0 h32 ((b, oB Z [.null, (kI 0), .null, (kI 0), (kR fa), (kR ac), (kR fc), (kR cm), (kR ft), (kR su), (kR pr), (kI cc), (kI 0), (kI (Int32.ofNat (cq + 1))), (kI 0), .null]) :: (cm, Ar Z .int n (upd f cq (kI x))) :: Rr) := W32q
    have K33 : Rch p e below s₁ F0 T32 (mkF m 46 #[sR b, sI x] []) := fun t k => K31 t (st32 t (k))
    obtain ⟨fs, hr, hrun, hended, hWm, hsame⟩ := X32.leave (v := none) (fun _ => rfl)
    refine ⟨_, _, pre0 _ (K33 _ (X32.returnOut hx Bd.returns (hb hby d_acm_46) hr)), hrun, hended, _, _, rfl, ?_, ⟨_, rfl⟩, hWm, hsame.mono (by decide) (by decide)⟩
    show QrmAC Z b fa ac fc cm ft su pr x cc cq n f Rr n0 _ T32.heap _
    rw [e32]
    exact ⟨rfl, N32, cm, n, (upd f cq (.int x)), W32, hn, (by omega), upd_same _ _ _, (fun k hk => upd_other _ _ (Nat.ne_of_lt hk))⟩
theorem pd_ch : parseMethodDescriptor "(Lcom/example/sambre/sambre/engine/Rows$Builder;III)V" = some ⟨[(.object "com/example/sambre/sambre/engine/Rows$Builder"), .int, .int, .int], none⟩ := by decide +kernel
theorem pn_RowsChoiceNamedAsPinLaw : plainName "com/example/sambre/sambre/engine/RowsChoiceNamedAsPinLaw" = true := by first | (simp [plainName, overriddenIn]; done) | decide +kernel
theorem d_ch_0 : decode method_4_code 0 = .ok (.aload_n 0, 1) := by decide +kernel
theorem d_ch_1 : decode method_4_code 1 = .ok (.invokevirtual 7, 3) := by decide +kernel
theorem d_ch_4 : decode method_4_code 4 = .ok (.iload_n 1, 1) := by decide +kernel
theorem d_ch_5 : decode method_4_code 5 = .ok (.iconst 1, 1) := by decide +kernel
theorem d_ch_6 : decode method_4_code 6 = .ok (.if_icmp .lt 8, 3) := by decide +kernel
theorem d_ch_9 : decode method_4_code 9 = .ok (.aload_n 0, 1) := by decide +kernel
theorem d_ch_10 : decode method_4_code 10 = .ok (.iload_n 2, 1) := by decide +kernel
theorem d_ch_11 : decode method_4_code 11 = .ok (.invokevirtual 12, 3) := by decide +kernel
theorem d_ch_14 : decode method_4_code 14 = .ok (.iload_n 1, 1) := by decide +kernel
theorem d_ch_15 : decode method_4_code 15 = .ok (.iconst 2, 1) := by decide +kernel
theorem d_ch_16 : decode method_4_code 16 = .ok (.if_icmp .lt 8, 3) := by decide +kernel
theorem d_ch_19 : decode method_4_code 19 = .ok (.aload_n 0, 1) := by decide +kernel
theorem d_ch_20 : decode method_4_code 20 = .ok (.iload_n 3, 1) := by decide +kernel
theorem d_ch_21 : decode method_4_code 21 = .ok (.invokevirtual 12, 3) := by decide +kernel
theorem d_ch_24 : decode method_4_code 24 = .ok (.return_, 1) := by decide +kernel
theorem ef_rmCH0 (m : MethodId) (b fa ac fc cm ft su pr : Addr) (u cq n : Nat) (x y : Int32) (f f1 f2 f3 : Nat → Value) : entryFrame m #[(.ref b), (.int (Int32.ofNat u)), (.int x), (.int y)] 4 = mkF m 0 #[.val (.ref b), .val (.int (Int32.ofNat u)), .val (.int x), .val (.int y)] [] := by first | (simp [entryFrame, mkF, argsToLocals, Value.category]; done) | rfl
def QrmCH0 (Z : State) (b fa ac fc cm ft su pr : Addr) (u cq n : Nat) (x y : Int32) (f f1 f2 f3 : Nat → Value) (Rr : List (Addr × (Cell → Prop))) (n0 : Nat) (v : Option Value) (h : Heap) (L : List Loc) : Prop := v = none ∧ Fr n0 L ∧ ∃ (cm' : Addr) (n' : Nat) (f' : Nat → Value), Wo n0 h ((b, oB Z [.null, (.int (0 : Int32)), .null, (.int (0 : Int32)), (.ref fa), (.ref ac), (.ref fc), (.ref cm'), (.ref ft), (.ref su), (.ref pr), (.int (1 : Int32)), (.int (0 : Int32)), (.int (Int32.ofNat (cq + u))), (.int (0 : Int32)), .null]) :: (cm', Ar Z .int n' f') :: (fa, Ar Z .int 2 (upd f1 0 (.int 0))) :: (fc, Ar Z .int 2 (upd f2 0 (.int (Int32.ofNat cq)))) :: (ft, Ar Z .int 2 (upd f3 0 (.int 0))) :: Rr) ∧ (n' = 2 ∨ n' = 4) ∧ cq + u ≤ n' ∧ (∀ k, k < cq → f' k = f k) ∧ (1 ≤ u → f' cq = .int x) ∧ (2 ≤ u → f' (cq + 1) = .int y)
set_option maxRecDepth 65536 in
set_option maxHeartbeats 40000000 in
theorem rmCH0 (l : Launch) (Z : State) (a0 : Array Value) (hw : ∀ d ∈ tables_1, d.before a0 Z = true) (ws : List Jvm.Cond) (b fa ac fc cm ft su pr : Addr) (u cq n : Nat) (x y : Int32) (f f1 f2 f3 : Nat → Value) (Rr : List (Addr × (Cell → Prop))) (h0 : Heap) (n0 : Nat) (W0 : Wo n0 h0 ((b, oB Z [.null, (kI 0), .null, (kI 0), (kR fa), (kR ac), (kR fc), (kR cm), (kR ft), (kR su), (kR pr), (kI 0), (kI 0), (kI (Int32.ofNat cq)), (kI 0), .null]) :: (cm, Ar Z .int n f) :: (fa, Ar Z .int 2 f1) :: (fc, Ar Z .int 2 f2) :: (ft, Ar Z .int 2 f3) :: Rr)) (hn : n = 2 ∨ n = 4) (hc : cq ≤ n) (hu : u ≤ 2) (hcu : cq + u ≤ 4) :
    MetFree l (⟨"com/example/sambre/sambre/engine/RowsChoiceNamedAsPinLaw", "choice", "(Lcom/example/sambre/sambre/engine/Rows$Builder;III)V"⟩ : MethodName) (head1 (Jvm.Cond.code (⟨"com/example/sambre/sambre/engine/RowsChoiceNamedAsPinLaw", "choice", "(Lcom/example/sambre/sambre/engine/Rows$Builder;III)V"⟩ : MethodName) method_4_code 4 none :: ws) ({ frames := 3, cells := 2, slots := 8, locals := 46 } : Room)) (fun aa U => aa = #[(.ref b), (.int (Int32.ofNat u)), (.int x), (.int y)] ∧ Z.Warmed39 U.vm ∧ U.heap = h0) (fun _ _ _ _ _ => True) (fun _ U ou U' => ∃ v L, ou = .returned v ∧ QrmCH0 Z b fa ac fc cm ft su pr u cq n x y f f1 f2 f3 Rr n0 v U'.heap L ∧ FrameEnd U ou U' L ({ frames := 3, cells := 2, slots := 8, locals := 46 } : Room).cells ({ frames := 3, cells := 2, slots := 8, locals := 46 } : Room).slots) := by
  refine MetFree.of_bodySF (plainFor_of_name pn_RowsChoiceNamedAsPinLaw) hisR ?_
  intro p e s m args below meth c s₁ Bd hml0 hP hK
  obtain ⟨rfl, hZ, hh⟩ := hP
  have hx := Bd.exec
  have hby := Bd.bytes
  have hml : c.maxLocals = 4 := hml0
  have hown : s.vm.findClass "com/example/sambre/sambre/engine/RowsChoiceNamedAsPinLaw" = some m.cls := findClass_of_methodNamed Bd.named
  have hnm := (name_of_methodNamed Bd.named Bd.method).1
  have X0 : Stand p l e ({ frames := 3, cells := 2, slots := 8, locals := 46 } : Room) s m #[(.ref b), (.int (Int32.ofNat u)), (.int x), (.int y)] below meth c s₁ [] 0 0 := Stand.of_body Bd
  have e0 : s₁.heap = h0 := by rw [← hh, Bd.state]; rfl
  have N0 := Fr.nil n0
  obtain ⟨F0, hF0⟩ : ∃ F, F = mkF m 0 #[.val (.ref b), .val (.int (Int32.ofNat u)), .val (.int x), .val (.int y)] [] := ⟨_, rfl⟩
  have pre0 : ∀ t, Steps p.tables e below (s₁.setTop F0) t → Steps p.tables e below (s₁.setTop (entryFrame m #[(.ref b), (.int (Int32.ofNat u)), (.int x), (.int y)] 4)) t := fun t k => castTop ((ef_rmCH0 m b fa ac fc cm ft su pr u cq n x y f f1 f2 f3).trans hF0.symm) k
  have K0 : Rch p e below s₁ F0 s₁ (mkF m 0 #[.val (.ref b), .val (.int (Int32.ofNat u)), .val (.int x), .val (.int y)] []) := fun t k => castTop hF0 k
  rcases (by omega : u = 0 ∨ u = 1 ∨ u = 2) with rfl | rfl | rfl
  · have K1 : Rch p e below s₁ F0 s₁ (mkF m 1 #[sR b, sI 0, sI x, sI y] [(kR b)]) := fun t k => K0 t (XS.aloadN X0.here hx rfl (hb hby d_ch_0) rfl rfl k)
    have W2 : Wo n0 h0 ((b, oB Z [.null, (kI 0), .null, (kI 0), (kR fa), (kR ac), (kR fc), (kR cm), (kR ft), (kR su), (kR pr), (kI 0), (kI 0), (kI (Int32.ofNat cq)), (kI 0), .null]) :: (fa, Ar Z .int 2 f1) :: (fc, Ar Z .int 2 f2) :: (ft, Ar Z .int 2 f3) :: (cm, Ar Z .int n f) :: Rr) := Wo.pick W0 [0, 2, 3, 4, 1] 5 (by decide +kernel) rfl
    obtain ⟨cq3, kq3, q3a, q3b, q3c⟩ := isOf hZ e0 (W2.exa (i := 0) rfl)
    obtain ⟨_, _, ⟨T3, L3, k3, n3⟩, -, X3, ⟨Lc3, hQ3, l3, y3, z3⟩, st3⟩ := X0.virtualBack hx (y := (⟨"com/example/sambre/sambre/engine/Rows$Builder", "startChoice", "()V"⟩ : MethodName)) (z := (⟨"com/example/sambre/sambre/engine/Rows$Builder", "startChoice", "()V"⟩ : MethodName)) hown (mvT hZ (hw _ (mi 93 rfl))) (mvT hZ (hw _ (mi 94 rfl))) (notFace_of_selects (args := #[]) (mvT hZ (hw _ (mi 96 rfl)))) (mvT hZ (hw _ (mi 96 rfl))) (mvT hZ (hw _ (mi 95 rfl))) (by decide) (backOf (W := 0) (rmSC0 l Z a0 hw [] b fa ac fc cm ft su pr (Int32.ofNat cq) f1 f2 f3 ((cm, Ar Z .int n f) :: Rr) h0 n0 W2) hZ (hw _ (mi 97 rfl)) (hw _ (mi 48 rfl)) (by decide) (by decide)) q3a q3c (g := K1.g) rfl (by rw [hml]; rfl) (Steps.refl _) (argsL := []) (rest := []) (lenOf pd_sc rfl) rfl (by show 2 * 0 + _ ≤ _; exact Nat.le_of_eq rfl) (hb hby d_ch_1) (fun _ _ => ⟨rfl, e0, (by decide : 0 + 0 ≤ _), (by decide : 0 + 0 ≤ _)⟩)
    dsimp only [Pt.U, Pt.locs, Pt.cells, Pt.slots] at X3 l3 y3 z3 st3 hQ3
    subst l3 y3 z3
    obtain ⟨rfl, N3q, W3⟩ := hQ3
    have N3 := Fr.app N0 N3q
    have K4 : Rch p e below s₁ F0 T3 (mkF m 24 #[sR b, sI 0, sI x, sI y] []) := fun t k => K1 t (st3.trans (by
      refine XS.iloadN X3.here hx rfl (hb hby d_ch_4) rfl ?_
      refine XS.iconst X3.here hx rfl (hb hby d_ch_5) ?_
      refine XS.icmpYes X3.here hx rfl (pc0 := 6) (pc' := 14) rfl (hb hby d_ch_6) rfl (by decide) (by decide) (by decide) ?_
      refine XS.iloadN X3.here hx rfl (hb hby d_ch_14) rfl ?_
      refine XS.iconst X3.here hx rfl (hb hby d_ch_15) ?_
      refine XS.icmpYes X3.here hx rfl (pc0 := 16) (pc' := 24) rfl (hb hby d_ch_16) rfl (by decide) (by decide) (by decide) ?_
      exact k))
    have W5 : Wo n0 T3.heap ((b, oB Z [.null, (kI 0), .null, (kI 0), (kR fa), (kR ac), (kR fc), (kR cm), (kR ft), (kR su), (kR pr), (kI 1), (kI 0), (kI (Int32.ofNat cq)), (kI 0), .null]) :: (cm, Ar Z .int n f) :: (fa, Ar Z .int 2 (upd f1 0 (kI 0))) :: (fc, Ar Z .int 2 (upd f2 0 (kI (Int32.ofNat cq)))) :: (ft, Ar Z .int 2 (upd f3 0 (kI 0))) :: Rr) := Wo.pick W3 [0, 4, 1, 2, 3] 5 (by decide +kernel) rfl
    obtain ⟨fs, hr, hrun, hended, hWm, hsame⟩ := X3.leave (v := none) (fun _ => rfl)
    refine ⟨_, _, pre0 _ (K4 _ (X3.returnOut hx Bd.returns (hb hby d_ch_24) hr)), hrun, hended, _, _, rfl, ?_, ⟨_, rfl⟩, hWm, hsame.mono (by decide) (by decide)⟩
    show QrmCH0 Z b fa ac fc cm ft su pr 0 cq n x y f f1 f2 f3 Rr n0 _ T3.heap _
    exact ⟨rfl, N3, cm, n, f, W5, hn, (by omega), (fun k hk => rfl), (fun q => absurd q (by decide)), (fun q => absurd q (by decide))⟩
  · have K6 : Rch p e below s₁ F0 s₁ (mkF m 1 #[sR b, sI 1, sI x, sI y] [(kR b)]) := fun t k => K0 t (XS.aloadN X0.here hx rfl (hb hby d_ch_0) rfl rfl k)
    have W7 : Wo n0 h0 ((b, oB Z [.null, (kI 0), .null, (kI 0), (kR fa), (kR ac), (kR fc), (kR cm), (kR ft), (kR su), (kR pr), (kI 0), (kI 0), (kI (Int32.ofNat cq)), (kI 0), .null]) :: (fa, Ar Z .int 2 f1) :: (fc, Ar Z .int 2 f2) :: (ft, Ar Z .int 2 f3) :: (cm, Ar Z .int n f) :: Rr) := Wo.pick W0 [0, 2, 3, 4, 1] 5 (by decide +kernel) rfl
    obtain ⟨cq8, kq8, q8a, q8b, q8c⟩ := isOf hZ e0 (W7.exa (i := 0) rfl)
    obtain ⟨_, _, ⟨T8, L8, k8, n8⟩, -, X8, ⟨Lc8, hQ8, l8, y8, z8⟩, st8⟩ := X0.virtualBack hx (y := (⟨"com/example/sambre/sambre/engine/Rows$Builder", "startChoice", "()V"⟩ : MethodName)) (z := (⟨"com/example/sambre/sambre/engine/Rows$Builder", "startChoice", "()V"⟩ : MethodName)) hown (mvT hZ (hw _ (mi 93 rfl))) (mvT hZ (hw _ (mi 94 rfl))) (notFace_of_selects (args := #[]) (mvT hZ (hw _ (mi 96 rfl)))) (mvT hZ (hw _ (mi 96 rfl))) (mvT hZ (hw _ (mi 95 rfl))) (by decide) (backOf (W := 0) (rmSC0 l Z a0 hw [] b fa ac fc cm ft su pr (Int32.ofNat cq) f1 f2 f3 ((cm, Ar Z .int n f) :: Rr) h0 n0 W7) hZ (hw _ (mi 97 rfl)) (hw _ (mi 48 rfl)) (by decide) (by decide)) q8a q8c (g := K6.g) rfl (by rw [hml]; rfl) (Steps.refl _) (argsL := []) (rest := []) (lenOf pd_sc rfl) rfl (by show 2 * 0 + _ ≤ _; exact Nat.le_of_eq rfl) (hb hby d_ch_1) (fun _ _ => ⟨rfl, e0, (by decide : 0 + 0 ≤ _), (by decide : 0 + 0 ≤ _)⟩)
    dsimp only [Pt.U, Pt.locs, Pt.cells, Pt.slots] at X8 l8 y8 z8 st8 hQ8
    subst l8 y8 z8
    obtain ⟨rfl, N8q, W8⟩ := hQ8
    have N8 := Fr.app N0 N8q
    have K9 : Rch p e below s₁ F0 T8 (mkF m 11 #[sR b, sI 1, sI x, sI y] [(kI x), (kR b)]) := fun t k => K6 t (st8.trans (by
      refine XS.iloadN X8.here hx rfl (hb hby d_ch_4) rfl ?_
      refine XS.iconst X8.here hx rfl (hb hby d_ch_5) ?_
      refine XS.icmpNo X8.here hx rfl (hb hby d_ch_6) rfl (by decide) ?_
      refine XS.aloadN X8.here hx rfl (hb hby d_ch_9) rfl rfl ?_
      refine XS.iloadN X8.here hx rfl (hb hby d_ch_10) rfl ?_
      exact k))
    have W10 : Wo n0 T8.heap ((b, oB Z [.null, (kI 0), .null, (kI 0), (kR fa), (kR ac), (kR fc), (kR cm), (kR ft), (kR su), (kR pr), (kI 1), (kI 0), (kI (Int32.ofNat cq)), (kI 0), .null]) :: (cm, Ar Z .int n f) :: (fa, Ar Z .int 2 (upd f1 0 (kI 0))) :: (fc, Ar Z .int 2 (upd f2 0 (kI (Int32.ofNat cq)))) :: (ft, Ar Z .int 2 (upd f3 0 (kI 0))) :: Rr) := Wo.pick W8 [0, 4, 1, 2, 3] 5 (by decide +kernel) rfl
    obtain ⟨cq11, kq11, q11a, q11b, q11c⟩ := isOf hZ (rfl : T8.heap = T8.heap) (W10.exa (i := 0) rfl)
    obtain ⟨_, _, ⟨T11, L11, k11, n11⟩, -, X11, ⟨Lc11, hQ11, l11, y11, z11⟩, st11⟩ := X8.virtualBack hx (y := (⟨"com/example/sambre/sambre/engine/Rows$Builder", "addCommand", "(I)V"⟩ : MethodName)) (z := (⟨"com/example/sambre/sambre/engine/Rows$Builder", "addCommand", "(I)V"⟩ : MethodName)) hown (mvT hZ (hw _ (mi 98 rfl))) (mvT hZ (hw _ (mi 99 rfl))) (notFace_of_selects (args := #[]) (mvT hZ (hw _ (mi 101 rfl)))) (mvT hZ (hw _ (mi 101 rfl))) (mvT hZ (hw _ (mi 100 rfl))) (by decide) (backOf (W := 0) (rmAC l Z a0 hw [] b fa ac fc cm ft su pr x (1 : Int32) cq n f ((fa, Ar Z .int 2 (upd f1 0 (kI 0))) :: (fc, Ar Z .int 2 (upd f2 0 (kI (Int32.ofNat cq)))) :: (ft, Ar Z .int 2 (upd f3 0 (kI 0))) :: Rr) T8.heap n0 W10 (by omega) (by omega) (by omega)) hZ (hw _ (mi 102 rfl)) (hw _ (mi 48 rfl)) (by decide) (by decide)) q11a q11c (g := K9.g) rfl (by rw [hml]; rfl) (Steps.refl _) (argsL := [(.int x)]) (rest := []) (lenOf pd_acm rfl) rfl (by show 2 * 0 + _ ≤ _; exact Nat.le_of_eq rfl) (hb hby d_ch_11) (fun _ _ => ⟨rfl, (rfl : T8.heap = T8.heap), (by decide : 0 + 1 ≤ _), (by decide : 0 + 4 ≤ _)⟩)
    dsimp only [Pt.U, Pt.locs, Pt.cells, Pt.slots] at X11 l11 y11 z11 st11 hQ11
    subst l11 y11 z11
    obtain ⟨rfl, N11q, cm11, m11, f11, W11, hn11, hc11, hf11, hk11⟩ := hQ11
    have N11 := Fr.app N8 N11q
    have K12 : Rch p e below s₁ F0 T11 (mkF m 24 #[sR b, sI 1, sI x, sI y] []) := fun t k => K9 t (st11.trans (by
      refine XS.iloadN X11.here hx rfl (hb hby d_ch_14) rfl ?_
      refine XS.iconst X11.here hx rfl (hb hby d_ch_15) ?_
      refine XS.icmpYes X11.here hx rfl (pc0 := 16) (pc' := 24) rfl (hb hby d_ch_16) rfl (by decide) (by decide) (by decide) ?_
      exact k))
    obtain ⟨fs, hr, hrun, hended, hWm, hsame⟩ := X11.leave (v := none) (fun _ => rfl)
    refine ⟨_, _, pre0 _ (K12 _ (X11.returnOut hx Bd.returns (hb hby d_ch_24) hr)), hrun, hended, _, _, rfl, ?_, ⟨_, rfl⟩, hWm, hsame.mono (by decide) (by decide)⟩
    show QrmCH0 Z b fa ac fc cm ft su pr 1 cq n x y f f1 f2 f3 Rr n0 _ T11.heap _
    exact ⟨rfl, N11, cm11, m11, f11, W11, hn11, (by omega), hk11, (fun _ => hf11), (fun q => absurd q (by decide))⟩
  · have K13 : Rch p e below s₁ F0 s₁ (mkF m 1 #[sR b, sI 2, sI x, sI y] [(kR b)]) := fun t k => K0 t (XS.aloadN X0.here hx rfl (hb hby d_ch_0) rfl rfl k)
    have W14 : Wo n0 h0 ((b, oB Z [.null, (kI 0), .null, (kI 0), (kR fa), (kR ac), (kR fc), (kR cm), (kR ft), (kR su), (kR pr), (kI 0), (kI 0), (kI (Int32.ofNat cq)), (kI 0), .null]) :: (fa, Ar Z .int 2 f1) :: (fc, Ar Z .int 2 f2) :: (ft, Ar Z .int 2 f3) :: (cm, Ar Z .int n f) :: Rr) := Wo.pick W0 [0, 2, 3, 4, 1] 5 (by decide +kernel) rfl
    obtain ⟨cq15, kq15, q15a, q15b, q15c⟩ := isOf hZ e0 (W14.exa (i := 0) rfl)
    obtain ⟨_, _, ⟨T15, L15, k15, n15⟩, -, X15, ⟨Lc15, hQ15, l15, y15, z15⟩, st15⟩ := X0.virtualBack hx (y := (⟨"com/example/sambre/sambre/engine/Rows$Builder", "startChoice", "()V"⟩ : MethodName)) (z := (⟨"com/example/sambre/sambre/engine/Rows$Builder", "startChoice", "()V"⟩ : MethodName)) hown (mvT hZ (hw _ (mi 93 rfl))) (mvT hZ (hw _ (mi 94 rfl))) (notFace_of_selects (args := #[]) (mvT hZ (hw _ (mi 96 rfl)))) (mvT hZ (hw _ (mi 96 rfl))) (mvT hZ (hw _ (mi 95 rfl))) (by decide) (backOf (W := 0) (rmSC0 l Z a0 hw [] b fa ac fc cm ft su pr (Int32.ofNat cq) f1 f2 f3 ((cm, Ar Z .int n f) :: Rr) h0 n0 W14) hZ (hw _ (mi 97 rfl)) (hw _ (mi 48 rfl)) (by decide) (by decide)) q15a q15c (g := K13.g) rfl (by rw [hml]; rfl) (Steps.refl _) (argsL := []) (rest := []) (lenOf pd_sc rfl) rfl (by show 2 * 0 + _ ≤ _; exact Nat.le_of_eq rfl) (hb hby d_ch_1) (fun _ _ => ⟨rfl, e0, (by decide : 0 + 0 ≤ _), (by decide : 0 + 0 ≤ _)⟩)
    dsimp only [Pt.U, Pt.locs, Pt.cells, Pt.slots] at X15 l15 y15 z15 st15 hQ15
    subst l15 y15 z15
    obtain ⟨rfl, N15q, W15⟩ := hQ15
    have N15 := Fr.app N0 N15q
    have K16 : Rch p e below s₁ F0 T15 (mkF m 11 #[sR b, sI 2, sI x, sI y] [(kI x), (kR b)]) := fun t k => K13 t (st15.trans (by
      refine XS.iloadN X15.here hx rfl (hb hby d_ch_4) rfl ?_
      refine XS.iconst X15.here hx rfl (hb hby d_ch_5) ?_
      refine XS.icmpNo X15.here hx rfl (hb hby d_ch_6) rfl (by decide) ?_
      refine XS.aloadN X15.here hx rfl (hb hby d_ch_9) rfl rfl ?_
      refine XS.iloadN X15.here hx rfl (hb hby d_ch_10) rfl ?_
      exact k))
    have W17 : Wo n0 T15.heap ((b, oB Z [.null, (kI 0), .null, (kI 0), (kR fa), (kR ac), (kR fc), (kR cm), (kR ft), (kR su), (kR pr), (kI 1), (kI 0), (kI (Int32.ofNat cq)), (kI 0), .null]) :: (cm, Ar Z .int n f) :: (fa, Ar Z .int 2 (upd f1 0 (kI 0))) :: (fc, Ar Z .int 2 (upd f2 0 (kI (Int32.ofNat cq)))) :: (ft, Ar Z .int 2 (upd f3 0 (kI 0))) :: Rr) := Wo.pick W15 [0, 4, 1, 2, 3] 5 (by decide +kernel) rfl
    obtain ⟨cq18, kq18, q18a, q18b, q18c⟩ := isOf hZ (rfl : T15.heap = T15.heap) (W17.exa (i := 0) rfl)
    obtain ⟨_, _, ⟨T18, L18, k18, n18⟩, -, X18, ⟨Lc18, hQ18, l18, y18, z18⟩, st18⟩ := X15.virtualBack hx (y := (⟨"com/example/sambre/sambre/engine/Rows$Builder", "addCommand", "(I)V"⟩ : MethodName)) (z := (⟨"com/example/sambre/sambre/engine/Rows$Builder", "addCommand", "(I)V"⟩ : MethodName)) hown (mvT hZ (hw _ (mi 98 rfl))) (mvT hZ (hw _ (mi 99 rfl))) (notFace_of_selects (args := #[]) (mvT hZ (hw _ (mi 101 rfl)))) (mvT hZ (hw _ (mi 101 rfl))) (mvT hZ (hw _ (mi 100 rfl))) (by decide) (backOf (W := 0) (rmAC l Z a0 hw [] b fa ac fc cm ft su pr x (1 : Int32) cq n f ((fa, Ar Z .int 2 (upd f1 0 (kI 0))) :: (fc, Ar Z .int 2 (upd f2 0 (kI (Int32.ofNat cq)))) :: (ft, Ar Z .int 2 (upd f3 0 (kI 0))) :: Rr) T15.heap n0 W17 (by omega) (by omega) (by omega)) hZ (hw _ (mi 102 rfl)) (hw _ (mi 48 rfl)) (by decide) (by decide)) q18a q18c (g := K16.g) rfl (by rw [hml]; rfl) (Steps.refl _) (argsL := [(.int x)]) (rest := []) (lenOf pd_acm rfl) rfl (by show 2 * 0 + _ ≤ _; exact Nat.le_of_eq rfl) (hb hby d_ch_11) (fun _ _ => ⟨rfl, (rfl : T15.heap = T15.heap), (by decide : 0 + 1 ≤ _), (by decide : 0 + 4 ≤ _)⟩)
    dsimp only [Pt.U, Pt.locs, Pt.cells, Pt.slots] at X18 l18 y18 z18 st18 hQ18
    subst l18 y18 z18
    obtain ⟨rfl, N18q, cm18, m18, f18, W18, hn18, hc18, hf18, hk18⟩ := hQ18
    have N18 := Fr.app N15 N18q
    have K19 : Rch p e below s₁ F0 T18 (mkF m 21 #[sR b, sI 2, sI x, sI y] [(kI y), (kR b)]) := fun t k => K16 t (st18.trans (by
      refine XS.iloadN X18.here hx rfl (hb hby d_ch_14) rfl ?_
      refine XS.iconst X18.here hx rfl (hb hby d_ch_15) ?_
      refine XS.icmpNo X18.here hx rfl (hb hby d_ch_16) rfl (by decide) ?_
      refine XS.aloadN X18.here hx rfl (hb hby d_ch_19) rfl rfl ?_
      refine XS.iloadN X18.here hx rfl (hb hby d_ch_20) rfl ?_
      exact k))
    obtain ⟨cq20, kq20, q20a, q20b, q20c⟩ := isOf hZ (rfl : T18.heap = T18.heap) (W18.exa (i := 0) rfl)
    obtain ⟨_, _, ⟨T20, L20, k20, n20⟩, -, X20, ⟨Lc20, hQ20, l20, y20, z20⟩, st20⟩ := X18.virtualBack hx (y := (⟨"com/example/sambre/sambre/engine/Rows$Builder", "addCommand", "(I)V"⟩ : MethodName)) (z := (⟨"com/example/sambre/sambre/engine/Rows$Builder", "addCommand", "(I)V"⟩ : MethodName)) hown (mvT hZ (hw _ (mi 98 rfl))) (mvT hZ (hw _ (mi 99 rfl))) (notFace_of_selects (args := #[]) (mvT hZ (hw _ (mi 101 rfl)))) (mvT hZ (hw _ (mi 101 rfl))) (mvT hZ (hw _ (mi 100 rfl))) (by decide) (backOf (W := 0) (rmAC l Z a0 hw [] b fa ac fc cm18 ft su pr y (1 : Int32) (cq + 1) m18 f18 ((fa, Ar Z .int 2 (upd f1 0 (kI 0))) :: (fc, Ar Z .int 2 (upd f2 0 (kI (Int32.ofNat cq)))) :: (ft, Ar Z .int 2 (upd f3 0 (kI 0))) :: Rr) T18.heap n0 W18 (by omega) (by omega) (by omega)) hZ (hw _ (mi 102 rfl)) (hw _ (mi 48 rfl)) (by decide) (by decide)) q20a q20c (g := K19.g) rfl (by rw [hml]; rfl) (Steps.refl _) (argsL := [(.int y)]) (rest := []) (lenOf pd_acm rfl) rfl (by show 2 * 0 + _ ≤ _; exact Nat.le_of_eq rfl) (hb hby d_ch_21) (fun _ _ => ⟨rfl, (rfl : T18.heap = T18.heap), (by decide : 1 + 1 ≤ _), (by decide : 4 + 4 ≤ _)⟩)
    dsimp only [Pt.U, Pt.locs, Pt.cells, Pt.slots] at X20 l20 y20 z20 st20 hQ20
    subst l20 y20 z20
    obtain ⟨rfl, N20q, cm20, m20, f20, W20, hn20, hc20, hf20, hk20⟩ := hQ20
    have N20 := Fr.app N18 N20q
    have K21 : Rch p e below s₁ F0 T20 (mkF m 24 #[sR b, sI 2, sI x, sI y] []) := fun t k => K19 t (st20.trans (k))
    obtain ⟨fs, hr, hrun, hended, hWm, hsame⟩ := X20.leave (v := none) (fun _ => rfl)
    refine ⟨_, _, pre0 _ (K21 _ (X20.returnOut hx Bd.returns (hb hby d_ch_24) hr)), hrun, hended, _, _, rfl, ?_, ⟨_, rfl⟩, hWm, hsame.mono (by decide) (by decide)⟩
    show QrmCH0 Z b fa ac fc cm ft su pr 2 cq n x y f f1 f2 f3 Rr n0 _ T20.heap _
    exact ⟨rfl, N20, cm20, m20, f20, W20, hn20, (by omega), (fun k hk => (hk20 k (by omega)).trans (hk18 k hk)), (fun _ => (hk20 cq (by omega)).trans hf18), (fun _ => hf20)⟩
theorem ef_rmCH1 (m : MethodId) (b fa ac fc cm ft su pr : Addr) (u cq n : Nat) (x y : Int32) (f f1 f2 f3 : Nat → Value) : entryFrame m #[(.ref b), (.int (Int32.ofNat u)), (.int x), (.int y)] 4 = mkF m 0 #[.val (.ref b), .val (.int (Int32.ofNat u)), .val (.int x), .val (.int y)] [] := by first | (simp [entryFrame, mkF, argsToLocals, Value.category]; done) | rfl
def QrmCH1 (Z : State) (b fa ac fc cm ft su pr : Addr) (u cq n : Nat) (x y : Int32) (f f1 f2 f3 : Nat → Value) (Rr : List (Addr × (Cell → Prop))) (n0 : Nat) (v : Option Value) (h : Heap) (L : List Loc) : Prop := v = none ∧ Fr n0 L ∧ ∃ (cm' : Addr) (n' : Nat) (f' : Nat → Value), Wo n0 h ((b, oB Z [.null, (.int (0 : Int32)), .null, (.int (0 : Int32)), (.ref fa), (.ref ac), (.ref fc), (.ref cm'), (.ref ft), (.ref su), (.ref pr), (.int (2 : Int32)), (.int (0 : Int32)), (.int (Int32.ofNat (cq + u))), (.int (0 : Int32)), .null]) :: (cm', Ar Z .int n' f') :: (fa, Ar Z .int 2 (upd f1 1 (.int 0))) :: (fc, Ar Z .int 2 (upd f2 1 (.int (Int32.ofNat cq)))) :: (ft, Ar Z .int 2 (upd f3 1 (.int 0))) :: Rr) ∧ (n' = 2 ∨ n' = 4) ∧ cq + u ≤ n' ∧ (∀ k, k < cq → f' k = f k) ∧ (1 ≤ u → f' cq = .int x) ∧ (2 ≤ u → f' (cq + 1) = .int y)
set_option maxRecDepth 65536 in
set_option maxHeartbeats 40000000 in
theorem rmCH1 (l : Launch) (Z : State) (a0 : Array Value) (hw : ∀ d ∈ tables_1, d.before a0 Z = true) (ws : List Jvm.Cond) (b fa ac fc cm ft su pr : Addr) (u cq n : Nat) (x y : Int32) (f f1 f2 f3 : Nat → Value) (Rr : List (Addr × (Cell → Prop))) (h0 : Heap) (n0 : Nat) (W0 : Wo n0 h0 ((b, oB Z [.null, (kI 0), .null, (kI 0), (kR fa), (kR ac), (kR fc), (kR cm), (kR ft), (kR su), (kR pr), (kI 1), (kI 0), (kI (Int32.ofNat cq)), (kI 0), .null]) :: (cm, Ar Z .int n f) :: (fa, Ar Z .int 2 f1) :: (fc, Ar Z .int 2 f2) :: (ft, Ar Z .int 2 f3) :: Rr)) (hn : n = 2 ∨ n = 4) (hc : cq ≤ n) (hu : u ≤ 2) (hcu : cq + u ≤ 4) :
    MetFree l (⟨"com/example/sambre/sambre/engine/RowsChoiceNamedAsPinLaw", "choice", "(Lcom/example/sambre/sambre/engine/Rows$Builder;III)V"⟩ : MethodName) (head1 (Jvm.Cond.code (⟨"com/example/sambre/sambre/engine/RowsChoiceNamedAsPinLaw", "choice", "(Lcom/example/sambre/sambre/engine/Rows$Builder;III)V"⟩ : MethodName) method_4_code 4 none :: ws) ({ frames := 3, cells := 2, slots := 8, locals := 46 } : Room)) (fun aa U => aa = #[(.ref b), (.int (Int32.ofNat u)), (.int x), (.int y)] ∧ Z.Warmed39 U.vm ∧ U.heap = h0) (fun _ _ _ _ _ => True) (fun _ U ou U' => ∃ v L, ou = .returned v ∧ QrmCH1 Z b fa ac fc cm ft su pr u cq n x y f f1 f2 f3 Rr n0 v U'.heap L ∧ FrameEnd U ou U' L ({ frames := 3, cells := 2, slots := 8, locals := 46 } : Room).cells ({ frames := 3, cells := 2, slots := 8, locals := 46 } : Room).slots) := by
  refine MetFree.of_bodySF (plainFor_of_name pn_RowsChoiceNamedAsPinLaw) hisR ?_
  intro p e s m args below meth c s₁ Bd hml0 hP hK
  obtain ⟨rfl, hZ, hh⟩ := hP
  have hx := Bd.exec
  have hby := Bd.bytes
  have hml : c.maxLocals = 4 := hml0
  have hown : s.vm.findClass "com/example/sambre/sambre/engine/RowsChoiceNamedAsPinLaw" = some m.cls := findClass_of_methodNamed Bd.named
  have hnm := (name_of_methodNamed Bd.named Bd.method).1
  have X0 : Stand p l e ({ frames := 3, cells := 2, slots := 8, locals := 46 } : Room) s m #[(.ref b), (.int (Int32.ofNat u)), (.int x), (.int y)] below meth c s₁ [] 0 0 := Stand.of_body Bd
  have e0 : s₁.heap = h0 := by rw [← hh, Bd.state]; rfl
  have N0 := Fr.nil n0
  obtain ⟨F0, hF0⟩ : ∃ F, F = mkF m 0 #[.val (.ref b), .val (.int (Int32.ofNat u)), .val (.int x), .val (.int y)] [] := ⟨_, rfl⟩
  have pre0 : ∀ t, Steps p.tables e below (s₁.setTop F0) t → Steps p.tables e below (s₁.setTop (entryFrame m #[(.ref b), (.int (Int32.ofNat u)), (.int x), (.int y)] 4)) t := fun t k => castTop ((ef_rmCH1 m b fa ac fc cm ft su pr u cq n x y f f1 f2 f3).trans hF0.symm) k
  have K0 : Rch p e below s₁ F0 s₁ (mkF m 0 #[.val (.ref b), .val (.int (Int32.ofNat u)), .val (.int x), .val (.int y)] []) := fun t k => castTop hF0 k
  rcases (by omega : u = 0 ∨ u = 1 ∨ u = 2) with rfl | rfl | rfl
  · have K1 : Rch p e below s₁ F0 s₁ (mkF m 1 #[sR b, sI 0, sI x, sI y] [(kR b)]) := fun t k => K0 t (XS.aloadN X0.here hx rfl (hb hby d_ch_0) rfl rfl k)
    have W2 : Wo n0 h0 ((b, oB Z [.null, (kI 0), .null, (kI 0), (kR fa), (kR ac), (kR fc), (kR cm), (kR ft), (kR su), (kR pr), (kI 1), (kI 0), (kI (Int32.ofNat cq)), (kI 0), .null]) :: (fa, Ar Z .int 2 f1) :: (fc, Ar Z .int 2 f2) :: (ft, Ar Z .int 2 f3) :: (cm, Ar Z .int n f) :: Rr) := Wo.pick W0 [0, 2, 3, 4, 1] 5 (by decide +kernel) rfl
    obtain ⟨cq3, kq3, q3a, q3b, q3c⟩ := isOf hZ e0 (W2.exa (i := 0) rfl)
    obtain ⟨_, _, ⟨T3, L3, k3, n3⟩, -, X3, ⟨Lc3, hQ3, l3, y3, z3⟩, st3⟩ := X0.virtualBack hx (y := (⟨"com/example/sambre/sambre/engine/Rows$Builder", "startChoice", "()V"⟩ : MethodName)) (z := (⟨"com/example/sambre/sambre/engine/Rows$Builder", "startChoice", "()V"⟩ : MethodName)) hown (mvT hZ (hw _ (mi 93 rfl))) (mvT hZ (hw _ (mi 94 rfl))) (notFace_of_selects (args := #[]) (mvT hZ (hw _ (mi 96 rfl)))) (mvT hZ (hw _ (mi 96 rfl))) (mvT hZ (hw _ (mi 95 rfl))) (by decide) (backOf (W := 0) (rmSC1 l Z a0 hw [] b fa ac fc cm ft su pr (Int32.ofNat cq) f1 f2 f3 ((cm, Ar Z .int n f) :: Rr) h0 n0 W2) hZ (hw _ (mi 97 rfl)) (hw _ (mi 48 rfl)) (by decide) (by decide)) q3a q3c (g := K1.g) rfl (by rw [hml]; rfl) (Steps.refl _) (argsL := []) (rest := []) (lenOf pd_sc rfl) rfl (by show 2 * 0 + _ ≤ _; exact Nat.le_of_eq rfl) (hb hby d_ch_1) (fun _ _ => ⟨rfl, e0, (by decide : 0 + 0 ≤ _), (by decide : 0 + 0 ≤ _)⟩)
    dsimp only [Pt.U, Pt.locs, Pt.cells, Pt.slots] at X3 l3 y3 z3 st3 hQ3
    subst l3 y3 z3
    obtain ⟨rfl, N3q, W3⟩ := hQ3
    have N3 := Fr.app N0 N3q
    have K4 : Rch p e below s₁ F0 T3 (mkF m 24 #[sR b, sI 0, sI x, sI y] []) := fun t k => K1 t (st3.trans (by
      refine XS.iloadN X3.here hx rfl (hb hby d_ch_4) rfl ?_
      refine XS.iconst X3.here hx rfl (hb hby d_ch_5) ?_
      refine XS.icmpYes X3.here hx rfl (pc0 := 6) (pc' := 14) rfl (hb hby d_ch_6) rfl (by decide) (by decide) (by decide) ?_
      refine XS.iloadN X3.here hx rfl (hb hby d_ch_14) rfl ?_
      refine XS.iconst X3.here hx rfl (hb hby d_ch_15) ?_
      refine XS.icmpYes X3.here hx rfl (pc0 := 16) (pc' := 24) rfl (hb hby d_ch_16) rfl (by decide) (by decide) (by decide) ?_
      exact k))
    have W5 : Wo n0 T3.heap ((b, oB Z [.null, (kI 0), .null, (kI 0), (kR fa), (kR ac), (kR fc), (kR cm), (kR ft), (kR su), (kR pr), (kI 2), (kI 0), (kI (Int32.ofNat cq)), (kI 0), .null]) :: (cm, Ar Z .int n f) :: (fa, Ar Z .int 2 (upd f1 1 (kI 0))) :: (fc, Ar Z .int 2 (upd f2 1 (kI (Int32.ofNat cq)))) :: (ft, Ar Z .int 2 (upd f3 1 (kI 0))) :: Rr) := Wo.pick W3 [0, 4, 1, 2, 3] 5 (by decide +kernel) rfl
    obtain ⟨fs, hr, hrun, hended, hWm, hsame⟩ := X3.leave (v := none) (fun _ => rfl)
    refine ⟨_, _, pre0 _ (K4 _ (X3.returnOut hx Bd.returns (hb hby d_ch_24) hr)), hrun, hended, _, _, rfl, ?_, ⟨_, rfl⟩, hWm, hsame.mono (by decide) (by decide)⟩
    show QrmCH1 Z b fa ac fc cm ft su pr 0 cq n x y f f1 f2 f3 Rr n0 _ T3.heap _
    exact ⟨rfl, N3, cm, n, f, W5, hn, (by omega), (fun k hk => rfl), (fun q => absurd q (by decide)), (fun q => absurd q (by decide))⟩
  · have K6 : Rch p e below s₁ F0 s₁ (mkF m 1 #[sR b, sI 1, sI x, sI y] [(kR b)]) := fun t k => K0 t (XS.aloadN X0.here hx rfl (hb hby d_ch_0) rfl rfl k)
    have W7 : Wo n0 h0 ((b, oB Z [.null, (kI 0), .null, (kI 0), (kR fa), (kR ac), (kR fc), (kR cm), (kR ft), (kR su), (kR pr), (kI 1), (kI 0), (kI (Int32.ofNat cq)), (kI 0), .null]) :: (fa, Ar Z .int 2 f1) :: (fc, Ar Z .int 2 f2) :: (ft, Ar Z .int 2 f3) :: (cm, Ar Z .int n f) :: Rr) := Wo.pick W0 [0, 2, 3, 4, 1] 5 (by decide +kernel) rfl
    obtain ⟨cq8, kq8, q8a, q8b, q8c⟩ := isOf hZ e0 (W7.exa (i := 0) rfl)
    obtain ⟨_, _, ⟨T8, L8, k8, n8⟩, -, X8, ⟨Lc8, hQ8, l8, y8, z8⟩, st8⟩ := X0.virtualBack hx (y := (⟨"com/example/sambre/sambre/engine/Rows$Builder", "startChoice", "()V"⟩ : MethodName)) (z := (⟨"com/example/sambre/sambre/engine/Rows$Builder", "startChoice", "()V"⟩ : MethodName)) hown (mvT hZ (hw _ (mi 93 rfl))) (mvT hZ (hw _ (mi 94 rfl))) (notFace_of_selects (args := #[]) (mvT hZ (hw _ (mi 96 rfl)))) (mvT hZ (hw _ (mi 96 rfl))) (mvT hZ (hw _ (mi 95 rfl))) (by decide) (backOf (W := 0) (rmSC1 l Z a0 hw [] b fa ac fc cm ft su pr (Int32.ofNat cq) f1 f2 f3 ((cm, Ar Z .int n f) :: Rr) h0 n0 W7) hZ (hw _ (mi 97 rfl)) (hw _ (mi 48 rfl)) (by decide) (by decide)) q8a q8c (g := K6.g) rfl (by rw [hml]; rfl) (Steps.refl _) (argsL := []) (rest := []) (lenOf pd_sc rfl) rfl (by show 2 * 0 + _ ≤ _; exact Nat.le_of_eq rfl) (hb hby d_ch_1) (fun _ _ => ⟨rfl, e0, (by decide : 0 + 0 ≤ _), (by decide : 0 + 0 ≤ _)⟩)
    dsimp only [Pt.U, Pt.locs, Pt.cells, Pt.slots] at X8 l8 y8 z8 st8 hQ8
    subst l8 y8 z8
    obtain ⟨rfl, N8q, W8⟩ := hQ8
    have N8 := Fr.app N0 N8q
    have K9 : Rch p e below s₁ F0 T8 (mkF m 11 #[sR b, sI 1, sI x, sI y] [(kI x), (kR b)]) := fun t k => K6 t (st8.trans (by
      refine XS.iloadN X8.here hx rfl (hb hby d_ch_4) rfl ?_
      refine XS.iconst X8.here hx rfl (hb hby d_ch_5) ?_
      refine XS.icmpNo X8.here hx rfl (hb hby d_ch_6) rfl (by decide) ?_
      refine XS.aloadN X8.here hx rfl (hb hby d_ch_9) rfl rfl ?_
      refine XS.iloadN X8.here hx rfl (hb hby d_ch_10) rfl ?_
      exact k))
    have W10 : Wo n0 T8.heap ((b, oB Z [.null, (kI 0), .null, (kI 0), (kR fa), (kR ac), (kR fc), (kR cm), (kR ft), (kR su), (kR pr), (kI 2), (kI 0), (kI (Int32.ofNat cq)), (kI 0), .null]) :: (cm, Ar Z .int n f) :: (fa, Ar Z .int 2 (upd f1 1 (kI 0))) :: (fc, Ar Z .int 2 (upd f2 1 (kI (Int32.ofNat cq)))) :: (ft, Ar Z .int 2 (upd f3 1 (kI 0))) :: Rr) := Wo.pick W8 [0, 4, 1, 2, 3] 5 (by decide +kernel) rfl
    obtain ⟨cq11, kq11, q11a, q11b, q11c⟩ := isOf hZ (rfl : T8.heap = T8.heap) (W10.exa (i := 0) rfl)
    obtain ⟨_, _, ⟨T11, L11, k11, n11⟩, -, X11, ⟨Lc11, hQ11, l11, y11, z11⟩, st11⟩ := X8.virtualBack hx (y := (⟨"com/example/sambre/sambre/engine/Rows$Builder", "addCommand", "(I)V"⟩ : MethodName)) (z := (⟨"com/example/sambre/sambre/engine/Rows$Builder", "addCommand", "(I)V"⟩ : MethodName)) hown (mvT hZ (hw _ (mi 98 rfl))) (mvT hZ (hw _ (mi 99 rfl))) (notFace_of_selects (args := #[]) (mvT hZ (hw _ (mi 101 rfl)))) (mvT hZ (hw _ (mi 101 rfl))) (mvT hZ (hw _ (mi 100 rfl))) (by decide) (backOf (W := 0) (rmAC l Z a0 hw [] b fa ac fc cm ft su pr x (2 : Int32) cq n f ((fa, Ar Z .int 2 (upd f1 1 (kI 0))) :: (fc, Ar Z .int 2 (upd f2 1 (kI (Int32.ofNat cq)))) :: (ft, Ar Z .int 2 (upd f3 1 (kI 0))) :: Rr) T8.heap n0 W10 (by omega) (by omega) (by omega)) hZ (hw _ (mi 102 rfl)) (hw _ (mi 48 rfl)) (by decide) (by decide)) q11a q11c (g := K9.g) rfl (by rw [hml]; rfl) (Steps.refl _) (argsL := [(.int x)]) (rest := []) (lenOf pd_acm rfl) rfl (by show 2 * 0 + _ ≤ _; exact Nat.le_of_eq rfl) (hb hby d_ch_11) (fun _ _ => ⟨rfl, (rfl : T8.heap = T8.heap), (by decide : 0 + 1 ≤ _), (by decide : 0 + 4 ≤ _)⟩)
    dsimp only [Pt.U, Pt.locs, Pt.cells, Pt.slots] at X11 l11 y11 z11 st11 hQ11
    subst l11 y11 z11
    obtain ⟨rfl, N11q, cm11, m11, f11, W11, hn11, hc11, hf11, hk11⟩ := hQ11
    have N11 := Fr.app N8 N11q
    have K12 : Rch p e below s₁ F0 T11 (mkF m 24 #[sR b, sI 1, sI x, sI y] []) := fun t k => K9 t (st11.trans (by
      refine XS.iloadN X11.here hx rfl (hb hby d_ch_14) rfl ?_
      refine XS.iconst X11.here hx rfl (hb hby d_ch_15) ?_
      refine XS.icmpYes X11.here hx rfl (pc0 := 16) (pc' := 24) rfl (hb hby d_ch_16) rfl (by decide) (by decide) (by decide) ?_
      exact k))
    obtain ⟨fs, hr, hrun, hended, hWm, hsame⟩ := X11.leave (v := none) (fun _ => rfl)
    refine ⟨_, _, pre0 _ (K12 _ (X11.returnOut hx Bd.returns (hb hby d_ch_24) hr)), hrun, hended, _, _, rfl, ?_, ⟨_, rfl⟩, hWm, hsame.mono (by decide) (by decide)⟩
    show QrmCH1 Z b fa ac fc cm ft su pr 1 cq n x y f f1 f2 f3 Rr n0 _ T11.heap _
    exact ⟨rfl, N11, cm11, m11, f11, W11, hn11, (by omega), hk11, (fun _ => hf11), (fun q => absurd q (by decide))⟩
  · have K13 : Rch p e below s₁ F0 s₁ (mkF m 1 #[sR b, sI 2, sI x, sI y] [(kR b)]) := fun t k => K0 t (XS.aloadN X0.here hx rfl (hb hby d_ch_0) rfl rfl k)
    have W14 : Wo n0 h0 ((b, oB Z [.null, (kI 0), .null, (kI 0), (kR fa), (kR ac), (kR fc), (kR cm), (kR ft), (kR su), (kR pr), (kI 1), (kI 0), (kI (Int32.ofNat cq)), (kI 0), .null]) :: (fa, Ar Z .int 2 f1) :: (fc, Ar Z .int 2 f2) :: (ft, Ar Z .int 2 f3) :: (cm, Ar Z .int n f) :: Rr) := Wo.pick W0 [0, 2, 3, 4, 1] 5 (by decide +kernel) rfl
    obtain ⟨cq15, kq15, q15a, q15b, q15c⟩ := isOf hZ e0 (W14.exa (i := 0) rfl)
    obtain ⟨_, _, ⟨T15, L15, k15, n15⟩, -, X15, ⟨Lc15, hQ15, l15, y15, z15⟩, st15⟩ := X0.virtualBack hx (y := (⟨"com/example/sambre/sambre/engine/Rows$Builder", "startChoice", "()V"⟩ : MethodName)) (z := (⟨"com/example/sambre/sambre/engine/Rows$Builder", "startChoice", "()V"⟩ : MethodName)) hown (mvT hZ (hw _ (mi 93 rfl))) (mvT hZ (hw _ (mi 94 rfl))) (notFace_of_selects (args := #[]) (mvT hZ (hw _ (mi 96 rfl)))) (mvT hZ (hw _ (mi 96 rfl))) (mvT hZ (hw _ (mi 95 rfl))) (by decide) (backOf (W := 0) (rmSC1 l Z a0 hw [] b fa ac fc cm ft su pr (Int32.ofNat cq) f1 f2 f3 ((cm, Ar Z .int n f) :: Rr) h0 n0 W14) hZ (hw _ (mi 97 rfl)) (hw _ (mi 48 rfl)) (by decide) (by decide)) q15a q15c (g := K13.g) rfl (by rw [hml]; rfl) (Steps.refl _) (argsL := []) (rest := []) (lenOf pd_sc rfl) rfl (by show 2 * 0 + _ ≤ _; exact Nat.le_of_eq rfl) (hb hby d_ch_1) (fun _ _ => ⟨rfl, e0, (by decide : 0 + 0 ≤ _), (by decide : 0 + 0 ≤ _)⟩)
    dsimp only [Pt.U, Pt.locs, Pt.cells, Pt.slots] at X15 l15 y15 z15 st15 hQ15
    subst l15 y15 z15
    obtain ⟨rfl, N15q, W15⟩ := hQ15
    have N15 := Fr.app N0 N15q
    have K16 : Rch p e below s₁ F0 T15 (mkF m 11 #[sR b, sI 2, sI x, sI y] [(kI x), (kR b)]) := fun t k => K13 t (st15.trans (by
      refine XS.iloadN X15.here hx rfl (hb hby d_ch_4) rfl ?_
      refine XS.iconst X15.here hx rfl (hb hby d_ch_5) ?_
      refine XS.icmpNo X15.here hx rfl (hb hby d_ch_6) rfl (by decide) ?_
      refine XS.aloadN X15.here hx rfl (hb hby d_ch_9) rfl rfl ?_
      refine XS.iloadN X15.here hx rfl (hb hby d_ch_10) rfl ?_
      exact k))
    have W17 : Wo n0 T15.heap ((b, oB Z [.null, (kI 0), .null, (kI 0), (kR fa), (kR ac), (kR fc), (kR cm), (kR ft), (kR su), (kR pr), (kI 2), (kI 0), (kI (Int32.ofNat cq)), (kI 0), .null]) :: (cm, Ar Z .int n f) :: (fa, Ar Z .int 2 (upd f1 1 (kI 0))) :: (fc, Ar Z .int 2 (upd f2 1 (kI (Int32.ofNat cq)))) :: (ft, Ar Z .int 2 (upd f3 1 (kI 0))) :: Rr) := Wo.pick W15 [0, 4, 1, 2, 3] 5 (by decide +kernel) rfl
    obtain ⟨cq18, kq18, q18a, q18b, q18c⟩ := isOf hZ (rfl : T15.heap = T15.heap) (W17.exa (i := 0) rfl)
    obtain ⟨_, _, ⟨T18, L18, k18, n18⟩, -, X18, ⟨Lc18, hQ18, l18, y18, z18⟩, st18⟩ := X15.virtualBack hx (y := (⟨"com/example/sambre/sambre/engine/Rows$Builder", "addCommand", "(I)V"⟩ : MethodName)) (z := (⟨"com/example/sambre/sambre/engine/Rows$Builder", "addCommand", "(I)V"⟩ : MethodName)) hown (mvT hZ (hw _ (mi 98 rfl))) (mvT hZ (hw _ (mi 99 rfl))) (notFace_of_selects (args := #[]) (mvT hZ (hw _ (mi 101 rfl)))) (mvT hZ (hw _ (mi 101 rfl))) (mvT hZ (hw _ (mi 100 rfl))) (by decide) (backOf (W := 0) (rmAC l Z a0 hw [] b fa ac fc cm ft su pr x (2 : Int32) cq n f ((fa, Ar Z .int 2 (upd f1 1 (kI 0))) :: (fc, Ar Z .int 2 (upd f2 1 (kI (Int32.ofNat cq)))) :: (ft, Ar Z .int 2 (upd f3 1 (kI 0))) :: Rr) T15.heap n0 W17 (by omega) (by omega) (by omega)) hZ (hw _ (mi 102 rfl)) (hw _ (mi 48 rfl)) (by decide) (by decide)) q18a q18c (g := K16.g) rfl (by rw [hml]; rfl) (Steps.refl _) (argsL := [(.int x)]) (rest := []) (lenOf pd_acm rfl) rfl (by show 2 * 0 + _ ≤ _; exact Nat.le_of_eq rfl) (hb hby d_ch_11) (fun _ _ => ⟨rfl, (rfl : T15.heap = T15.heap), (by decide : 0 + 1 ≤ _), (by decide : 0 + 4 ≤ _)⟩)
    dsimp only [Pt.U, Pt.locs, Pt.cells, Pt.slots] at X18 l18 y18 z18 st18 hQ18
    subst l18 y18 z18
    obtain ⟨rfl, N18q, cm18, m18, f18, W18, hn18, hc18, hf18, hk18⟩ := hQ18
    have N18 := Fr.app N15 N18q
    have K19 : Rch p e below s₁ F0 T18 (mkF m 21 #[sR b, sI 2, sI x, sI y] [(kI y), (kR b)]) := fun t k => K16 t (st18.trans (by
      refine XS.iloadN X18.here hx rfl (hb hby d_ch_14) rfl ?_
      refine XS.iconst X18.here hx rfl (hb hby d_ch_15) ?_
      refine XS.icmpNo X18.here hx rfl (hb hby d_ch_16) rfl (by decide) ?_
      refine XS.aloadN X18.here hx rfl (hb hby d_ch_19) rfl rfl ?_
      refine XS.iloadN X18.here hx rfl (hb hby d_ch_20) rfl ?_
      exact k))
    obtain ⟨cq20, kq20, q20a, q20b, q20c⟩ := isOf hZ (rfl : T18.heap = T18.heap) (W18.exa (i := 0) rfl)
    obtain ⟨_, _, ⟨T20, L20, k20, n20⟩, -, X20, ⟨Lc20, hQ20, l20, y20, z20⟩, st20⟩ := X18.virtualBack hx (y := (⟨"com/example/sambre/sambre/engine/Rows$Builder", "addCommand", "(I)V"⟩ : MethodName)) (z := (⟨"com/example/sambre/sambre/engine/Rows$Builder", "addCommand", "(I)V"⟩ : MethodName)) hown (mvT hZ (hw _ (mi 98 rfl))) (mvT hZ (hw _ (mi 99 rfl))) (notFace_of_selects (args := #[]) (mvT hZ (hw _ (mi 101 rfl)))) (mvT hZ (hw _ (mi 101 rfl))) (mvT hZ (hw _ (mi 100 rfl))) (by decide) (backOf (W := 0) (rmAC l Z a0 hw [] b fa ac fc cm18 ft su pr y (2 : Int32) (cq + 1) m18 f18 ((fa, Ar Z .int 2 (upd f1 1 (kI 0))) :: (fc, Ar Z .int 2 (upd f2 1 (kI (Int32.ofNat cq)))) :: (ft, Ar Z .int 2 (upd f3 1 (kI 0))) :: Rr) T18.heap n0 W18 (by omega) (by omega) (by omega)) hZ (hw _ (mi 102 rfl)) (hw _ (mi 48 rfl)) (by decide) (by decide)) q20a q20c (g := K19.g) rfl (by rw [hml]; rfl) (Steps.refl _) (argsL := [(.int y)]) (rest := []) (lenOf pd_acm rfl) rfl (by show 2 * 0 + _ ≤ _; exact Nat.le_of_eq rfl) (hb hby d_ch_21) (fun _ _ => ⟨rfl, (rfl : T18.heap = T18.heap), (by decide : 1 + 1 ≤ _), (by decide : 4 + 4 ≤ _)⟩)
    dsimp only [Pt.U, Pt.locs, Pt.cells, Pt.slots] at X20 l20 y20 z20 st20 hQ20
    subst l20 y20 z20
    obtain ⟨rfl, N20q, cm20, m20, f20, W20, hn20, hc20, hf20, hk20⟩ := hQ20
    have N20 := Fr.app N18 N20q
    have K21 : Rch p e below s₁ F0 T20 (mkF m 24 #[sR b, sI 2, sI x, sI y] []) := fun t k => K19 t (st20.trans (k))
    obtain ⟨fs, hr, hrun, hended, hWm, hsame⟩ := X20.leave (v := none) (fun _ => rfl)
    refine ⟨_, _, pre0 _ (K21 _ (X20.returnOut hx Bd.returns (hb hby d_ch_24) hr)), hrun, hended, _, _, rfl, ?_, ⟨_, rfl⟩, hWm, hsame.mono (by decide) (by decide)⟩
    show QrmCH1 Z b fa ac fc cm ft su pr 2 cq n x y f f1 f2 f3 Rr n0 _ T20.heap _
    exact ⟨rfl, N20, cm20, m20, f20, W20, hn20, (by omega), (fun k hk => (hk20 k (by omega)).trans (hk18 k hk)), (fun _ => (hk20 cq (by omega)).trans hf18), (fun _ => hf20)⟩
theorem pd_add : parseMethodDescriptor "(Lcom/example/sambre/sambre/engine/Rows$Builder;[II)I" = some ⟨[(.object "com/example/sambre/sambre/engine/Rows$Builder"), (.array .int), .int], some .int⟩ := by decide +kernel
theorem d_add_0 : decode prog_87_method_2_code 0 = .ok (.aload_n 0, 1) := by decide +kernel
theorem d_add_1 : decode prog_87_method_2_code 1 = .ok (.getfield 53, 3) := by decide +kernel
theorem d_add_4 : decode prog_87_method_2_code 4 = .ok (.istore 4, 2) := by decide +kernel
theorem d_add_6 : decode prog_87_method_2_code 6 = .ok (.aload_n 0, 1) := by decide +kernel
theorem d_add_7 : decode prog_87_method_2_code 7 = .ok (.getfield 19, 3) := by decide +kernel
theorem d_add_10 : decode prog_87_method_2_code 10 = .ok (.iload 4, 2) := by decide +kernel
theorem d_add_12 : decode prog_87_method_2_code 12 = .ok (.iaload, 1) := by decide +kernel
theorem d_add_13 : decode prog_87_method_2_code 13 = .ok (.istore 5, 2) := by decide +kernel
theorem d_add_15 : decode prog_87_method_2_code 15 = .ok (.aload_n 1, 1) := by decide +kernel
theorem d_add_16 : decode prog_87_method_2_code 16 = .ok (.getfield 57, 3) := by decide +kernel
theorem d_add_19 : decode prog_87_method_2_code 19 = .ok (.istore 6, 2) := by decide +kernel
theorem d_add_21 : decode prog_87_method_2_code 21 = .ok (.aload_n 0, 1) := by decide +kernel
theorem d_add_22 : decode prog_87_method_2_code 22 = .ok (.getfield 31, 3) := by decide +kernel
theorem d_add_25 : decode prog_87_method_2_code 25 = .ok (.iload 5, 2) := by decide +kernel
theorem d_add_27 : decode prog_87_method_2_code 27 = .ok (.iaload, 1) := by decide +kernel
theorem d_add_28 : decode prog_87_method_2_code 28 = .ok (.istore 7, 2) := by decide +kernel
theorem d_add_30 : decode prog_87_method_2_code 30 = .ok (.aload_n 0, 1) := by decide +kernel
theorem d_add_31 : decode prog_87_method_2_code 31 = .ok (.getfield 34, 3) := by decide +kernel
theorem d_add_34 : decode prog_87_method_2_code 34 = .ok (.iload 5, 2) := by decide +kernel
theorem d_add_36 : decode prog_87_method_2_code 36 = .ok (.iaload, 1) := by decide +kernel
theorem d_add_37 : decode prog_87_method_2_code 37 = .ok (.istore 8, 2) := by decide +kernel
theorem d_add_39 : decode prog_87_method_2_code 39 = .ok (.aload_n 0, 1) := by decide +kernel
theorem d_add_40 : decode prog_87_method_2_code 40 = .ok (.getfield 37, 3) := by decide +kernel
theorem d_add_43 : decode prog_87_method_2_code 43 = .ok (.iload 5, 2) := by decide +kernel
theorem d_add_45 : decode prog_87_method_2_code 45 = .ok (.iaload, 1) := by decide +kernel
theorem d_add_46 : decode prog_87_method_2_code 46 = .ok (.istore 9, 2) := by decide +kernel
theorem d_add_48 : decode prog_87_method_2_code 48 = .ok (.aload_n 0, 1) := by decide +kernel
theorem d_add_49 : decode prog_87_method_2_code 49 = .ok (.getfield 22, 3) := by decide +kernel
theorem d_add_52 : decode prog_87_method_2_code 52 = .ok (.iload 4, 2) := by decide +kernel
theorem d_add_54 : decode prog_87_method_2_code 54 = .ok (.iaload, 1) := by decide +kernel
theorem d_add_55 : decode prog_87_method_2_code 55 = .ok (.istore 10, 2) := by decide +kernel
theorem d_add_57 : decode prog_87_method_2_code 57 = .ok (.iload 10, 2) := by decide +kernel
theorem d_add_59 : decode prog_87_method_2_code 59 = .ok (.aload_n 1, 1) := by decide +kernel
theorem d_add_60 : decode prog_87_method_2_code 60 = .ok (.getfield 62, 3) := by decide +kernel
theorem d_add_63 : decode prog_87_method_2_code 63 = .ok (.ifnonnull 7, 3) := by decide +kernel
theorem d_add_66 : decode prog_87_method_2_code 66 = .ok (.iconst 0, 1) := by decide +kernel
theorem d_add_67 : decode prog_87_method_2_code 67 = .ok (.goto 7, 3) := by decide +kernel
theorem d_add_74 : decode prog_87_method_2_code 74 = .ok (.iadd, 1) := by decide +kernel
theorem d_add_75 : decode prog_87_method_2_code 75 = .ok (.istore 11, 2) := by decide +kernel
theorem d_add_77 : decode prog_87_method_2_code 77 = .ok (.aload_n 0, 1) := by decide +kernel
theorem d_add_78 : decode prog_87_method_2_code 78 = .ok (.getfield 28, 3) := by decide +kernel
theorem d_add_81 : decode prog_87_method_2_code 81 = .ok (.iload 4, 2) := by decide +kernel
theorem d_add_83 : decode prog_87_method_2_code 83 = .ok (.iaload, 1) := by decide +kernel
theorem d_add_84 : decode prog_87_method_2_code 84 = .ok (.istore 12, 2) := by decide +kernel
theorem d_add_86 : decode prog_87_method_2_code 86 = .ok (.aload_n 0, 1) := by decide +kernel
theorem d_add_87 : decode prog_87_method_2_code 87 = .ok (.getfield 67, 3) := by decide +kernel
theorem d_add_90 : decode prog_87_method_2_code 90 = .ok (.ifnonnull 14, 3) := by decide +kernel
theorem d_add_93 : decode prog_87_method_2_code 93 = .ok (.aload_n 1, 1) := by decide +kernel
theorem d_add_94 : decode prog_87_method_2_code 94 = .ok (.getfield 70, 3) := by decide +kernel
theorem d_add_97 : decode prog_87_method_2_code 97 = .ok (.ifCond .ne 7, 3) := by decide +kernel
theorem d_add_100 : decode prog_87_method_2_code 100 = .ok (.iconst 1, 1) := by decide +kernel
theorem d_add_101 : decode prog_87_method_2_code 101 = .ok (.goto 4, 3) := by decide +kernel
theorem d_add_105 : decode prog_87_method_2_code 105 = .ok (.istore 13, 2) := by decide +kernel
theorem d_add_107 : decode prog_87_method_2_code 107 = .ok (.iload 4, 2) := by decide +kernel
theorem d_add_109 : decode prog_87_method_2_code 109 = .ok (.aload_n 0, 1) := by decide +kernel
theorem d_add_110 : decode prog_87_method_2_code 110 = .ok (.getfield 16, 3) := by decide +kernel
theorem d_add_113 : decode prog_87_method_2_code 113 = .ok (.arraylength, 1) := by decide +kernel
theorem d_add_114 : decode prog_87_method_2_code 114 = .ok (.if_icmp .eq 116, 3) := by decide +kernel
theorem d_add_117 : decode prog_87_method_2_code 117 = .ok (.iload 4, 2) := by decide +kernel
theorem d_add_119 : decode prog_87_method_2_code 119 = .ok (.iconst 1, 1) := by decide +kernel
theorem d_add_120 : decode prog_87_method_2_code 120 = .ok (.iadd, 1) := by decide +kernel
theorem d_add_121 : decode prog_87_method_2_code 121 = .ok (.aload_n 0, 1) := by decide +kernel
theorem d_add_122 : decode prog_87_method_2_code 122 = .ok (.getfield 19, 3) := by decide +kernel
theorem d_add_125 : decode prog_87_method_2_code 125 = .ok (.arraylength, 1) := by decide +kernel
theorem d_add_126 : decode prog_87_method_2_code 126 = .ok (.if_icmp .eq 104, 3) := by decide +kernel
theorem d_add_129 : decode prog_87_method_2_code 129 = .ok (.iload 5, 2) := by decide +kernel
theorem d_add_131 : decode prog_87_method_2_code 131 = .ok (.iload 6, 2) := by decide +kernel
theorem d_add_133 : decode prog_87_method_2_code 133 = .ok (.iadd, 1) := by decide +kernel
theorem d_add_134 : decode prog_87_method_2_code 134 = .ok (.aload_n 0, 1) := by decide +kernel
theorem d_add_135 : decode prog_87_method_2_code 135 = .ok (.getfield 31, 3) := by decide +kernel
theorem d_add_138 : decode prog_87_method_2_code 138 = .ok (.arraylength, 1) := by decide +kernel
theorem d_add_139 : decode prog_87_method_2_code 139 = .ok (.if_icmp .ge 91, 3) := by decide +kernel
theorem d_add_142 : decode prog_87_method_2_code 142 = .ok (.iload 7, 2) := by decide +kernel
theorem d_add_144 : decode prog_87_method_2_code 144 = .ok (.aload_n 1, 1) := by decide +kernel
theorem d_add_145 : decode prog_87_method_2_code 145 = .ok (.getfield 73, 3) := by decide +kernel
theorem d_add_148 : decode prog_87_method_2_code 148 = .ok (.iadd, 1) := by decide +kernel
theorem d_add_149 : decode prog_87_method_2_code 149 = .ok (.aload_n 0, 1) := by decide +kernel
theorem d_add_150 : decode prog_87_method_2_code 150 = .ok (.getfield 40, 3) := by decide +kernel
theorem d_add_153 : decode prog_87_method_2_code 153 = .ok (.arraylength, 1) := by decide +kernel
theorem d_add_154 : decode prog_87_method_2_code 154 = .ok (.if_icmp .gt 76, 3) := by decide +kernel
theorem d_add_157 : decode prog_87_method_2_code 157 = .ok (.iload 8, 2) := by decide +kernel
theorem d_add_159 : decode prog_87_method_2_code 159 = .ok (.aload_n 1, 1) := by decide +kernel
theorem d_add_160 : decode prog_87_method_2_code 160 = .ok (.getfield 76, 3) := by decide +kernel
theorem d_add_163 : decode prog_87_method_2_code 163 = .ok (.iadd, 1) := by decide +kernel
theorem d_add_164 : decode prog_87_method_2_code 164 = .ok (.aload_n 0, 1) := by decide +kernel
theorem d_add_165 : decode prog_87_method_2_code 165 = .ok (.getfield 43, 3) := by decide +kernel
theorem d_add_168 : decode prog_87_method_2_code 168 = .ok (.arraylength, 1) := by decide +kernel
theorem d_add_169 : decode prog_87_method_2_code 169 = .ok (.if_icmp .gt 61, 3) := by decide +kernel
theorem d_add_172 : decode prog_87_method_2_code 172 = .ok (.iload 9, 2) := by decide +kernel
theorem d_add_174 : decode prog_87_method_2_code 174 = .ok (.aload_n 1, 1) := by decide +kernel
theorem d_add_175 : decode prog_87_method_2_code 175 = .ok (.getfield 79, 3) := by decide +kernel
theorem d_add_178 : decode prog_87_method_2_code 178 = .ok (.iadd, 1) := by decide +kernel
theorem d_add_179 : decode prog_87_method_2_code 179 = .ok (.aload_n 0, 1) := by decide +kernel
theorem d_add_180 : decode prog_87_method_2_code 180 = .ok (.getfield 46, 3) := by decide +kernel
theorem d_add_183 : decode prog_87_method_2_code 183 = .ok (.arraylength, 1) := by decide +kernel
theorem d_add_184 : decode prog_87_method_2_code 184 = .ok (.if_icmp .gt 46, 3) := by decide +kernel
theorem d_add_187 : decode prog_87_method_2_code 187 = .ok (.iload 13, 2) := by decide +kernel
theorem d_add_189 : decode prog_87_method_2_code 189 = .ok (.ifCond .eq 18, 3) := by decide +kernel
theorem d_add_192 : decode prog_87_method_2_code 192 = .ok (.iload 9, 2) := by decide +kernel
theorem d_add_194 : decode prog_87_method_2_code 194 = .ok (.aload_n 1, 1) := by decide +kernel
theorem d_add_195 : decode prog_87_method_2_code 195 = .ok (.getfield 79, 3) := by decide +kernel
theorem d_add_198 : decode prog_87_method_2_code 198 = .ok (.iadd, 1) := by decide +kernel
theorem d_add_199 : decode prog_87_method_2_code 199 = .ok (.aload_n 0, 1) := by decide +kernel
theorem d_add_200 : decode prog_87_method_2_code 200 = .ok (.getfield 49, 3) := by decide +kernel
theorem d_add_203 : decode prog_87_method_2_code 203 = .ok (.arraylength, 1) := by decide +kernel
theorem d_add_204 : decode prog_87_method_2_code 204 = .ok (.if_icmp .gt 26, 3) := by decide +kernel
theorem d_add_207 : decode prog_87_method_2_code 207 = .ok (.iload 11, 2) := by decide +kernel
theorem d_add_209 : decode prog_87_method_2_code 209 = .ok (.aload_n 0, 1) := by decide +kernel
theorem d_add_210 : decode prog_87_method_2_code 210 = .ok (.getfield 7, 3) := by decide +kernel
theorem d_add_213 : decode prog_87_method_2_code 213 = .ok (.arraylength, 1) := by decide +kernel
theorem d_add_214 : decode prog_87_method_2_code 214 = .ok (.if_icmp .gt 16, 3) := by decide +kernel
theorem d_add_217 : decode prog_87_method_2_code 217 = .ok (.iload 12, 2) := by decide +kernel
theorem d_add_219 : decode prog_87_method_2_code 219 = .ok (.aload_n 2, 1) := by decide +kernel
theorem d_add_220 : decode prog_87_method_2_code 220 = .ok (.arraylength, 1) := by decide +kernel
theorem d_add_221 : decode prog_87_method_2_code 221 = .ok (.iadd, 1) := by decide +kernel
theorem d_add_222 : decode prog_87_method_2_code 222 = .ok (.aload_n 0, 1) := by decide +kernel
theorem d_add_223 : decode prog_87_method_2_code 223 = .ok (.getfield 13, 3) := by decide +kernel
theorem d_add_226 : decode prog_87_method_2_code 226 = .ok (.arraylength, 1) := by decide +kernel
theorem d_add_227 : decode prog_87_method_2_code 227 = .ok (.if_icmp .le 17, 3) := by decide +kernel
theorem d_add_244 : decode prog_87_method_2_code 244 = .ok (.iconst 0, 1) := by decide +kernel
theorem d_add_245 : decode prog_87_method_2_code 245 = .ok (.istore 14, 2) := by decide +kernel
theorem d_add_247 : decode prog_87_method_2_code 247 = .ok (.iload 14, 2) := by decide +kernel
theorem d_add_249 : decode prog_87_method_2_code 249 = .ok (.iload 6, 2) := by decide +kernel
theorem d_add_251 : decode prog_87_method_2_code 251 = .ok (.if_icmp .ge 69, 3) := by decide +kernel
theorem d_add_254 : decode prog_87_method_2_code 254 = .ok (.aload_n 0, 1) := by decide +kernel
theorem d_add_255 : decode prog_87_method_2_code 255 = .ok (.getfield 31, 3) := by decide +kernel
theorem d_add_258 : decode prog_87_method_2_code 258 = .ok (.iload 5, 2) := by decide +kernel
theorem d_add_260 : decode prog_87_method_2_code 260 = .ok (.iload 14, 2) := by decide +kernel
theorem d_add_262 : decode prog_87_method_2_code 262 = .ok (.iadd, 1) := by decide +kernel
theorem d_add_263 : decode prog_87_method_2_code 263 = .ok (.iload 7, 2) := by decide +kernel
theorem d_add_265 : decode prog_87_method_2_code 265 = .ok (.aload_n 1, 1) := by decide +kernel
theorem d_add_266 : decode prog_87_method_2_code 266 = .ok (.getfield 86, 3) := by decide +kernel
theorem d_add_269 : decode prog_87_method_2_code 269 = .ok (.iload 14, 2) := by decide +kernel
theorem d_add_271 : decode prog_87_method_2_code 271 = .ok (.iaload, 1) := by decide +kernel
theorem d_add_272 : decode prog_87_method_2_code 272 = .ok (.iadd, 1) := by decide +kernel
theorem d_add_273 : decode prog_87_method_2_code 273 = .ok (.iastore, 1) := by decide +kernel
theorem d_add_274 : decode prog_87_method_2_code 274 = .ok (.aload_n 0, 1) := by decide +kernel
theorem d_add_275 : decode prog_87_method_2_code 275 = .ok (.getfield 34, 3) := by decide +kernel
theorem d_add_278 : decode prog_87_method_2_code 278 = .ok (.iload 5, 2) := by decide +kernel
theorem d_add_280 : decode prog_87_method_2_code 280 = .ok (.iload 14, 2) := by decide +kernel
theorem d_add_282 : decode prog_87_method_2_code 282 = .ok (.iadd, 1) := by decide +kernel
theorem d_add_283 : decode prog_87_method_2_code 283 = .ok (.iload 8, 2) := by decide +kernel
theorem d_add_285 : decode prog_87_method_2_code 285 = .ok (.aload_n 1, 1) := by decide +kernel
theorem d_add_286 : decode prog_87_method_2_code 286 = .ok (.getfield 87, 3) := by decide +kernel
theorem d_add_289 : decode prog_87_method_2_code 289 = .ok (.iload 14, 2) := by decide +kernel
theorem d_add_291 : decode prog_87_method_2_code 291 = .ok (.iaload, 1) := by decide +kernel
theorem d_add_292 : decode prog_87_method_2_code 292 = .ok (.iadd, 1) := by decide +kernel
theorem d_add_293 : decode prog_87_method_2_code 293 = .ok (.iastore, 1) := by decide +kernel
theorem d_add_294 : decode prog_87_method_2_code 294 = .ok (.aload_n 0, 1) := by decide +kernel
theorem d_add_295 : decode prog_87_method_2_code 295 = .ok (.getfield 37, 3) := by decide +kernel
theorem d_add_298 : decode prog_87_method_2_code 298 = .ok (.iload 5, 2) := by decide +kernel
theorem d_add_300 : decode prog_87_method_2_code 300 = .ok (.iload 14, 2) := by decide +kernel
theorem d_add_302 : decode prog_87_method_2_code 302 = .ok (.iadd, 1) := by decide +kernel
theorem d_add_303 : decode prog_87_method_2_code 303 = .ok (.iload 9, 2) := by decide +kernel
theorem d_add_305 : decode prog_87_method_2_code 305 = .ok (.aload_n 1, 1) := by decide +kernel
theorem d_add_306 : decode prog_87_method_2_code 306 = .ok (.getfield 88, 3) := by decide +kernel
theorem d_add_309 : decode prog_87_method_2_code 309 = .ok (.iload 14, 2) := by decide +kernel
theorem d_add_311 : decode prog_87_method_2_code 311 = .ok (.iaload, 1) := by decide +kernel
theorem d_add_312 : decode prog_87_method_2_code 312 = .ok (.iadd, 1) := by decide +kernel
theorem d_add_313 : decode prog_87_method_2_code 313 = .ok (.iastore, 1) := by decide +kernel
theorem d_add_314 : decode prog_87_method_2_code 314 = .ok (.iinc 14 1, 3) := by decide +kernel
theorem d_add_317 : decode prog_87_method_2_code 317 = .ok (.goto (-70), 3) := by decide +kernel
theorem d_add_320 : decode prog_87_method_2_code 320 = .ok (.aload_n 0, 1) := by decide +kernel
theorem d_add_321 : decode prog_87_method_2_code 321 = .ok (.getfield 31, 3) := by decide +kernel
theorem d_add_324 : decode prog_87_method_2_code 324 = .ok (.iload 5, 2) := by decide +kernel
theorem d_add_326 : decode prog_87_method_2_code 326 = .ok (.iload 6, 2) := by decide +kernel
theorem d_add_328 : decode prog_87_method_2_code 328 = .ok (.iadd, 1) := by decide +kernel
theorem d_add_329 : decode prog_87_method_2_code 329 = .ok (.iload 7, 2) := by decide +kernel
theorem d_add_331 : decode prog_87_method_2_code 331 = .ok (.aload_n 1, 1) := by decide +kernel
theorem d_add_332 : decode prog_87_method_2_code 332 = .ok (.getfield 73, 3) := by decide +kernel
theorem d_add_335 : decode prog_87_method_2_code 335 = .ok (.iadd, 1) := by decide +kernel
theorem d_add_336 : decode prog_87_method_2_code 336 = .ok (.iastore, 1) := by decide +kernel
theorem d_add_337 : decode prog_87_method_2_code 337 = .ok (.aload_n 0, 1) := by decide +kernel
theorem d_add_338 : decode prog_87_method_2_code 338 = .ok (.getfield 34, 3) := by decide +kernel
theorem d_add_341 : decode prog_87_method_2_code 341 = .ok (.iload 5, 2) := by decide +kernel
theorem d_add_343 : decode prog_87_method_2_code 343 = .ok (.iload 6, 2) := by decide +kernel
theorem d_add_345 : decode prog_87_method_2_code 345 = .ok (.iadd, 1) := by decide +kernel
theorem d_add_346 : decode prog_87_method_2_code 346 = .ok (.iload 8, 2) := by decide +kernel
theorem d_add_348 : decode prog_87_method_2_code 348 = .ok (.aload_n 1, 1) := by decide +kernel
theorem d_add_349 : decode prog_87_method_2_code 349 = .ok (.getfield 76, 3) := by decide +kernel
theorem d_add_352 : decode prog_87_method_2_code 352 = .ok (.iadd, 1) := by decide +kernel
theorem d_add_353 : decode prog_87_method_2_code 353 = .ok (.iastore, 1) := by decide +kernel
theorem d_add_354 : decode prog_87_method_2_code 354 = .ok (.aload_n 0, 1) := by decide +kernel
theorem d_add_355 : decode prog_87_method_2_code 355 = .ok (.getfield 37, 3) := by decide +kernel
theorem d_add_358 : decode prog_87_method_2_code 358 = .ok (.iload 5, 2) := by decide +kernel
theorem d_add_360 : decode prog_87_method_2_code 360 = .ok (.iload 6, 2) := by decide +kernel
theorem d_add_362 : decode prog_87_method_2_code 362 = .ok (.iadd, 1) := by decide +kernel
theorem d_add_363 : decode prog_87_method_2_code 363 = .ok (.iload 9, 2) := by decide +kernel
theorem d_add_365 : decode prog_87_method_2_code 365 = .ok (.aload_n 1, 1) := by decide +kernel
theorem d_add_366 : decode prog_87_method_2_code 366 = .ok (.getfield 79, 3) := by decide +kernel
theorem d_add_369 : decode prog_87_method_2_code 369 = .ok (.iadd, 1) := by decide +kernel
theorem d_add_370 : decode prog_87_method_2_code 370 = .ok (.iastore, 1) := by decide +kernel
theorem d_add_371 : decode prog_87_method_2_code 371 = .ok (.aload_n 1, 1) := by decide +kernel
theorem d_add_372 : decode prog_87_method_2_code 372 = .ok (.getfield 89, 3) := by decide +kernel
theorem d_add_375 : decode prog_87_method_2_code 375 = .ok (.iconst 0, 1) := by decide +kernel
theorem d_add_376 : decode prog_87_method_2_code 376 = .ok (.aload_n 0, 1) := by decide +kernel
theorem d_add_377 : decode prog_87_method_2_code 377 = .ok (.getfield 40, 3) := by decide +kernel
theorem d_add_380 : decode prog_87_method_2_code 380 = .ok (.iload 7, 2) := by decide +kernel
theorem d_add_382 : decode prog_87_method_2_code 382 = .ok (.aload_n 1, 1) := by decide +kernel
theorem d_add_383 : decode prog_87_method_2_code 383 = .ok (.getfield 73, 3) := by decide +kernel
theorem d_add_386 : decode prog_87_method_2_code 386 = .ok (.invokestatic 90, 3) := by decide +kernel
theorem d_add_389 : decode prog_87_method_2_code 389 = .ok (.aload_n 1, 1) := by decide +kernel
theorem d_add_390 : decode prog_87_method_2_code 390 = .ok (.getfield 96, 3) := by decide +kernel
theorem d_add_393 : decode prog_87_method_2_code 393 = .ok (.iconst 0, 1) := by decide +kernel
theorem d_add_394 : decode prog_87_method_2_code 394 = .ok (.aload_n 0, 1) := by decide +kernel
theorem d_add_395 : decode prog_87_method_2_code 395 = .ok (.getfield 43, 3) := by decide +kernel
theorem d_add_398 : decode prog_87_method_2_code 398 = .ok (.iload 8, 2) := by decide +kernel
theorem d_add_400 : decode prog_87_method_2_code 400 = .ok (.aload_n 1, 1) := by decide +kernel
theorem d_add_401 : decode prog_87_method_2_code 401 = .ok (.getfield 76, 3) := by decide +kernel
theorem d_add_404 : decode prog_87_method_2_code 404 = .ok (.invokestatic 90, 3) := by decide +kernel
theorem d_add_407 : decode prog_87_method_2_code 407 = .ok (.aload_n 1, 1) := by decide +kernel
theorem d_add_408 : decode prog_87_method_2_code 408 = .ok (.getfield 97, 3) := by decide +kernel
theorem d_add_411 : decode prog_87_method_2_code 411 = .ok (.iconst 0, 1) := by decide +kernel
theorem d_add_412 : decode prog_87_method_2_code 412 = .ok (.aload_n 0, 1) := by decide +kernel
theorem d_add_413 : decode prog_87_method_2_code 413 = .ok (.getfield 46, 3) := by decide +kernel
theorem d_add_416 : decode prog_87_method_2_code 416 = .ok (.iload 9, 2) := by decide +kernel
theorem d_add_418 : decode prog_87_method_2_code 418 = .ok (.aload_n 1, 1) := by decide +kernel
theorem d_add_419 : decode prog_87_method_2_code 419 = .ok (.getfield 79, 3) := by decide +kernel
theorem d_add_422 : decode prog_87_method_2_code 422 = .ok (.invokestatic 90, 3) := by decide +kernel
theorem d_add_425 : decode prog_87_method_2_code 425 = .ok (.aload_n 1, 1) := by decide +kernel
theorem d_add_426 : decode prog_87_method_2_code 426 = .ok (.getfield 62, 3) := by decide +kernel
theorem d_add_429 : decode prog_87_method_2_code 429 = .ok (.ifnull 22, 3) := by decide +kernel
theorem d_add_451 : decode prog_87_method_2_code 451 = .ok (.aload_n 2, 1) := by decide +kernel
theorem d_add_452 : decode prog_87_method_2_code 452 = .ok (.iconst 0, 1) := by decide +kernel
theorem d_add_453 : decode prog_87_method_2_code 453 = .ok (.aload_n 0, 1) := by decide +kernel
theorem d_add_454 : decode prog_87_method_2_code 454 = .ok (.getfield 13, 3) := by decide +kernel
theorem d_add_457 : decode prog_87_method_2_code 457 = .ok (.iload 12, 2) := by decide +kernel
theorem d_add_459 : decode prog_87_method_2_code 459 = .ok (.aload_n 2, 1) := by decide +kernel
theorem d_add_460 : decode prog_87_method_2_code 460 = .ok (.arraylength, 1) := by decide +kernel
theorem d_add_461 : decode prog_87_method_2_code 461 = .ok (.invokestatic 90, 3) := by decide +kernel
theorem d_add_464 : decode prog_87_method_2_code 464 = .ok (.aload_n 0, 1) := by decide +kernel
theorem d_add_465 : decode prog_87_method_2_code 465 = .ok (.getfield 16, 3) := by decide +kernel
theorem d_add_468 : decode prog_87_method_2_code 468 = .ok (.iload 4, 2) := by decide +kernel
theorem d_add_470 : decode prog_87_method_2_code 470 = .ok (.iload_n 3, 1) := by decide +kernel
theorem d_add_471 : decode prog_87_method_2_code 471 = .ok (.iastore, 1) := by decide +kernel
theorem d_add_472 : decode prog_87_method_2_code 472 = .ok (.aload_n 0, 1) := by decide +kernel
theorem d_add_473 : decode prog_87_method_2_code 473 = .ok (.getfield 25, 3) := by decide +kernel
theorem d_add_476 : decode prog_87_method_2_code 476 = .ok (.iload 4, 2) := by decide +kernel
theorem d_add_478 : decode prog_87_method_2_code 478 = .ok (.aload_n 1, 1) := by decide +kernel
theorem d_add_479 : decode prog_87_method_2_code 479 = .ok (.getfield 62, 3) := by decide +kernel
theorem d_add_482 : decode prog_87_method_2_code 482 = .ok (.ifnonnull 7, 3) := by decide +kernel
theorem d_add_485 : decode prog_87_method_2_code 485 = .ok (.iconst (-1), 1) := by decide +kernel
theorem d_add_486 : decode prog_87_method_2_code 486 = .ok (.goto 8, 3) := by decide +kernel
theorem d_add_494 : decode prog_87_method_2_code 494 = .ok (.iastore, 1) := by decide +kernel
theorem d_add_495 : decode prog_87_method_2_code 495 = .ok (.aload_n 0, 1) := by decide +kernel
theorem d_add_496 : decode prog_87_method_2_code 496 = .ok (.getfield 19, 3) := by decide +kernel
theorem d_add_499 : decode prog_87_method_2_code 499 = .ok (.iload 4, 2) := by decide +kernel
theorem d_add_501 : decode prog_87_method_2_code 501 = .ok (.iconst 1, 1) := by decide +kernel
theorem d_add_502 : decode prog_87_method_2_code 502 = .ok (.iadd, 1) := by decide +kernel
theorem d_add_503 : decode prog_87_method_2_code 503 = .ok (.iload 5, 2) := by decide +kernel
theorem d_add_505 : decode prog_87_method_2_code 505 = .ok (.iload 6, 2) := by decide +kernel
theorem d_add_507 : decode prog_87_method_2_code 507 = .ok (.iadd, 1) := by decide +kernel
theorem d_add_508 : decode prog_87_method_2_code 508 = .ok (.iastore, 1) := by decide +kernel
theorem d_add_509 : decode prog_87_method_2_code 509 = .ok (.aload_n 0, 1) := by decide +kernel
theorem d_add_510 : decode prog_87_method_2_code 510 = .ok (.getfield 22, 3) := by decide +kernel
theorem d_add_513 : decode prog_87_method_2_code 513 = .ok (.iload 4, 2) := by decide +kernel
theorem d_add_515 : decode prog_87_method_2_code 515 = .ok (.iconst 1, 1) := by decide +kernel
theorem d_add_516 : decode prog_87_method_2_code 516 = .ok (.iadd, 1) := by decide +kernel
theorem d_add_517 : decode prog_87_method_2_code 517 = .ok (.iload 11, 2) := by decide +kernel
theorem d_add_519 : decode prog_87_method_2_code 519 = .ok (.iastore, 1) := by decide +kernel
theorem d_add_520 : decode prog_87_method_2_code 520 = .ok (.aload_n 0, 1) := by decide +kernel
theorem d_add_521 : decode prog_87_method_2_code 521 = .ok (.getfield 28, 3) := by decide +kernel
theorem d_add_524 : decode prog_87_method_2_code 524 = .ok (.iload 4, 2) := by decide +kernel
theorem d_add_526 : decode prog_87_method_2_code 526 = .ok (.iconst 1, 1) := by decide +kernel
theorem d_add_527 : decode prog_87_method_2_code 527 = .ok (.iadd, 1) := by decide +kernel
theorem d_add_528 : decode prog_87_method_2_code 528 = .ok (.iload 12, 2) := by decide +kernel
theorem d_add_530 : decode prog_87_method_2_code 530 = .ok (.aload_n 2, 1) := by decide +kernel
theorem d_add_531 : decode prog_87_method_2_code 531 = .ok (.arraylength, 1) := by decide +kernel
theorem d_add_532 : decode prog_87_method_2_code 532 = .ok (.iadd, 1) := by decide +kernel
theorem d_add_533 : decode prog_87_method_2_code 533 = .ok (.iastore, 1) := by decide +kernel
theorem d_add_534 : decode prog_87_method_2_code 534 = .ok (.aload_n 0, 1) := by decide +kernel
theorem d_add_535 : decode prog_87_method_2_code 535 = .ok (.dup, 1) := by decide +kernel
theorem d_add_536 : decode prog_87_method_2_code 536 = .ok (.getfield 53, 3) := by decide +kernel
theorem d_add_539 : decode prog_87_method_2_code 539 = .ok (.iconst 1, 1) := by decide +kernel
theorem d_add_540 : decode prog_87_method_2_code 540 = .ok (.iadd, 1) := by decide +kernel
theorem d_add_541 : decode prog_87_method_2_code 541 = .ok (.putfield 53, 3) := by decide +kernel
theorem d_add_544 : decode prog_87_method_2_code 544 = .ok (.iload 13, 2) := by decide +kernel
theorem d_add_546 : decode prog_87_method_2_code 546 = .ok (.ifCond .eq 37, 3) := by decide +kernel
theorem d_add_549 : decode prog_87_method_2_code 549 = .ok (.aload_n 1, 1) := by decide +kernel
theorem d_add_550 : decode prog_87_method_2_code 550 = .ok (.getfield 98, 3) := by decide +kernel
theorem d_add_553 : decode prog_87_method_2_code 553 = .ok (.iconst 0, 1) := by decide +kernel
theorem d_add_554 : decode prog_87_method_2_code 554 = .ok (.aload_n 0, 1) := by decide +kernel
theorem d_add_555 : decode prog_87_method_2_code 555 = .ok (.getfield 49, 3) := by decide +kernel
theorem d_add_558 : decode prog_87_method_2_code 558 = .ok (.iload 9, 2) := by decide +kernel
theorem d_add_560 : decode prog_87_method_2_code 560 = .ok (.aload_n 1, 1) := by decide +kernel
theorem d_add_561 : decode prog_87_method_2_code 561 = .ok (.getfield 79, 3) := by decide +kernel
theorem d_add_564 : decode prog_87_method_2_code 564 = .ok (.invokestatic 90, 3) := by decide +kernel
theorem d_add_567 : decode prog_87_method_2_code 567 = .ok (.aload_n 0, 1) := by decide +kernel
theorem d_add_568 : decode prog_87_method_2_code 568 = .ok (.dup, 1) := by decide +kernel
theorem d_add_569 : decode prog_87_method_2_code 569 = .ok (.getfield 99, 3) := by decide +kernel
theorem d_add_572 : decode prog_87_method_2_code 572 = .ok (.dup_x1, 1) := by decide +kernel
theorem d_add_573 : decode prog_87_method_2_code 573 = .ok (.iconst 1, 1) := by decide +kernel
theorem d_add_574 : decode prog_87_method_2_code 574 = .ok (.iadd, 1) := by decide +kernel
theorem d_add_575 : decode prog_87_method_2_code 575 = .ok (.putfield 99, 3) := by decide +kernel
theorem d_add_578 : decode prog_87_method_2_code 578 = .ok (.istore 14, 2) := by decide +kernel
theorem d_add_580 : decode prog_87_method_2_code 580 = .ok (.goto 57, 3) := by decide +kernel
theorem d_add_637 : decode prog_87_method_2_code 637 = .ok (.iload 14, 2) := by decide +kernel
theorem d_add_639 : decode prog_87_method_2_code 639 = .ok (.ireturn, 1) := by decide +kernel
theorem ef_rmADA (m : MethodId) (r ks rgs ns fch fk kl frg fac fcm ftr acs cms sus prb : Addr) (b fa ac fc cm ft su pr : Addr) (no : Addr) (cq n x0 x1 : Nat) (g_ks g_rgs g_ns g_fch g_fk g_kl g_frg g_fac g_fcm g_ftr g_acs g_cms g_sus g_prb : Nat → Value) (f1 f2 f3 f4 f5 f6 f7 f8 : Nat → Value) : entryFrame m #[(.ref r), (.ref b), (.ref no), (.int (-1 : Int32))] 15 = mkF m 0 #[.val (.ref r), .val (.ref b), .val (.ref no), .val (.int (-1 : Int32)), .unset, .unset, .unset, .unset, .unset, .unset, .unset, .unset, .unset, .unset, .unset] [] := by first | (simp [entryFrame, mkF, argsToLocals, Value.category]; done) | rfl
def QrmADA (Z : State) (r ks rgs ns fch fk kl frg fac fcm ftr acs cms sus prb : Addr) (b fa ac fc cm ft su pr : Addr) (no : Addr) (cq n x0 x1 : Nat) (g_ks g_rgs g_ns g_fch g_fk g_kl g_frg g_fac g_fcm g_ftr g_acs g_cms g_sus g_prb : Nat → Value) (f1 f2 f3 f4 f5 f6 f7 f8 : Nat → Value) (Rr : List (Addr × (Cell → Prop))) (n0 : Nat) (v : Option Value) (h : Heap) (L : List Loc) : Prop := v = some (.int (0 : Int32)) ∧ Fr n0 L ∧ Wo n0 h ((r, oR Z [(kR ks), (kR rgs), (kR ns), (kR fch), (kR fk), (kR kl), (kR frg), (kR fac), (kR fcm), (kR ftr), (kR acs), (kR cms), (kR sus), (kR prb), (kI 1), .null, (kI 1)]) :: (b, oB Z [.null, (kI 0), .null, (kI 0), (kR fa), (kR ac), (kR fc), (kR cm), (kR ft), (kR su), (kR pr), (kI 2), (kI 0), (kI (Int32.ofNat cq)), (kI 0), .null]) :: (ks, Ar Z .int 0 g_ks) :: (rgs, Ar Z .int 0 (cpy f8 g_rgs 0 0 0)) :: (ns, Ar Z .int 16 (upd g_ns 0 (kI (-1)))) :: (fch, Ar Z .int 17 (upd g_fch 1 (kI 2))) :: (fk, Ar Z .int 17 (upd g_fk 1 (kI 0))) :: (kl, Ar Z .int 16 (upd g_kl 0 (kI (-1)))) :: (frg, Ar Z .int 17 (upd g_frg 1 (kI 0))) :: (fac, Ar Z .int 17 (upd (upd (upd g_fac 0 (kI 0)) 1 (kI 0)) 2 (kI 0))) :: (fcm, Ar Z .int 17 (upd (upd (upd g_fcm 0 (kI (Int32.ofNat x0))) 1 (kI (Int32.ofNat x1))) 2 (kI (Int32.ofNat cq)))) :: (ftr, Ar Z .int 17 (upd (upd (upd g_ftr 0 (kI 0)) 1 (kI 0)) 2 (kI 0))) :: (acs, Ar Z .int 16 (cpy f4 g_acs 0 0 0)) :: (cms, Ar Z .int 16 (cpy f5 g_cms 0 0 cq)) :: (sus, Ar Z .int 64 (cpy f6 g_sus 0 0 0)) :: (prb, Ar Z .double 64 (cpy f7 g_prb 0 0 0)) :: (fa, Ar Z .int 2 f1) :: (fc, Ar Z .int 2 f2) :: (ft, Ar Z .int 2 f3) :: (ac, Ar Z .int 2 f4) :: (cm, Ar Z .int n f5) :: (su, Ar Z .int 4 f6) :: (pr, Ar Z .double 4 f7) :: (no, Ar Z .int 0 f8) :: Rr)
set_option maxRecDepth 65536 in
set_option maxHeartbeats 40000000 in
theorem rmADA (l : Launch) (Z : State) (a0 : Array Value) (hw : ∀ d ∈ tables_1, d.before a0 Z = true) (ws : List Jvm.Cond) (r ks rgs ns fch fk kl frg fac fcm ftr acs cms sus prb : Addr) (b fa ac fc cm ft su pr : Addr) (no : Addr) (cq n x0 x1 : Nat) (g_ks g_rgs g_ns g_fch g_fk g_kl g_frg g_fac g_fcm g_ftr g_acs g_cms g_sus g_prb : Nat → Value) (f1 f2 f3 f4 f5 f6 f7 f8 : Nat → Value) (Rr : List (Addr × (Cell → Prop))) (h0 : Heap) (n0 : Nat) (W0 : Wo n0 h0 ((r, oR Z [(kR ks), (kR rgs), (kR ns), (kR fch), (kR fk), (kR kl), (kR frg), (kR fac), (kR fcm), (kR ftr), (kR acs), (kR cms), (kR sus), (kR prb), (kI 0), .null, (kI 0)]) :: (b, oB Z [.null, (kI 0), .null, (kI 0), (kR fa), (kR ac), (kR fc), (kR cm), (kR ft), (kR su), (kR pr), (kI 2), (kI 0), (kI (Int32.ofNat cq)), (kI 0), .null]) :: (ks, Ar Z .int 0 g_ks) :: (rgs, Ar Z .int 0 g_rgs) :: (ns, Ar Z .int 16 g_ns) :: (fch, Ar Z .int 17 g_fch) :: (fk, Ar Z .int 17 g_fk) :: (kl, Ar Z .int 16 g_kl) :: (frg, Ar Z .int 17 g_frg) :: (fac, Ar Z .int 17 g_fac) :: (fcm, Ar Z .int 17 g_fcm) :: (ftr, Ar Z .int 17 g_ftr) :: (acs, Ar Z .int 16 g_acs) :: (cms, Ar Z .int 16 g_cms) :: (sus, Ar Z .int 64 g_sus) :: (prb, Ar Z .double 64 g_prb) :: (fa, Ar Z .int 2 f1) :: (fc, Ar Z .int 2 f2) :: (ft, Ar Z .int 2 f3) :: (ac, Ar Z .int 2 f4) :: (cm, Ar Z .int n f5) :: (su, Ar Z .int 4 f6) :: (pr, Ar Z .double 4 f7) :: (no, Ar Z .int 0 f8) :: Rr)) (hcn : cq ≤ n) (hct : cq ≤ 16) (h_fch : g_fch 0 = (.int (0 : Int32))) (h_fk : g_fk 0 = (.int (0 : Int32))) (h_frg : g_frg 0 = (.int (0 : Int32))) (h_fac : g_fac 0 = (.int (0 : Int32))) (h_fcm : g_fcm 0 = (.int (0 : Int32))) (h_ftr : g_ftr 0 = (.int (0 : Int32))) (h_f1_0 : f1 0 = .int 0) (h_f2_0 : f2 0 = .int (Int32.ofNat x0)) (h_f3_0 : f3 0 = .int 0) (h_f1_1 : f1 1 = .int 0) (h_f2_1 : f2 1 = .int (Int32.ofNat x1)) (h_f3_1 : f3 1 = .int 0) :
    MetFree l (⟨"com/example/sambre/sambre/engine/Rows", "add", "(Lcom/example/sambre/sambre/engine/Rows$Builder;[II)I"⟩ : MethodName) (head1 (Jvm.Cond.code (⟨"com/example/sambre/sambre/engine/Rows", "add", "(Lcom/example/sambre/sambre/engine/Rows$Builder;[II)I"⟩ : MethodName) prog_87_method_2_code 15 (some .int) :: ws) ({ frames := 1, cells := 0, slots := 0, locals := 18 } : Room)) (fun aa U => aa = #[(.ref r), (.ref b), (.ref no), (.int (-1 : Int32))] ∧ Z.Warmed39 U.vm ∧ U.heap = h0) (fun _ _ _ _ _ => True) (fun _ U ou U' => ∃ v L, ou = .returned v ∧ QrmADA Z r ks rgs ns fch fk kl frg fac fcm ftr acs cms sus prb b fa ac fc cm ft su pr no cq n x0 x1 g_ks g_rgs g_ns g_fch g_fk g_kl g_frg g_fac g_fcm g_ftr g_acs g_cms g_sus g_prb f1 f2 f3 f4 f5 f6 f7 f8 Rr n0 v U'.heap L ∧ FrameEnd U ou U' L ({ frames := 1, cells := 0, slots := 0, locals := 18 } : Room).cells ({ frames := 1, cells := 0, slots := 0, locals := 18 } : Room).slots) := by
  refine MetFree.of_bodySF (plainFor_of_name pn_Rows) hisR ?_
  intro p e s m args below meth c s₁ Bd hml0 hP hK
  obtain ⟨rfl, hZ, hh⟩ := hP
  have hx := Bd.exec
  have hby := Bd.bytes
  have hml : c.maxLocals = 15 := hml0
  have hown : s.vm.findClass "com/example/sambre/sambre/engine/Rows" = some m.cls := findClass_of_methodNamed Bd.named
  have hnm := (name_of_methodNamed Bd.named Bd.method).1
  have X0 : Stand p l e ({ frames := 1, cells := 0, slots := 0, locals := 18 } : Room) s m #[(.ref r), (.ref b), (.ref no), (.int (-1 : Int32))] below meth c s₁ [] 0 0 := Stand.of_body Bd
  have e0 : s₁.heap = h0 := by rw [← hh, Bd.state]; rfl
  have N0 := Fr.nil n0
  obtain ⟨F0, hF0⟩ : ∃ F, F = mkF m 0 #[.val (.ref r), .val (.ref b), .val (.ref no), .val (.int (-1 : Int32)), .unset, .unset, .unset, .unset, .unset, .unset, .unset, .unset, .unset, .unset, .unset] [] := ⟨_, rfl⟩
  have pre0 : ∀ t, Steps p.tables e below (s₁.setTop F0) t → Steps p.tables e below (s₁.setTop (entryFrame m #[(.ref r), (.ref b), (.ref no), (.int (-1 : Int32))] 15)) t := fun t k => castTop ((ef_rmADA m r ks rgs ns fch fk kl frg fac fcm ftr acs cms sus prb b fa ac fc cm ft su pr no cq n x0 x1 g_ks g_rgs g_ns g_fch g_fk g_kl g_frg g_fac g_fcm g_ftr g_acs g_cms g_sus g_prb f1 f2 f3 f4 f5 f6 f7 f8).trans hF0.symm) k
  have K0 : Rch p e below s₁ F0 s₁ (mkF m 0 #[.val (.ref r), .val (.ref b), .val (.ref no), .val (.int (-1 : Int32)), .unset, .unset, .unset, .unset, .unset, .unset, .unset, .unset, .unset, .unset, .unset] []) := fun t k => castTop hF0 k
  have K1 : Rch p e below s₁ F0 s₁ (mkF m 1 #[sR r, sR b, sR no, sI (-1), sU, sU, sU, sU, sU, sU, sU, sU, sU, sU, sU] [(kR r)]) := fun t k => K0 t (XS.aloadN X0.here hx rfl (hb hby d_add_0) rfl rfl k)
  obtain ⟨T2, X2, e2, st2⟩ := getF X0 hx hZ hown (host := "") (Or.inl (hw _ (mi 108 rfl))) Via.refl e0 (W0.fld (i := 0) rfl (j := 14) rfl rfl) (g := K1.g) rfl rfl (hb hby d_add_1)
  have K3 : Rch p e below s₁ F0 T2 (mkF m 7 #[sR r, sR b, sR no, sI (-1), sI 0, sU, sU, sU, sU, sU, sU, sU, sU, sU, sU] [(kR r)]) := fun t k => K1 t (st2 t (by
    refine XS.istore X2.here hx rfl (hb hby d_add_4) rfl (l' := #[sR r, sR b, sR no, sI (-1), sI 0, sU, sU, sU, sU, sU, sU, sU, sU, sU, sU]) rfl ?_
    refine XS.aloadN X2.here hx rfl (hb hby d_add_6) rfl rfl ?_
    exact k))
  obtain ⟨T4, X4, e4, st4⟩ := getF X2 hx hZ hown (host := "") (Or.inl (hw _ (mi 23 rfl))) Via.refl e2 (W0.fld (i := 0) rfl (j := 3) rfl rfl) (g := K3.g) rfl rfl (hb hby d_add_7)
  have K5 : Rch p e below s₁ F0 T4 (mkF m 16 #[sR r, sR b, sR no, sI (-1), sI 0, sI 0, sU, sU, sU, sU, sU, sU, sU, sU, sU] [(kR b)]) := fun t k => K3 t (st4 t (by
    refine XS.iload X4.here hx rfl (hb hby d_add_10) rfl ?_
    refine ialW X4 hx hZ e4 W0 (i := 5) rfl (j := (0 : Int32)) (k := 0) (by decide) (by decide) (by decide) (v := (.int (0 : Int32))) h_fch (g := (mkF m 12 #[sR r, sR b, sR no, sI (-1), sI 0, sU, sU, sU, sU, sU, sU, sU, sU, sU, sU] [(kI 0), (kR fch)])) rfl rfl (hb hby d_add_12) _ ?_
    refine XS.istore X4.here hx rfl (hb hby d_add_13) rfl (l' := #[sR r, sR b, sR no, sI (-1), sI 0, sI 0, sU, sU, sU, sU, sU, sU, sU, sU, sU]) rfl ?_
    refine XS.aloadN X4.here hx rfl (hb hby d_add_15) rfl rfl ?_
    exact k))
  obtain ⟨T6, X6, e6, st6⟩ := getR X4 hx hZ hown (hw _ (mi 110 rfl)) e4 (W0.fld (i := 1) rfl (j := 11) rfl rfl) (g := K5.g) rfl rfl (hb hby d_add_16)
  have K7 : Rch p e below s₁ F0 T6 (mkF m 22 #[sR r, sR b, sR no, sI (-1), sI 0, sI 0, sI 2, sU, sU, sU, sU, sU, sU, sU, sU] [(kR r)]) := fun t k => K5 t (st6 t (by
    refine XS.istore X6.here hx rfl (hb hby d_add_19) rfl (l' := #[sR r, sR b, sR no, sI (-1), sI 0, sI 0, sI 2, sU, sU, sU, sU, sU, sU, sU, sU]) rfl ?_
    refine XS.aloadN X6.here hx rfl (hb hby d_add_21) rfl rfl ?_
    exact k))
  obtain ⟨T8, X8, e8, st8⟩ := getF X6 hx hZ hown (host := "") (Or.inl (hw _ (mi 31 rfl))) Via.refl e6 (W0.fld (i := 0) rfl (j := 7) rfl rfl) (g := K7.g) rfl rfl (hb hby d_add_22)
  have K9 : Rch p e below s₁ F0 T8 (mkF m 31 #[sR r, sR b, sR no, sI (-1), sI 0, sI 0, sI 2, sI 0, sU, sU, sU, sU, sU, sU, sU] [(kR r)]) := fun t k => K7 t (st8 t (by
    refine XS.iload X8.here hx rfl (hb hby d_add_25) rfl ?_
    refine ialW X8 hx hZ e8 W0 (i := 9) rfl (j := (0 : Int32)) (k := 0) (by decide) (by decide) (by decide) (v := (.int (0 : Int32))) h_fac (g := (mkF m 27 #[sR r, sR b, sR no, sI (-1), sI 0, sI 0, sI 2, sU, sU, sU, sU, sU, sU, sU, sU] [(kI 0), (kR fac)])) rfl rfl (hb hby d_add_27) _ ?_
    refine XS.istore X8.here hx rfl (hb hby d_add_28) rfl (l' := #[sR r, sR b, sR no, sI (-1), sI 0, sI 0, sI 2, sI 0, sU, sU, sU, sU, sU, sU, sU]) rfl ?_
    refine XS.aloadN X8.here hx rfl (hb hby d_add_30) rfl rfl ?_
    exact k))
  obtain ⟨T10, X10, e10, st10⟩ := getF X8 hx hZ hown (host := "") (Or.inl (hw _ (mi 33 rfl))) Via.refl e8 (W0.fld (i := 0) rfl (j := 8) rfl rfl) (g := K9.g) rfl rfl (hb hby d_add_31)
  have K11 : Rch p e below s₁ F0 T10 (mkF m 40 #[sR r, sR b, sR no, sI (-1), sI 0, sI 0, sI 2, sI 0, sI 0, sU, sU, sU, sU, sU, sU] [(kR r)]) := fun t k => K9 t (st10 t (by
    refine XS.iload X10.here hx rfl (hb hby d_add_34) rfl ?_
    refine ialW X10 hx hZ e10 W0 (i := 10) rfl (j := (0 : Int32)) (k := 0) (by decide) (by decide) (by decide) (v := (.int (0 : Int32))) h_fcm (g := (mkF m 36 #[sR r, sR b, sR no, sI (-1), sI 0, sI 0, sI 2, sI 0, sU, sU, sU, sU, sU, sU, sU] [(kI 0), (kR fcm)])) rfl rfl (hb hby d_add_36) _ ?_
    refine XS.istore X10.here hx rfl (hb hby d_add_37) rfl (l' := #[sR r, sR b, sR no, sI (-1), sI 0, sI 0, sI 2, sI 0, sI 0, sU, sU, sU, sU, sU, sU]) rfl ?_
    refine XS.aloadN X10.here hx rfl (hb hby d_add_39) rfl rfl ?_
    exact k))
  obtain ⟨T12, X12, e12, st12⟩ := getF X10 hx hZ hown (host := "") (Or.inl (hw _ (mi 35 rfl))) Via.refl e10 (W0.fld (i := 0) rfl (j := 9) rfl rfl) (g := K11.g) rfl rfl (hb hby d_add_40)
  have K13 : Rch p e below s₁ F0 T12 (mkF m 49 #[sR r, sR b, sR no, sI (-1), sI 0, sI 0, sI 2, sI 0, sI 0, sI 0, sU, sU, sU, sU, sU] [(kR r)]) := fun t k => K11 t (st12 t (by
    refine XS.iload X12.here hx rfl (hb hby d_add_43) rfl ?_
    refine ialW X12 hx hZ e12 W0 (i := 11) rfl (j := (0 : Int32)) (k := 0) (by decide) (by decide) (by decide) (v := (.int (0 : Int32))) h_ftr (g := (mkF m 45 #[sR r, sR b, sR no, sI (-1), sI 0, sI 0, sI 2, sI 0, sI 0, sU, sU, sU, sU, sU, sU] [(kI 0), (kR ftr)])) rfl rfl (hb hby d_add_45) _ ?_
    refine XS.istore X12.here hx rfl (hb hby d_add_46) rfl (l' := #[sR r, sR b, sR no, sI (-1), sI 0, sI 0, sI 2, sI 0, sI 0, sI 0, sU, sU, sU, sU, sU]) rfl ?_
    refine XS.aloadN X12.here hx rfl (hb hby d_add_48) rfl rfl ?_
    exact k))
  obtain ⟨T14, X14, e14, st14⟩ := getF X12 hx hZ hown (host := "") (Or.inl (hw _ (mi 25 rfl))) Via.refl e12 (W0.fld (i := 0) rfl (j := 4) rfl rfl) (g := K13.g) rfl rfl (hb hby d_add_49)
  have K15 : Rch p e below s₁ F0 T14 (mkF m 60 #[sR r, sR b, sR no, sI (-1), sI 0, sI 0, sI 2, sI 0, sI 0, sI 0, sI 0, sU, sU, sU, sU] [(kR b), (kI 0)]) := fun t k => K13 t (st14 t (by
    refine XS.iload X14.here hx rfl (hb hby d_add_52) rfl ?_
    refine ialW X14 hx hZ e14 W0 (i := 6) rfl (j := (0 : Int32)) (k := 0) (by decide) (by decide) (by decide) (v := (.int (0 : Int32))) h_fk (g := (mkF m 54 #[sR r, sR b, sR no, sI (-1), sI 0, sI 0, sI 2, sI 0, sI 0, sI 0, sU, sU, sU, sU, sU] [(kI 0), (kR fk)])) rfl rfl (hb hby d_add_54) _ ?_
    refine XS.istore X14.here hx rfl (hb hby d_add_55) rfl (l' := #[sR r, sR b, sR no, sI (-1), sI 0, sI 0, sI 2, sI 0, sI 0, sI 0, sI 0, sU, sU, sU, sU]) rfl ?_
    refine XS.iload X14.here hx rfl (hb hby d_add_57) rfl ?_
    refine XS.aloadN X14.here hx rfl (hb hby d_add_59) rfl rfl ?_
    exact k))
  obtain ⟨T16, X16, e16, st16⟩ := getR X14 hx hZ hown (hw _ (mi 111 rfl)) e14 (W0.fld (i := 1) rfl (j := 0) rfl rfl) (g := K15.g) rfl rfl (hb hby d_add_60)
  have K17 : Rch p e below s₁ F0 T16 (mkF m 78 #[sR r, sR b, sR no, sI (-1), sI 0, sI 0, sI 2, sI 0, sI 0, sI 0, sI 0, sI 0, sU, sU, sU] [(kR r)]) := fun t k => K15 t (st16 t (by
    refine XS.ifnonnullNo X16.here hx rfl (hb hby d_add_63) rfl ?_
    refine XS.iconst X16.here hx rfl (hb hby d_add_66) ?_
    refine XS.goto X16.here hx rfl (pc0 := 67) (pc' := 74) rfl (hb hby d_add_67) (by decide) (by decide) ?_
    refine XS.iadd X16.here hx rfl (hb hby d_add_74) rfl ?_
    refine XS.istore X16.here hx rfl (hb hby d_add_75) rfl (l' := #[sR r, sR b, sR no, sI (-1), sI 0, sI 0, sI 2, sI 0, sI 0, sI 0, sI 0, sI 0, sU, sU, sU]) rfl ?_
    refine XS.aloadN X16.here hx rfl (hb hby d_add_77) rfl rfl ?_
    exact k))
  obtain ⟨T18, X18, e18, st18⟩ := getF X16 hx hZ hown (host := "") (Or.inl (hw _ (mi 29 rfl))) Via.refl e16 (W0.fld (i := 0) rfl (j := 6) rfl rfl) (g := K17.g) rfl rfl (hb hby d_add_78)
  have K19 : Rch p e below s₁ F0 T18 (mkF m 87 #[sR r, sR b, sR no, sI (-1), sI 0, sI 0, sI 2, sI 0, sI 0, sI 0, sI 0, sI 0, sI 0, sU, sU] [(kR r)]) := fun t k => K17 t (st18 t (by
    refine XS.iload X18.here hx rfl (hb hby d_add_81) rfl ?_
    refine ialW X18 hx hZ e18 W0 (i := 8) rfl (j := (0 : Int32)) (k := 0) (by decide) (by decide) (by decide) (v := (.int (0 : Int32))) h_frg (g := (mkF m 83 #[sR r, sR b, sR no, sI (-1), sI 0, sI 0, sI 2, sI 0, sI 0, sI 0, sI 0, sI 0, sU, sU, sU] [(kI 0), (kR frg)])) rfl rfl (hb hby d_add_83) _ ?_
    refine XS.istore X18.here hx rfl (hb hby d_add_84) rfl (l' := #[sR r, sR b, sR no, sI (-1), sI 0, sI 0, sI 2, sI 0, sI 0, sI 0, sI 0, sI 0, sI 0, sU, sU]) rfl ?_
    refine XS.aloadN X18.here hx rfl (hb hby d_add_86) rfl rfl ?_
    exact k))
  obtain ⟨T20, X20, e20, st20⟩ := getF X18 hx hZ hown (host := "") (Or.inl (hw _ (mi 112 rfl))) Via.refl e18 (W0.fld (i := 0) rfl (j := 15) rfl rfl) (g := K19.g) rfl rfl (hb hby d_add_87)
  have K21 : Rch p e below s₁ F0 T20 (mkF m 94 #[sR r, sR b, sR no, sI (-1), sI 0, sI 0, sI 2, sI 0, sI 0, sI 0, sI 0, sI 0, sI 0, sU, sU] [(kR b)]) := fun t k => K19 t (st20 t (by
    refine XS.ifnonnullNo X20.here hx rfl (hb hby d_add_90) rfl ?_
    refine XS.aloadN X20.here hx rfl (hb hby d_add_93) rfl rfl ?_
    exact k))
  obtain ⟨T22, X22, e22, st22⟩ := getR X20 hx hZ hown (hw _ (mi 114 rfl)) e20 (W0.fld (i := 1) rfl (j := 3) rfl rfl) (g := K21.g) rfl rfl (hb hby d_add_94)
  have K23 : Rch p e below s₁ F0 T22 (mkF m 110 #[sR r, sR b, sR no, sI (-1), sI 0, sI 0, sI 2, sI 0, sI 0, sI 0, sI 0, sI 0, sI 0, sI 1, sU] [(kR r), (kI 0)]) := fun t k => K21 t (st22 t (by
    refine XS.ifNo X22.here hx rfl (hb hby d_add_97) rfl (by decide) ?_
    refine XS.iconst X22.here hx rfl (hb hby d_add_100) ?_
    refine XS.goto X22.here hx rfl (pc0 := 101) (pc' := 105) rfl (hb hby d_add_101) (by decide) (by decide) ?_
    refine XS.istore X22.here hx rfl (hb hby d_add_105) rfl (l' := #[sR r, sR b, sR no, sI (-1), sI 0, sI 0, sI 2, sI 0, sI 0, sI 0, sI 0, sI 0, sI 0, sI 1, sU]) rfl ?_
    refine XS.iload X22.here hx rfl (hb hby d_add_107) rfl ?_
    refine XS.aloadN X22.here hx rfl (hb hby d_add_109) rfl rfl ?_
    exact k))
  obtain ⟨T24, X24, e24, st24⟩ := getF X22 hx hZ hown (host := "") (Or.inl (hw _ (mi 21 rfl))) Via.refl e22 (W0.fld (i := 0) rfl (j := 2) rfl rfl) (g := K23.g) rfl rfl (hb hby d_add_110)
  have K25 : Rch p e below s₁ F0 T24 (mkF m 122 #[sR r, sR b, sR no, sI (-1), sI 0, sI 0, sI 2, sI 0, sI 0, sI 0, sI 0, sI 0, sI 0, sI 1, sU] [(kR r), (kI 1)]) := fun t k => K23 t (st24 t (by
    refine lenW X24 hx hZ e24 W0 (i := 4) rfl (fun _ q => q) (z := (16 : Int32)) (by decide) (g := (mkF m 113 #[sR r, sR b, sR no, sI (-1), sI 0, sI 0, sI 2, sI 0, sI 0, sI 0, sI 0, sI 0, sI 0, sI 1, sU] [(kR ns), (kI 0)])) rfl rfl (hb hby d_add_113) _ ?_
    refine XS.icmpNo X24.here hx rfl (hb hby d_add_114) rfl (by decide) ?_
    refine XS.iload X24.here hx rfl (hb hby d_add_117) rfl ?_
    refine XS.iconst X24.here hx rfl (hb hby d_add_119) ?_
    refine XS.iadd X24.here hx rfl (hb hby d_add_120) rfl ?_
    refine XS.aloadN X24.here hx rfl (hb hby d_add_121) rfl rfl ?_
    exact k))
  obtain ⟨T26, X26, e26, st26⟩ := getF X24 hx hZ hown (host := "") (Or.inl (hw _ (mi 23 rfl))) Via.refl e24 (W0.fld (i := 0) rfl (j := 3) rfl rfl) (g := K25.g) rfl rfl (hb hby d_add_122)
  have K27 : Rch p e below s₁ F0 T26 (mkF m 135 #[sR r, sR b, sR no, sI (-1), sI 0, sI 0, sI 2, sI 0, sI 0, sI 0, sI 0, sI 0, sI 0, sI 1, sU] [(kR r), (kI 2)]) := fun t k => K25 t (st26 t (by
    refine lenW X26 hx hZ e26 W0 (i := 5) rfl (fun _ q => q) (z := (17 : Int32)) (by decide) (g := (mkF m 125 #[sR r, sR b, sR no, sI (-1), sI 0, sI 0, sI 2, sI 0, sI 0, sI 0, sI 0, sI 0, sI 0, sI 1, sU] [(kR fch), (kI 1)])) rfl rfl (hb hby d_add_125) _ ?_
    refine XS.icmpNo X26.here hx rfl (hb hby d_add_126) rfl (by decide) ?_
    refine XS.iload X26.here hx rfl (hb hby d_add_129) rfl ?_
    refine XS.iload X26.here hx rfl (hb hby d_add_131) rfl ?_
    refine XS.iadd X26.here hx rfl (hb hby d_add_133) rfl ?_
    refine XS.aloadN X26.here hx rfl (hb hby d_add_134) rfl rfl ?_
    exact k))
  obtain ⟨T28, X28, e28, st28⟩ := getF X26 hx hZ hown (host := "") (Or.inl (hw _ (mi 31 rfl))) Via.refl e26 (W0.fld (i := 0) rfl (j := 7) rfl rfl) (g := K27.g) rfl rfl (hb hby d_add_135)
  have K29 : Rch p e below s₁ F0 T28 (mkF m 145 #[sR r, sR b, sR no, sI (-1), sI 0, sI 0, sI 2, sI 0, sI 0, sI 0, sI 0, sI 0, sI 0, sI 1, sU] [(kR b), (kI 0)]) := fun t k => K27 t (st28 t (by
    refine lenW X28 hx hZ e28 W0 (i := 9) rfl (fun _ q => q) (z := (17 : Int32)) (by decide) (g := (mkF m 138 #[sR r, sR b, sR no, sI (-1), sI 0, sI 0, sI 2, sI 0, sI 0, sI 0, sI 0, sI 0, sI 0, sI 1, sU] [(kR fac), (kI 2)])) rfl rfl (hb hby d_add_138) _ ?_
    refine XS.icmpNo X28.here hx rfl (hb hby d_add_139) rfl (by decide) ?_
    refine XS.iload X28.here hx rfl (hb hby d_add_142) rfl ?_
    refine XS.aloadN X28.here hx rfl (hb hby d_add_144) rfl rfl ?_
    exact k))
  obtain ⟨T30, X30, e30, st30⟩ := getR X28 hx hZ hown (hw _ (mi 115 rfl)) e28 (W0.fld (i := 1) rfl (j := 12) rfl rfl) (g := K29.g) rfl rfl (hb hby d_add_145)
  have K31 : Rch p e below s₁ F0 T30 (mkF m 150 #[sR r, sR b, sR no, sI (-1), sI 0, sI 0, sI 2, sI 0, sI 0, sI 0, sI 0, sI 0, sI 0, sI 1, sU] [(kR r), (kI 0)]) := fun t k => K29 t (st30 t (by
    refine XS.iadd X30.here hx rfl (hb hby d_add_148) rfl ?_
    refine XS.aloadN X30.here hx rfl (hb hby d_add_149) rfl rfl ?_
    exact k))
  obtain ⟨T32, X32, e32, st32⟩ := getF X30 hx hZ hown (host := "") (Or.inl (hw _ (mi 37 rfl))) Via.refl e30 (W0.fld (i := 0) rfl (j := 10) rfl rfl) (g := K31.g) rfl rfl (hb hby d_add_150)
  have K33 : Rch p e below s₁ F0 T32 (mkF m 160 #[sR r, sR b, sR no, sI (-1), sI 0, sI 0, sI 2, sI 0, sI 0, sI 0, sI 0, sI 0, sI 0, sI 1, sU] [(kR b), (kI 0)]) := fun t k => K31 t (st32 t (by
    refine lenW X32 hx hZ e32 W0 (i := 12) rfl (fun _ q => q) (z := (16 : Int32)) (by decide) (g := (mkF m 153 #[sR r, sR b, sR no, sI (-1), sI 0, sI 0, sI 2, sI 0, sI 0, sI 0, sI 0, sI 0, sI 0, sI 1, sU] [(kR acs), (kI 0)])) rfl rfl (hb hby d_add_153) _ ?_
    refine XS.icmpNo X32.here hx rfl (hb hby d_add_154) rfl (by decide) ?_
    refine XS.iload X32.here hx rfl (hb hby d_add_157) rfl ?_
    refine XS.aloadN X32.here hx rfl (hb hby d_add_159) rfl rfl ?_
    exact k))
  obtain ⟨T34, X34, e34, st34⟩ := getR X32 hx hZ hown (hw _ (mi 116 rfl)) e32 (W0.fld (i := 1) rfl (j := 13) rfl rfl) (g := K33.g) rfl rfl (hb hby d_add_160)
  have K35 : Rch p e below s₁ F0 T34 (mkF m 165 #[sR r, sR b, sR no, sI (-1), sI 0, sI 0, sI 2, sI 0, sI 0, sI 0, sI 0, sI 0, sI 0, sI 1, sU] [(kR r), (kI (Int32.ofNat cq))]) := fun t k => K33 t (st34 t (by
    refine XS.iadd X34.here hx rfl (hb hby d_add_163) rfl ?_
    show Steps p.tables e below (T34.setTop (mkF m 164 #[sR r, sR b, sR no, sI (-1), sI 0, sI 0, sI 2, sI 0, sI 0, sI 0, sI 0, sI 0, sI 0, sI 1, sU] [(kI ((0 : Int32) + (Int32.ofNat cq)))])) _
    rw [Int32.zero_add]
    show Steps p.tables e below (T34.setTop (mkF m 164 #[sR r, sR b, sR no, sI (-1), sI 0, sI 0, sI 2, sI 0, sI 0, sI 0, sI 0, sI 0, sI 0, sI 1, sU] [(kI (Int32.ofNat cq))])) _
    refine XS.aloadN X34.here hx rfl (hb hby d_add_164) rfl rfl ?_
    exact k))
  obtain ⟨T36, X36, e36, st36⟩ := getF X34 hx hZ hown (host := "") (Or.inl (hw _ (mi 39 rfl))) Via.refl e34 (W0.fld (i := 0) rfl (j := 11) rfl rfl) (g := K35.g) rfl rfl (hb hby d_add_165)
  have K37 : Rch p e below s₁ F0 T36 (mkF m 175 #[sR r, sR b, sR no, sI (-1), sI 0, sI 0, sI 2, sI 0, sI 0, sI 0, sI 0, sI 0, sI 0, sI 1, sU] [(kR b), (kI 0)]) := fun t k => K35 t (st36 t (by
    refine lenW X36 hx hZ e36 W0 (i := 13) rfl (fun _ q => q) (z := (16 : Int32)) (by decide) (g := (mkF m 168 #[sR r, sR b, sR no, sI (-1), sI 0, sI 0, sI 2, sI 0, sI 0, sI 0, sI 0, sI 0, sI 0, sI 1, sU] [(kR cms), (kI (Int32.ofNat cq))])) rfl rfl (hb hby d_add_168) _ ?_
    refine XS.icmpNo X36.here hx rfl (hb hby d_add_169) rfl (flt (own_nlt (a := 16) (b := cq) (by omega) (by decide))).2.2.1 ?_
    refine XS.iload X36.here hx rfl (hb hby d_add_172) rfl ?_
    refine XS.aloadN X36.here hx rfl (hb hby d_add_174) rfl rfl ?_
    exact k))
  obtain ⟨T38, X38, e38, st38⟩ := getR X36 hx hZ hown (hw _ (mi 117 rfl)) e36 (W0.fld (i := 1) rfl (j := 14) rfl rfl) (g := K37.g) rfl rfl (hb hby d_add_175)
  have K39 : Rch p e below s₁ F0 T38 (mkF m 180 #[sR r, sR b, sR no, sI (-1), sI 0, sI 0, sI 2, sI 0, sI 0, sI 0, sI 0, sI 0, sI 0, sI 1, sU] [(kR r), (kI 0)]) := fun t k => K37 t (st38 t (by
    refine XS.iadd X38.here hx rfl (hb hby d_add_178) rfl ?_
    refine XS.aloadN X38.here hx rfl (hb hby d_add_179) rfl rfl ?_
    exact k))
  obtain ⟨T40, X40, e40, st40⟩ := getF X38 hx hZ hown (host := "") (Or.inl (hw _ (mi 41 rfl))) Via.refl e38 (W0.fld (i := 0) rfl (j := 12) rfl rfl) (g := K39.g) rfl rfl (hb hby d_add_180)
  have K41 : Rch p e below s₁ F0 T40 (mkF m 195 #[sR r, sR b, sR no, sI (-1), sI 0, sI 0, sI 2, sI 0, sI 0, sI 0, sI 0, sI 0, sI 0, sI 1, sU] [(kR b), (kI 0)]) := fun t k => K39 t (st40 t (by
    refine lenW X40 hx hZ e40 W0 (i := 14) rfl (fun _ q => q) (z := (64 : Int32)) (by decide) (g := (mkF m 183 #[sR r, sR b, sR no, sI (-1), sI 0, sI 0, sI 2, sI 0, sI 0, sI 0, sI 0, sI 0, sI 0, sI 1, sU] [(kR sus), (kI 0)])) rfl rfl (hb hby d_add_183) _ ?_
    refine XS.icmpNo X40.here hx rfl (hb hby d_add_184) rfl (by decide) ?_
    refine XS.iload X40.here hx rfl (hb hby d_add_187) rfl ?_
    refine XS.ifNo X40.here hx rfl (hb hby d_add_189) rfl (by decide) ?_
    refine XS.iload X40.here hx rfl (hb hby d_add_192) rfl ?_
    refine XS.aloadN X40.here hx rfl (hb hby d_add_194) rfl rfl ?_
    exact k))
  obtain ⟨T42, X42, e42, st42⟩ := getR X40 hx hZ hown (hw _ (mi 117 rfl)) e40 (W0.fld (i := 1) rfl (j := 14) rfl rfl) (g := K41.g) rfl rfl (hb hby d_add_195)
  have K43 : Rch p e below s₁ F0 T42 (mkF m 200 #[sR r, sR b, sR no, sI (-1), sI 0, sI 0, sI 2, sI 0, sI 0, sI 0, sI 0, sI 0, sI 0, sI 1, sU] [(kR r), (kI 0)]) := fun t k => K41 t (st42 t (by
    refine XS.iadd X42.here hx rfl (hb hby d_add_198) rfl ?_
    refine XS.aloadN X42.here hx rfl (hb hby d_add_199) rfl rfl ?_
    exact k))
  obtain ⟨T44, X44, e44, st44⟩ := getF X42 hx hZ hown (host := "") (Or.inl (hw _ (mi 44 rfl))) Via.refl e42 (W0.fld (i := 0) rfl (j := 13) rfl rfl) (g := K43.g) rfl rfl (hb hby d_add_200)
  have K45 : Rch p e below s₁ F0 T44 (mkF m 210 #[sR r, sR b, sR no, sI (-1), sI 0, sI 0, sI 2, sI 0, sI 0, sI 0, sI 0, sI 0, sI 0, sI 1, sU] [(kR r), (kI 0)]) := fun t k => K43 t (st44 t (by
    refine lenW X44 hx hZ e44 W0 (i := 15) rfl (fun _ q => q) (z := (64 : Int32)) (by decide) (g := (mkF m 203 #[sR r, sR b, sR no, sI (-1), sI 0, sI 0, sI 2, sI 0, sI 0, sI 0, sI 0, sI 0, sI 0, sI 1, sU] [(kR prb), (kI 0)])) rfl rfl (hb hby d_add_203) _ ?_
    refine XS.icmpNo X44.here hx rfl (hb hby d_add_204) rfl (by decide) ?_
    refine XS.iload X44.here hx rfl (hb hby d_add_207) rfl ?_
    refine XS.aloadN X44.here hx rfl (hb hby d_add_209) rfl rfl ?_
    exact k))
  obtain ⟨T46, X46, e46, st46⟩ := getF X44 hx hZ hown (host := "") (Or.inl (hw _ (mi 17 rfl))) Via.refl e44 (W0.fld (i := 0) rfl (j := 0) rfl rfl) (g := K45.g) rfl rfl (hb hby d_add_210)
  have K47 : Rch p e below s₁ F0 T46 (mkF m 223 #[sR r, sR b, sR no, sI (-1), sI 0, sI 0, sI 2, sI 0, sI 0, sI 0, sI 0, sI 0, sI 0, sI 1, sU] [(kR r), (kI 0)]) := fun t k => K45 t (st46 t (by
    refine lenW X46 hx hZ e46 W0 (i := 2) rfl (fun _ q => q) (z := (0 : Int32)) (by decide) (g := (mkF m 213 #[sR r, sR b, sR no, sI (-1), sI 0, sI 0, sI 2, sI 0, sI 0, sI 0, sI 0, sI 0, sI 0, sI 1, sU] [(kR ks), (kI 0)])) rfl rfl (hb hby d_add_213) _ ?_
    refine XS.icmpNo X46.here hx rfl (hb hby d_add_214) rfl (by decide) ?_
    refine XS.iload X46.here hx rfl (hb hby d_add_217) rfl ?_
    refine XS.aloadN X46.here hx rfl (hb hby d_add_219) rfl rfl ?_
    refine lenW X46 hx hZ e46 W0 (i := 23) rfl (fun _ q => q) (z := (0 : Int32)) (by decide) (g := (mkF m 220 #[sR r, sR b, sR no, sI (-1), sI 0, sI 0, sI 2, sI 0, sI 0, sI 0, sI 0, sI 0, sI 0, sI 1, sU] [(kR no), (kI 0)])) rfl rfl (hb hby d_add_220) _ ?_
    refine XS.iadd X46.here hx rfl (hb hby d_add_221) rfl ?_
    show Steps p.tables e below (T46.setTop (mkF m 222 #[sR r, sR b, sR no, sI (-1), sI 0, sI 0, sI 2, sI 0, sI 0, sI 0, sI 0, sI 0, sI 0, sI 1, sU] [(kI 0)])) _
    refine XS.aloadN X46.here hx rfl (hb hby d_add_222) rfl rfl ?_
    exact k))
  obtain ⟨T48, X48, e48, st48⟩ := getF X46 hx hZ hown (host := "") (Or.inl (hw _ (mi 19 rfl))) Via.refl e46 (W0.fld (i := 0) rfl (j := 1) rfl rfl) (g := K47.g) rfl rfl (hb hby d_add_223)
  have K49 : Rch p e below s₁ F0 T48 (mkF m 255 #[sR r, sR b, sR no, sI (-1), sI 0, sI 0, sI 2, sI 0, sI 0, sI 0, sI 0, sI 0, sI 0, sI 1, sI 0] [(kR r)]) := fun t k => K47 t (st48 t (by
    refine lenW X48 hx hZ e48 W0 (i := 3) rfl (fun _ q => q) (z := (0 : Int32)) (by decide) (g := (mkF m 226 #[sR r, sR b, sR no, sI (-1), sI 0, sI 0, sI 2, sI 0, sI 0, sI 0, sI 0, sI 0, sI 0, sI 1, sU] [(kR rgs), (kI 0)])) rfl rfl (hb hby d_add_226) _ ?_
    refine XS.icmpYes X48.here hx rfl (pc0 := 227) (pc' := 244) rfl (hb hby d_add_227) rfl (by decide) (by decide) (by decide) ?_
    refine XS.iconst X48.here hx rfl (hb hby d_add_244) ?_
    refine XS.istore X48.here hx rfl (hb hby d_add_245) rfl (l' := #[sR r, sR b, sR no, sI (-1), sI 0, sI 0, sI 2, sI 0, sI 0, sI 0, sI 0, sI 0, sI 0, sI 1, sI 0]) rfl ?_
    refine XS.iload X48.here hx rfl (hb hby d_add_247) rfl ?_
    refine XS.iload X48.here hx rfl (hb hby d_add_249) rfl ?_
    show Steps p.tables e below (T48.setTop (mkF m 251 #[sR r, sR b, sR no, sI (-1), sI 0, sI 0, sI 2, sI 0, sI 0, sI 0, sI 0, sI 0, sI 0, sI 1, sI 0] [(kI 2), (kI 0)])) _
    refine XS.icmpNo X48.here hx rfl (hb hby d_add_251) rfl (by decide) ?_
    refine XS.aloadN X48.here hx rfl (hb hby d_add_254) rfl rfl ?_
    exact k))
  obtain ⟨T50, X50, e50, st50⟩ := getF X48 hx hZ hown (host := "") (Or.inl (hw _ (mi 31 rfl))) Via.refl e48 (W0.fld (i := 0) rfl (j := 7) rfl rfl) (g := K49.g) rfl rfl (hb hby d_add_255)
  have K51 : Rch p e below s₁ F0 T50 (mkF m 266 #[sR r, sR b, sR no, sI (-1), sI 0, sI 0, sI 2, sI 0, sI 0, sI 0, sI 0, sI 0, sI 0, sI 1, sI 0] [(kR b), (kI 0), (kI 0), (kR fac)]) := fun t k => K49 t (st50 t (by
    refine XS.iload X50.here hx rfl (hb hby d_add_258) rfl ?_
    refine XS.iload X50.here hx rfl (hb hby d_add_260) rfl ?_
    refine XS.iadd X50.here hx rfl (hb hby d_add_262) rfl ?_
    refine XS.iload X50.here hx rfl (hb hby d_add_263) rfl ?_
    refine XS.aloadN X50.here hx rfl (hb hby d_add_265) rfl rfl ?_
    exact k))
  obtain ⟨T52, X52, e52, st52⟩ := getR X50 hx hZ hown (hw _ (mi 118 rfl)) e50 (W0.fld (i := 1) rfl (j := 4) rfl rfl) (g := K51.g) rfl rfl (hb hby d_add_266)
  have K53 : Rch p e below s₁ F0 T52 (mkF m 273 #[sR r, sR b, sR no, sI (-1), sI 0, sI 0, sI 2, sI 0, sI 0, sI 0, sI 0, sI 0, sI 0, sI 1, sI 0] [(kI 0), (kI 0), (kR fac)]) := fun t k => K51 t (st52 t (by
    refine XS.iload X52.here hx rfl (hb hby d_add_269) rfl ?_
    refine ialW X52 hx hZ e52 W0 (i := 16) rfl (j := (0 : Int32)) (k := 0) (by decide) (by decide) (by decide) (v := (.int (0 : Int32))) h_f1_0 (g := (mkF m 271 #[sR r, sR b, sR no, sI (-1), sI 0, sI 0, sI 2, sI 0, sI 0, sI 0, sI 0, sI 0, sI 0, sI 1, sI 0] [(kI 0), (kR fa), (kI 0), (kI 0), (kR fac)])) rfl rfl (hb hby d_add_271) _ ?_
    refine XS.iadd X52.here hx rfl (hb hby d_add_272) rfl ?_
    exact k))
  obtain ⟨T54, h54, L54, X54, e54, N54, W54q, st54⟩ := iasW X52 hx hZ e52 W0 N0 (i := 9) (a := fac) rfl (j := (0 : Int32)) (x := (0 : Int32)) (k := 0) (by decide) (by decide) (by decide) (g := K53.g) rfl rfl (hb hby d_add_273)
  have W54 : Wo n0 h54 ((r, oR Z [(kR ks), (kR rgs), (kR ns), (kR fch), (kR fk), (kR kl), (kR frg), (kR fac), (kR fcm), (kR ftr), (kR acs), (kR cms), (kR sus), (kR prb), (kI 0), .null, (kI 0)]) :: (b, oB Z [.null, (kI 0), .null, (kI 0), (kR fa), (kR ac), (kR fc), (kR cm), (kR ft), (kR su), (kR pr), (kI 2), (kI 0), (kI (Int32.ofNat cq)), (kI 0), .null]) :: (ks, Ar Z .int 0 g_ks) :: (rgs, Ar Z .int 0 g_rgs) :: (ns, Ar Z .int 16 g_ns) :: (fch, Ar Z .int 17 g_fch) :: (fk, Ar Z .int 17 g_fk) :: (kl, Ar Z .int 16 g_kl) :: (frg, Ar Z .int 17 g_frg) :: (fac, Ar Z .int 17 (upd g_fac 0 (kI 0))) :: (fcm, Ar Z .int 17 g_fcm) :: (ftr, Ar Z .int 17 g_ftr) :: (acs, Ar Z .int 16 g_acs) :: (cms, Ar Z .int 16 g_cms) :: (sus, Ar Z .int 64 g_sus) :: (prb, Ar Z .double 64 g_prb) :: (fa, Ar Z .int 2 f1) :: (fc, Ar Z .int 2 f2) :: (ft, Ar Z .int 2 f3) :: (ac, Ar Z .int 2 f4) :: (cm, Ar Z .int n f5) :: (su, Ar Z .int 4 f6) :: (pr, Ar Z .double 4 f7) :: (no, Ar Z .int 0 f8) :: Rr) := W54q
  have K55 : Rch p e below s₁ F0 T54 (mkF m 275 #[sR r, sR b, sR no, sI (-1), sI 0, sI 0, sI 2, sI 0, sI 0, sI 0, sI 0, sI 0, sI 0, sI 1, sI 0] [(kR r)]) := fun t k => K53 t (st54 t (XS.aloadN X54.here hx rfl (hb hby d_add_274) rfl rfl k))
  obtain ⟨T56, X56, e56, st56⟩ := getF X54 hx hZ hown (host := "") (Or.inl (hw _ (mi 33 rfl))) Via.refl e54 (W54.fld (i := 0) rfl (j := 8) rfl rfl) (g := K55.g) rfl rfl (hb hby d_add_275)
  have K57 : Rch p e below s₁ F0 T56 (mkF m 286 #[sR r, sR b, sR no, sI (-1), sI 0, sI 0, sI 2, sI 0, sI 0, sI 0, sI 0, sI 0, sI 0, sI 1, sI 0] [(kR b), (kI 0), (kI 0), (kR fcm)]) := fun t k => K55 t (st56 t (by
    refine XS.iload X56.here hx rfl (hb hby d_add_278) rfl ?_
    refine XS.iload X56.here hx rfl (hb hby d_add_280) rfl ?_
    refine XS.iadd X56.here hx rfl (hb hby d_add_282) rfl ?_
    refine XS.iload X56.here hx rfl (hb hby d_add_283) rfl ?_
    refine XS.aloadN X56.here hx rfl (hb hby d_add_285) rfl rfl ?_
    exact k))
  obtain ⟨T58, X58, e58, st58⟩ := getR X56 hx hZ hown (hw _ (mi 119 rfl)) e56 (W54.fld (i := 1) rfl (j := 6) rfl rfl) (g := K57.g) rfl rfl (hb hby d_add_286)
  have K59 : Rch p e below s₁ F0 T58 (mkF m 293 #[sR r, sR b, sR no, sI (-1), sI 0, sI 0, sI 2, sI 0, sI 0, sI 0, sI 0, sI 0, sI 0, sI 1, sI 0] [(kI (Int32.ofNat x0)), (kI 0), (kR fcm)]) := fun t k => K57 t (st58 t (by
    refine XS.iload X58.here hx rfl (hb hby d_add_289) rfl ?_
    refine ialW X58 hx hZ e58 W54 (i := 17) rfl (j := (0 : Int32)) (k := 0) (by decide) (by decide) (by decide) (v := (.int (Int32.ofNat x0))) h_f2_0 (g := (mkF m 291 #[sR r, sR b, sR no, sI (-1), sI 0, sI 0, sI 2, sI 0, sI 0, sI 0, sI 0, sI 0, sI 0, sI 1, sI 0] [(kI 0), (kR fc), (kI 0), (kI 0), (kR fcm)])) rfl rfl (hb hby d_add_291) _ ?_
    refine XS.iadd X58.here hx rfl (hb hby d_add_292) rfl ?_
    show Steps p.tables e below (T58.setTop (mkF m 293 #[sR r, sR b, sR no, sI (-1), sI 0, sI 0, sI 2, sI 0, sI 0, sI 0, sI 0, sI 0, sI 0, sI 1, sI 0] [(kI ((0 : Int32) + (Int32.ofNat x0))), (kI 0), (kR fcm)])) _
    rw [Int32.zero_add]
    exact k))
  obtain ⟨T60, h60, L60, X60, e60, N60, W60q, st60⟩ := iasW X58 hx hZ e58 W54 N54 (i := 10) (a := fcm) rfl (j := (0 : Int32)) (x := (Int32.ofNat x0)) (k := 0) (by decide) (by decide) (by decide) (g := K59.g) rfl rfl (hb hby d_add_293)
  have W60 : Wo n0 h60 ((r, oR Z [(kR ks), (kR rgs), (kR ns), (kR fch), (kR fk), (kR kl), (kR frg), (kR fac), (kR fcm), (kR ftr), (kR acs), (kR cms), (kR sus), (kR prb), (kI 0), .null, (kI 0)]) :: (b, oB Z [.null, (kI 0), .null, (kI 0), (kR fa), (kR ac), (kR fc), (kR cm), (kR ft), (kR su), (kR pr), (kI 2), (kI 0), (kI (Int32.ofNat cq)), (kI 0), .null]) :: (ks, Ar Z .int 0 g_ks) :: (rgs, Ar Z .int 0 g_rgs) :: (ns, Ar Z .int 16 g_ns) :: (fch, Ar Z .int 17 g_fch) :: (fk, Ar Z .int 17 g_fk) :: (kl, Ar Z .int 16 g_kl) :: (frg, Ar Z .int 17 g_frg) :: (fac, Ar Z .int 17 (upd g_fac 0 (kI 0))) :: (fcm, Ar Z .int 17 (upd g_fcm 0 (kI (Int32.ofNat x0)))) :: (ftr, Ar Z .int 17 g_ftr) :: (acs, Ar Z .int 16 g_acs) :: (cms, Ar Z .int 16 g_cms) :: (sus, Ar Z .int 64 g_sus) :: (prb, Ar Z .double 64 g_prb) :: (fa, Ar Z .int 2 f1) :: (fc, Ar Z .int 2 f2) :: (ft, Ar Z .int 2 f3) :: (ac, Ar Z .int 2 f4) :: (cm, Ar Z .int n f5) :: (su, Ar Z .int 4 f6) :: (pr, Ar Z .double 4 f7) :: (no, Ar Z .int 0 f8) :: Rr) := W60q
  have K61 : Rch p e below s₁ F0 T60 (mkF m 295 #[sR r, sR b, sR no, sI (-1), sI 0, sI 0, sI 2, sI 0, sI 0, sI 0, sI 0, sI 0, sI 0, sI 1, sI 0] [(kR r)]) := fun t k => K59 t (st60 t (XS.aloadN X60.here hx rfl (hb hby d_add_294) rfl rfl k))
  obtain ⟨T62, X62, e62, st62⟩ := getF X60 hx hZ hown (host := "") (Or.inl (hw _ (mi 35 rfl))) Via.refl e60 (W60.fld (i := 0) rfl (j := 9) rfl rfl) (g := K61.g) rfl rfl (hb hby d_add_295)
  have K63 : Rch p e below s₁ F0 T62 (mkF m 306 #[sR r, sR b, sR no, sI (-1), sI 0, sI 0, sI 2, sI 0, sI 0, sI 0, sI 0, sI 0, sI 0, sI 1, sI 0] [(kR b), (kI 0), (kI 0), (kR ftr)]) := fun t k => K61 t (st62 t (by
    refine XS.iload X62.here hx rfl (hb hby d_add_298) rfl ?_
    refine XS.iload X62.here hx rfl (hb hby d_add_300) rfl ?_
    refine XS.iadd X62.here hx rfl (hb hby d_add_302) rfl ?_
    refine XS.iload X62.here hx rfl (hb hby d_add_303) rfl ?_
    refine XS.aloadN X62.here hx rfl (hb hby d_add_305) rfl rfl ?_
    exact k))
  obtain ⟨T64, X64, e64, st64⟩ := getR X62 hx hZ hown (hw _ (mi 120 rfl)) e62 (W60.fld (i := 1) rfl (j := 8) rfl rfl) (g := K63.g) rfl rfl (hb hby d_add_306)
  have K65 : Rch p e below s₁ F0 T64 (mkF m 313 #[sR r, sR b, sR no, sI (-1), sI 0, sI 0, sI 2, sI 0, sI 0, sI 0, sI 0, sI 0, sI 0, sI 1, sI 0] [(kI 0), (kI 0), (kR ftr)]) := fun t k => K63 t (st64 t (by
    refine XS.iload X64.here hx rfl (hb hby d_add_309) rfl ?_
    refine ialW X64 hx hZ e64 W60 (i := 18) rfl (j := (0 : Int32)) (k := 0) (by decide) (by decide) (by decide) (v := (.int (0 : Int32))) h_f3_0 (g := (mkF m 311 #[sR r, sR b, sR no, sI (-1), sI 0, sI 0, sI 2, sI 0, sI 0, sI 0, sI 0, sI 0, sI 0, sI 1, sI 0] [(kI 0), (kR ft), (kI 0), (kI 0), (kR ftr)])) rfl rfl (hb hby d_add_311) _ ?_
    refine XS.iadd X64.here hx rfl (hb hby d_add_312) rfl ?_
    exact k))
  obtain ⟨T66, h66, L66, X66, e66, N66, W66q, st66⟩ := iasW X64 hx hZ e64 W60 N60 (i := 11) (a := ftr) rfl (j := (0 : Int32)) (x := (0 : Int32)) (k := 0) (by decide) (by decide) (by decide) (g := K65.g) rfl rfl (hb hby d_add_313)
  have W66 : Wo n0 h66 ((r, oR Z [(kR ks), (kR rgs), (kR ns), (kR fch), (kR fk), (kR kl), (kR frg), (kR fac), (kR fcm), (kR ftr), (kR acs), (kR cms), (kR sus), (kR prb), (kI 0), .null, (kI 0)]) :: (b, oB Z [.null, (kI 0), .null, (kI 0), (kR fa), (kR ac), (kR fc), (kR cm), (kR ft), (kR su), (kR pr), (kI 2), (kI 0), (kI (Int32.ofNat cq)), (kI 0), .null]) :: (ks, Ar Z .int 0 g_ks) :: (rgs, Ar Z .int 0 g_rgs) :: (ns, Ar Z .int 16 g_ns) :: (fch, Ar Z .int 17 g_fch) :: (fk, Ar Z .int 17 g_fk) :: (kl, Ar Z .int 16 g_kl) :: (frg, Ar Z .int 17 g_frg) :: (fac, Ar Z .int 17 (upd g_fac 0 (kI 0))) :: (fcm, Ar Z .int 17 (upd g_fcm 0 (kI (Int32.ofNat x0)))) :: (ftr, Ar Z .int 17 (upd g_ftr 0 (kI 0))) :: (acs, Ar Z .int 16 g_acs) :: (cms, Ar Z .int 16 g_cms) :: (sus, Ar Z .int 64 g_sus) :: (prb, Ar Z .double 64 g_prb) :: (fa, Ar Z .int 2 f1) :: (fc, Ar Z .int 2 f2) :: (ft, Ar Z .int 2 f3) :: (ac, Ar Z .int 2 f4) :: (cm, Ar Z .int n f5) :: (su, Ar Z .int 4 f6) :: (pr, Ar Z .double 4 f7) :: (no, Ar Z .int 0 f8) :: Rr) := W66q
  have K67 : Rch p e below s₁ F0 T66 (mkF m 255 #[sR r, sR b, sR no, sI (-1), sI 0, sI 0, sI 2, sI 0, sI 0, sI 0, sI 0, sI 0, sI 0, sI 1, sI 1] [(kR r)]) := fun t k => K65 t (st66 t (by
    refine XS.iinc X66.here hx rfl (hb hby d_add_314) rfl (l' := #[sR r, sR b, sR no, sI (-1), sI 0, sI 0, sI 2, sI 0, sI 0, sI 0, sI 0, sI 0, sI 0, sI 1, sI 1]) rfl ?_
    refine XS.goto X66.here hx rfl (pc0 := 317) (pc' := 247) rfl (hb hby d_add_317) (by decide) (by decide) ?_
    refine XS.iload X66.here hx rfl (hb hby d_add_247) rfl ?_
    refine XS.iload X66.here hx rfl (hb hby d_add_249) rfl ?_
    refine XS.icmpNo X66.here hx rfl (hb hby d_add_251) rfl (by decide) ?_
    refine XS.aloadN X66.here hx rfl (hb hby d_add_254) rfl rfl ?_
    exact k))
  obtain ⟨T68, X68, e68, st68⟩ := getF X66 hx hZ hown (host := "") (Or.inl (hw _ (mi 31 rfl))) Via.refl e66 (W66.fld (i := 0) rfl (j := 7) rfl rfl) (g := K67.g) rfl rfl (hb hby d_add_255)
  have K69 : Rch p e below s₁ F0 T68 (mkF m 266 #[sR r, sR b, sR no, sI (-1), sI 0, sI 0, sI 2, sI 0, sI 0, sI 0, sI 0, sI 0, sI 0, sI 1, sI 1] [(kR b), (kI 0), (kI 1), (kR fac)]) := fun t k => K67 t (st68 t (by
    refine XS.iload X68.here hx rfl (hb hby d_add_258) rfl ?_
    refine XS.iload X68.here hx rfl (hb hby d_add_260) rfl ?_
    refine XS.iadd X68.here hx rfl (hb hby d_add_262) rfl ?_
    refine XS.iload X68.here hx rfl (hb hby d_add_263) rfl ?_
    refine XS.aloadN X68.here hx rfl (hb hby d_add_265) rfl rfl ?_
    exact k))
  obtain ⟨T70, X70, e70, st70⟩ := getR X68 hx hZ hown (hw _ (mi 118 rfl)) e68 (W66.fld (i := 1) rfl (j := 4) rfl rfl) (g := K69.g) rfl rfl (hb hby d_add_266)
  have K71 : Rch p e below s₁ F0 T70 (mkF m 273 #[sR r, sR b, sR no, sI (-1), sI 0, sI 0, sI 2, sI 0, sI 0, sI 0, sI 0, sI 0, sI 0, sI 1, sI 1] [(kI 0), (kI 1), (kR fac)]) := fun t k => K69 t (st70 t (by
    refine XS.iload X70.here hx rfl (hb hby d_add_269) rfl ?_
    refine ialW X70 hx hZ e70 W66 (i := 16) rfl (j := (1 : Int32)) (k := 1) (by decide) (by decide) (by decide) (v := (.int (0 : Int32))) h_f1_1 (g := (mkF m 271 #[sR r, sR b, sR no, sI (-1), sI 0, sI 0, sI 2, sI 0, sI 0, sI 0, sI 0, sI 0, sI 0, sI 1, sI 1] [(kI 1), (kR fa), (kI 0), (kI 1), (kR fac)])) rfl rfl (hb hby d_add_271) _ ?_
    refine XS.iadd X70.here hx rfl (hb hby d_add_272) rfl ?_
    exact k))
  obtain ⟨T72, h72, L72, X72, e72, N72, W72q, st72⟩ := iasW X70 hx hZ e70 W66 N66 (i := 9) (a := fac) rfl (j := (1 : Int32)) (x := (0 : Int32)) (k := 1) (by decide) (by decide) (by decide) (g := K71.g) rfl rfl (hb hby d_add_273)
  have W72 : Wo n0 h72 ((r, oR Z [(kR ks), (kR rgs), (kR ns), (kR fch), (kR fk), (kR kl), (kR frg), (kR fac), (kR fcm), (kR ftr), (kR acs), (kR cms), (kR sus), (kR prb), (kI 0), .null, (kI 0)]) :: (b, oB Z [.null, (kI 0), .null, (kI 0), (kR fa), (kR ac), (kR fc), (kR cm), (kR ft), (kR su), (kR pr), (kI 2), (kI 0), (kI (Int32.ofNat cq)), (kI 0), .null]) :: (ks, Ar Z .int 0 g_ks) :: (rgs, Ar Z .int 0 g_rgs) :: (ns, Ar Z .int 16 g_ns) :: (fch, Ar Z .int 17 g_fch) :: (fk, Ar Z .int 17 g_fk) :: (kl, Ar Z .int 16 g_kl) :: (frg, Ar Z .int 17 g_frg) :: (fac, Ar Z .int 17 (upd (upd g_fac 0 (kI 0)) 1 (kI 0))) :: (fcm, Ar Z .int 17 (upd g_fcm 0 (kI (Int32.ofNat x0)))) :: (ftr, Ar Z .int 17 (upd g_ftr 0 (kI 0))) :: (acs, Ar Z .int 16 g_acs) :: (cms, Ar Z .int 16 g_cms) :: (sus, Ar Z .int 64 g_sus) :: (prb, Ar Z .double 64 g_prb) :: (fa, Ar Z .int 2 f1) :: (fc, Ar Z .int 2 f2) :: (ft, Ar Z .int 2 f3) :: (ac, Ar Z .int 2 f4) :: (cm, Ar Z .int n f5) :: (su, Ar Z .int 4 f6) :: (pr, Ar Z .double 4 f7) :: (no, Ar Z .int 0 f8) :: Rr) := W72q
  have K73 : Rch p e below s₁ F0 T72 (mkF m 275 #[sR r, sR b, sR no, sI (-1), sI 0, sI 0, sI 2, sI 0, sI 0, sI 0, sI 0, sI 0, sI 0, sI 1, sI 1] [(kR r)]) := fun t k => K71 t (st72 t (XS.aloadN X72.here hx rfl (hb hby d_add_274) rfl rfl k))
  obtain ⟨T74, X74, e74, st74⟩ := getF X72 hx hZ hown (host := "") (Or.inl (hw _ (mi 33 rfl))) Via.refl e72 (W72.fld (i := 0) rfl (j := 8) rfl rfl) (g := K73.g) rfl rfl (hb hby d_add_275)
  have K75 : Rch p e below s₁ F0 T74 (mkF m 286 #[sR r, sR b, sR no, sI (-1), sI 0, sI 0, sI 2, sI 0, sI 0, sI 0, sI 0, sI 0, sI 0, sI 1, sI 1] [(kR b), (kI 0), (kI 1), (kR fcm)]) := fun t k => K73 t (st74 t (by
    refine XS.iload X74.here hx rfl (hb hby d_add_278) rfl ?_
    refine XS.iload X74.here hx rfl (hb hby d_add_280) rfl ?_
    refine XS.iadd X74.here hx rfl (hb hby d_add_282) rfl ?_
    refine XS.iload X74.here hx rfl (hb hby d_add_283) rfl ?_
    refine XS.aloadN X74.here hx rfl (hb hby d_add_285) rfl rfl ?_
    exact k))
  obtain ⟨T76, X76, e76, st76⟩ := getR X74 hx hZ hown (hw _ (mi 119 rfl)) e74 (W72.fld (i := 1) rfl (j := 6) rfl rfl) (g := K75.g) rfl rfl (hb hby d_add_286)
  have K77 : Rch p e below s₁ F0 T76 (mkF m 293 #[sR r, sR b, sR no, sI (-1), sI 0, sI 0, sI 2, sI 0, sI 0, sI 0, sI 0, sI 0, sI 0, sI 1, sI 1] [(kI (Int32.ofNat x1)), (kI 1), (kR fcm)]) := fun t k => K75 t (st76 t (by
    refine XS.iload X76.here hx rfl (hb hby d_add_289) rfl ?_
    refine ialW X76 hx hZ e76 W72 (i := 17) rfl (j := (1 : Int32)) (k := 1) (by decide) (by decide) (by decide) (v := (.int (Int32.ofNat x1))) h_f2_1 (g := (mkF m 291 #[sR r, sR b, sR no, sI (-1), sI 0, sI 0, sI 2, sI 0, sI 0, sI 0, sI 0, sI 0, sI 0, sI 1, sI 1] [(kI 1), (kR fc), (kI 0), (kI 1), (kR fcm)])) rfl rfl (hb hby d_add_291) _ ?_
    refine XS.iadd X76.here hx rfl (hb hby d_add_292) rfl ?_
    show Steps p.tables e below (T76.setTop (mkF m 293 #[sR r, sR b, sR no, sI (-1), sI 0, sI 0, sI 2, sI 0, sI 0, sI 0, sI 0, sI 0, sI 0, sI 1, sI 1] [(kI ((0 : Int32) + (Int32.ofNat x1))), (kI 1), (kR fcm)])) _
    rw [Int32.zero_add]
    exact k))
  obtain ⟨T78, h78, L78, X78, e78, N78, W78q, st78⟩ := iasW X76 hx hZ e76 W72 N72 (i := 10) (a := fcm) rfl (j := (1 : Int32)) (x := (Int32.ofNat x1)) (k := 1) (by decide) (by decide) (by decide) (g := K77.g) rfl rfl (hb hby d_add_293)
  have W78 : Wo n0 h78 ((r, oR Z [(kR ks), (kR rgs), (kR ns), (kR fch), (kR fk), (kR kl), (kR frg), (kR fac), (kR fcm), (kR ftr), (kR acs), (kR cms), (kR sus), (kR prb), (kI 0), .null, (kI 0)]) :: (b, oB Z [.null, (kI 0), .null, (kI 0), (kR fa), (kR ac), (kR fc), (kR cm), (kR ft), (kR su), (kR pr), (kI 2), (kI 0), (kI (Int32.ofNat cq)), (kI 0), .null]) :: (ks, Ar Z .int 0 g_ks) :: (rgs, Ar Z .int 0 g_rgs) :: (ns, Ar Z .int 16 g_ns) :: (fch, Ar Z .int 17 g_fch) :: (fk, Ar Z .int 17 g_fk) :: (kl, Ar Z .int 16 g_kl) :: (frg, Ar Z .int 17 g_frg) :: (fac, Ar Z .int 17 (upd (upd g_fac 0 (kI 0)) 1 (kI 0))) :: (fcm, Ar Z .int 17 (upd (upd g_fcm 0 (kI (Int32.ofNat x0))) 1 (kI (Int32.ofNat x1)))) :: (ftr, Ar Z .int 17 (upd g_ftr 0 (kI 0))) :: (acs, Ar Z .int 16 g_acs) :: (cms, Ar Z .int 16 g_cms) :: (sus, Ar Z .int 64 g_sus) :: (prb, Ar Z .double 64 g_prb) :: (fa, Ar Z .int 2 f1) :: (fc, Ar Z .int 2 f2) :: (ft, Ar Z .int 2 f3) :: (ac, Ar Z .int 2 f4) :: (cm, Ar Z .int n f5) :: (su, Ar Z .int 4 f6) :: (pr, Ar Z .double 4 f7) :: (no, Ar Z .int 0 f8) :: Rr) := W78q
  have K79 : Rch p e below s₁ F0 T78 (mkF m 295 #[sR r, sR b, sR no, sI (-1), sI 0, sI 0, sI 2, sI 0, sI 0, sI 0, sI 0, sI 0, sI 0, sI 1, sI 1] [(kR r)]) := fun t k => K77 t (st78 t (XS.aloadN X78.here hx rfl (hb hby d_add_294) rfl rfl k))
  obtain ⟨T80, X80, e80, st80⟩ := getF X78 hx hZ hown (host := "") (Or.inl (hw _ (mi 35 rfl))) Via.refl e78 (W78.fld (i := 0) rfl (j := 9) rfl rfl) (g := K79.g) rfl rfl (hb hby d_add_295)
  have K81 : Rch p e below s₁ F0 T80 (mkF m 306 #[sR r, sR b, sR no, sI (-1), sI 0, sI 0, sI 2, sI 0, sI 0, sI 0, sI 0, sI 0, sI 0, sI 1, sI 1] [(kR b), (kI 0), (kI 1), (kR ftr)]) := fun t k => K79 t (st80 t (by
    refine XS.iload X80.here hx rfl (hb hby d_add_298) rfl ?_
    refine XS.iload X80.here hx rfl (hb hby d_add_300) rfl ?_
    refine XS.iadd X80.here hx rfl (hb hby d_add_302) rfl ?_
    refine XS.iload X80.here hx rfl (hb hby d_add_303) rfl ?_
    refine XS.aloadN X80.here hx rfl (hb hby d_add_305) rfl rfl ?_
    exact k))
  obtain ⟨T82, X82, e82, st82⟩ := getR X80 hx hZ hown (hw _ (mi 120 rfl)) e80 (W78.fld (i := 1) rfl (j := 8) rfl rfl) (g := K81.g) rfl rfl (hb hby d_add_306)
  have K83 : Rch p e below s₁ F0 T82 (mkF m 313 #[sR r, sR b, sR no, sI (-1), sI 0, sI 0, sI 2, sI 0, sI 0, sI 0, sI 0, sI 0, sI 0, sI 1, sI 1] [(kI 0), (kI 1), (kR ftr)]) := fun t k => K81 t (st82 t (by
    refine XS.iload X82.here hx rfl (hb hby d_add_309) rfl ?_
    refine ialW X82 hx hZ e82 W78 (i := 18) rfl (j := (1 : Int32)) (k := 1) (by decide) (by decide) (by decide) (v := (.int (0 : Int32))) h_f3_1 (g := (mkF m 311 #[sR r, sR b, sR no, sI (-1), sI 0, sI 0, sI 2, sI 0, sI 0, sI 0, sI 0, sI 0, sI 0, sI 1, sI 1] [(kI 1), (kR ft), (kI 0), (kI 1), (kR ftr)])) rfl rfl (hb hby d_add_311) _ ?_
    refine XS.iadd X82.here hx rfl (hb hby d_add_312) rfl ?_
    exact k))
  obtain ⟨T84, h84, L84, X84, e84, N84, W84q, st84⟩ := iasW X82 hx hZ e82 W78 N78 (i := 11) (a := ftr) rfl (j := (1 : Int32)) (x := (0 : Int32)) (k := 1) (by decide) (by decide) (by decide) (g := K83.g) rfl rfl (hb hby d_add_313)
  have W84 : Wo n0 h84 ((r, oR Z [(kR ks), (kR rgs), (kR ns), (kR fch), (kR fk), (kR kl), (kR frg), (kR fac), (kR fcm), (kR ftr), (kR acs), (kR cms), (kR sus), (kR prb), (kI 0), .null, (kI 0)]) :: (b, oB Z [.null, (kI 0), .null, (kI 0), (kR fa), (kR ac), (kR fc), (kR cm), (kR ft), (kR su), (kR pr), (kI 2), (kI 0), (kI (Int32.ofNat cq)), (kI 0), .null]) :: (ks, Ar Z .int 0 g_ks) :: (rgs, Ar Z .int 0 g_rgs) :: (ns, Ar Z .int 16 g_ns) :: (fch, Ar Z .int 17 g_fch) :: (fk, Ar Z .int 17 g_fk) :: (kl, Ar Z .int 16 g_kl) :: (frg, Ar Z .int 17 g_frg) :: (fac, Ar Z .int 17 (upd (upd g_fac 0 (kI 0)) 1 (kI 0))) :: (fcm, Ar Z .int 17 (upd (upd g_fcm 0 (kI (Int32.ofNat x0))) 1 (kI (Int32.ofNat x1)))) :: (ftr, Ar Z .int 17 (upd (upd g_ftr 0 (kI 0)) 1 (kI 0))) :: (acs, Ar Z .int 16 g_acs) :: (cms, Ar Z .int 16 g_cms) :: (sus, Ar Z .int 64 g_sus) :: (prb, Ar Z .double 64 g_prb) :: (fa, Ar Z .int 2 f1) :: (fc, Ar Z .int 2 f2) :: (ft, Ar Z .int 2 f3) :: (ac, Ar Z .int 2 f4) :: (cm, Ar Z .int n f5) :: (su, Ar Z .int 4 f6) :: (pr, Ar Z .double 4 f7) :: (no, Ar Z .int 0 f8) :: Rr) := W84q
  have K85 : Rch p e below s₁ F0 T84 (mkF m 321 #[sR r, sR b, sR no, sI (-1), sI 0, sI 0, sI 2, sI 0, sI 0, sI 0, sI 0, sI 0, sI 0, sI 1, sI 2] [(kR r)]) := fun t k => K83 t (st84 t (by
    refine XS.iinc X84.here hx rfl (hb hby d_add_314) rfl (l' := #[sR r, sR b, sR no, sI (-1), sI 0, sI 0, sI 2, sI 0, sI 0, sI 0, sI 0, sI 0, sI 0, sI 1, sI 2]) rfl ?_
    refine XS.goto X84.here hx rfl (pc0 := 317) (pc' := 247) rfl (hb hby d_add_317) (by decide) (by decide) ?_
    refine XS.iload X84.here hx rfl (hb hby d_add_247) rfl ?_
    refine XS.iload X84.here hx rfl (hb hby d_add_249) rfl ?_
    refine XS.icmpYes X84.here hx rfl (pc0 := 251) (pc' := 320) rfl (hb hby d_add_251) rfl (by decide) (by decide) (by decide) ?_
    refine XS.aloadN X84.here hx rfl (hb hby d_add_320) rfl rfl ?_
    exact k))
  obtain ⟨T86, X86, e86, st86⟩ := getF X84 hx hZ hown (host := "") (Or.inl (hw _ (mi 31 rfl))) Via.refl e84 (W84.fld (i := 0) rfl (j := 7) rfl rfl) (g := K85.g) rfl rfl (hb hby d_add_321)
  have K87 : Rch p e below s₁ F0 T86 (mkF m 332 #[sR r, sR b, sR no, sI (-1), sI 0, sI 0, sI 2, sI 0, sI 0, sI 0, sI 0, sI 0, sI 0, sI 1, sI 2] [(kR b), (kI 0), (kI 2), (kR fac)]) := fun t k => K85 t (st86 t (by
    refine XS.iload X86.here hx rfl (hb hby d_add_324) rfl ?_
    refine XS.iload X86.here hx rfl (hb hby d_add_326) rfl ?_
    refine XS.iadd X86.here hx rfl (hb hby d_add_328) rfl ?_
    refine XS.iload X86.here hx rfl (hb hby d_add_329) rfl ?_
    refine XS.aloadN X86.here hx rfl (hb hby d_add_331) rfl rfl ?_
    exact k))
  obtain ⟨T88, X88, e88, st88⟩ := getR X86 hx hZ hown (hw _ (mi 115 rfl)) e86 (W84.fld (i := 1) rfl (j := 12) rfl rfl) (g := K87.g) rfl rfl (hb hby d_add_332)
  have K89 : Rch p e below s₁ F0 T88 (mkF m 336 #[sR r, sR b, sR no, sI (-1), sI 0, sI 0, sI 2, sI 0, sI 0, sI 0, sI 0, sI 0, sI 0, sI 1, sI 2] [(kI 0), (kI 2), (kR fac)]) := fun t k => K87 t (st88 t (XS.iadd X88.here hx rfl (hb hby d_add_335) rfl k))
  obtain ⟨T90, h90, L90, X90, e90, N90, W90q, st90⟩ := iasW X88 hx hZ e88 W84 N84 (i := 9) (a := fac) rfl (j := (2 : Int32)) (x := (0 : Int32)) (k := 2) (by decide) (by decide) (by decide) (g := K89.g) rfl rfl (hb hby d_add_336)
  have W90 : Wo n0 h90 ((r, oR Z [(kR ks), (kR rgs), (kR ns), (kR fch), (kR fk), (kR kl), (kR frg), (kR fac), (kR fcm), (kR ftr), (kR acs), (kR cms), (kR sus), (kR prb), (kI 0), .null, (kI 0)]) :: (b, oB Z [.null, (kI 0), .null, (kI 0), (kR fa), (kR ac), (kR fc), (kR cm), (kR ft), (kR su), (kR pr), (kI 2), (kI 0), (kI (Int32.ofNat cq)), (kI 0), .null]) :: (ks, Ar Z .int 0 g_ks) :: (rgs, Ar Z .int 0 g_rgs) :: (ns, Ar Z .int 16 g_ns) :: (fch, Ar Z .int 17 g_fch) :: (fk, Ar Z .int 17 g_fk) :: (kl, Ar Z .int 16 g_kl) :: (frg, Ar Z .int 17 g_frg) :: (fac, Ar Z .int 17 (upd (upd (upd g_fac 0 (kI 0)) 1 (kI 0)) 2 (kI 0))) :: (fcm, Ar Z .int 17 (upd (upd g_fcm 0 (kI (Int32.ofNat x0))) 1 (kI (Int32.ofNat x1)))) :: (ftr, Ar Z .int 17 (upd (upd g_ftr 0 (kI 0)) 1 (kI 0))) :: (acs, Ar Z .int 16 g_acs) :: (cms, Ar Z .int 16 g_cms) :: (sus, Ar Z .int 64 g_sus) :: (prb, Ar Z .double 64 g_prb) :: (fa, Ar Z .int 2 f1) :: (fc, Ar Z .int 2 f2) :: (ft, Ar Z .int 2 f3) :: (ac, Ar Z .int 2 f4) :: (cm, Ar Z .int n f5) :: (su, Ar Z .int 4 f6) :: (pr, Ar Z .double 4 f7) :: (no, Ar Z .int 0 f8) :: Rr) := W90q
  have K91 : Rch p e below s₁ F0 T90 (mkF m 338 #[sR r, sR b, sR no, sI (-1), sI 0, sI 0, sI 2, sI 0, sI 0, sI 0, sI 0, sI 0, sI 0, sI 1, sI 2] [(kR r)]) := fun t k => K89 t (st90 t (XS.aloadN X90.here hx rfl (hb hby d_add_337) rfl rfl k))
  obtain ⟨T92, X92, e92, st92⟩ := getF X90 hx hZ hown (host := "") (Or.inl (hw _ (mi 33 rfl))) Via.refl e90 (W90.fld (i := 0) rfl (j := 8) rfl rfl) (g := K91.g) rfl rfl (hb hby d_add_338)
  have K93 : Rch p e below s₁ F0 T92 (mkF m 349 #[sR r, sR b, sR no, sI (-1), sI 0, sI 0, sI 2, sI 0, sI 0, sI 0, sI 0, sI 0, sI 0, sI 1, sI 2] [(kR b), (kI 0), (kI 2), (kR fcm)]) := fun t k => K91 t (st92 t (by
    refine XS.iload X92.here hx rfl (hb hby d_add_341) rfl ?_
    refine XS.iload X92.here hx rfl (hb hby d_add_343) rfl ?_
    refine XS.iadd X92.here hx rfl (hb hby d_add_345) rfl ?_
    refine XS.iload X92.here hx rfl (hb hby d_add_346) rfl ?_
    refine XS.aloadN X92.here hx rfl (hb hby d_add_348) rfl rfl ?_
    exact k))
  obtain ⟨T94, X94, e94, st94⟩ := getR X92 hx hZ hown (hw _ (mi 116 rfl)) e92 (W90.fld (i := 1) rfl (j := 13) rfl rfl) (g := K93.g) rfl rfl (hb hby d_add_349)
  have K95 : Rch p e below s₁ F0 T94 (mkF m 353 #[sR r, sR b, sR no, sI (-1), sI 0, sI 0, sI 2, sI 0, sI 0, sI 0, sI 0, sI 0, sI 0, sI 1, sI 2] [(kI (Int32.ofNat cq)), (kI 2), (kR fcm)]) := fun t k => K93 t (st94 t (by
    refine XS.iadd X94.here hx rfl (hb hby d_add_352) rfl ?_
    show Steps p.tables e below (T94.setTop (mkF m 353 #[sR r, sR b, sR no, sI (-1), sI 0, sI 0, sI 2, sI 0, sI 0, sI 0, sI 0, sI 0, sI 0, sI 1, sI 2] [(kI ((0 : Int32) + (Int32.ofNat cq))), (kI 2), (kR fcm)])) _
    rw [Int32.zero_add]
    exact k))
  obtain ⟨T96, h96, L96, X96, e96, N96, W96q, st96⟩ := iasW X94 hx hZ e94 W90 N90 (i := 10) (a := fcm) rfl (j := (2 : Int32)) (x := (Int32.ofNat cq)) (k := 2) (by decide) (by decide) (by decide) (g := K95.g) rfl rfl (hb hby d_add_353)
  have W96 : Wo n0 h96 ((r, oR Z [(kR ks), (kR rgs), (kR ns), (kR fch), (kR fk), (kR kl), (kR frg), (kR fac), (kR fcm), (kR ftr), (kR acs), (kR cms), (kR sus), (kR prb), (kI 0), .null, (kI 0)]) :: (b, oB Z [.null, (kI 0), .null, (kI 0), (kR fa), (kR ac), (kR fc), (kR cm), (kR ft), (kR su), (kR pr), (kI 2), (kI 0), (kI (Int32.ofNat cq)), (kI 0), .null]) :: (ks, Ar Z .int 0 g_ks) :: (rgs, Ar Z .int 0 g_rgs) :: (ns, Ar Z .int 16 g_ns) :: (fch, Ar Z .int 17 g_fch) :: (fk, Ar Z .int 17 g_fk) :: (kl, Ar Z .int 16 g_kl) :: (frg, Ar Z .int 17 g_frg) :: (fac, Ar Z .int 17 (upd (upd (upd g_fac 0 (kI 0)) 1 (kI 0)) 2 (kI 0))) :: (fcm, Ar Z .int 17 (upd (upd (upd g_fcm 0 (kI (Int32.ofNat x0))) 1 (kI (Int32.ofNat x1))) 2 (kI (Int32.ofNat cq)))) :: (ftr, Ar Z .int 17 (upd (upd g_ftr 0 (kI 0)) 1 (kI 0))) :: (acs, Ar Z .int 16 g_acs) :: (cms, Ar Z .int 16 g_cms) :: (sus, Ar Z .int 64 g_sus) :: (prb, Ar Z .double 64 g_prb) :: (fa, Ar Z .int 2 f1) :: (fc, Ar Z .int 2 f2) :: (ft, Ar Z .int 2 f3) :: (ac, Ar Z .int 2 f4) :: (cm, Ar Z .int n f5) :: (su, Ar Z .int 4 f6) :: (pr, Ar Z .double 4 f7) :: (no, Ar Z .int 0 f8) :: Rr) := W96q
  have K97 : Rch p e below s₁ F0 T96 (mkF m 355 #[sR r, sR b, sR no, sI (-1), sI 0, sI 0, sI 2, sI 0, sI 0, sI 0, sI 0, sI 0, sI 0, sI 1, sI 2] [(kR r)]) := fun t k => K95 t (st96 t (XS.aloadN X96.here hx rfl (hb hby d_add_354) rfl rfl k))
  obtain ⟨T98, X98, e98, st98⟩ := getF X96 hx hZ hown (host := "") (Or.inl (hw _ (mi 35 rfl))) Via.refl e96 (W96.fld (i := 0) rfl (j := 9) rfl rfl) (g := K97.g) rfl rfl (hb hby d_add_355)
  have K99 : Rch p e below s₁ F0 T98 (mkF m 366 #[sR r, sR b, sR no, sI (-1), sI 0, sI 0, sI 2, sI 0, sI 0, sI 0, sI 0, sI 0, sI 0, sI 1, sI 2] [(kR b), (kI 0), (kI 2), (kR ftr)]) := fun t k => K97 t (st98 t (by
    refine XS.iload X98.here hx rfl (hb hby d_add_358) rfl ?_
    refine XS.iload X98.here hx rfl (hb hby d_add_360) rfl ?_
    refine XS.iadd X98.here hx rfl (hb hby d_add_362) rfl ?_
    refine XS.iload X98.here hx rfl (hb hby d_add_363) rfl ?_
    refine XS.aloadN X98.here hx rfl (hb hby d_add_365) rfl rfl ?_
    exact k))
  obtain ⟨T100, X100, e100, st100⟩ := getR X98 hx hZ hown (hw _ (mi 117 rfl)) e98 (W96.fld (i := 1) rfl (j := 14) rfl rfl) (g := K99.g) rfl rfl (hb hby d_add_366)
  have K101 : Rch p e below s₁ F0 T100 (mkF m 370 #[sR r, sR b, sR no, sI (-1), sI 0, sI 0, sI 2, sI 0, sI 0, sI 0, sI 0, sI 0, sI 0, sI 1, sI 2] [(kI 0), (kI 2), (kR ftr)]) := fun t k => K99 t (st100 t (XS.iadd X100.here hx rfl (hb hby d_add_369) rfl k))
  obtain ⟨T102, h102, L102, X102, e102, N102, W102q, st102⟩ := iasW X100 hx hZ e100 W96 N96 (i := 11) (a := ftr) rfl (j := (2 : Int32)) (x := (0 : Int32)) (k := 2) (by decide) (by decide) (by decide) (g := K101.g) rfl rfl (hb hby d_add_370)
  have W102 : Wo n0 h102 ((r, oR Z [(kR ks), (kR rgs), (kR ns), (kR fch), (kR fk), (kR kl), (kR frg), (kR fac), (kR fcm), (kR ftr), (kR acs), (kR cms), (kR sus), (kR prb), (kI 0), .null, (kI 0)]) :: (b, oB Z [.null, (kI 0), .null, (kI 0), (kR fa), (kR ac), (kR fc), (kR cm), (kR ft), (kR su), (kR pr), (kI 2), (kI 0), (kI (Int32.ofNat cq)), (kI 0), .null]) :: (ks, Ar Z .int 0 g_ks) :: (rgs, Ar Z .int 0 g_rgs) :: (ns, Ar Z .int 16 g_ns) :: (fch, Ar Z .int 17 g_fch) :: (fk, Ar Z .int 17 g_fk) :: (kl, Ar Z .int 16 g_kl) :: (frg, Ar Z .int 17 g_frg) :: (fac, Ar Z .int 17 (upd (upd (upd g_fac 0 (kI 0)) 1 (kI 0)) 2 (kI 0))) :: (fcm, Ar Z .int 17 (upd (upd (upd g_fcm 0 (kI (Int32.ofNat x0))) 1 (kI (Int32.ofNat x1))) 2 (kI (Int32.ofNat cq)))) :: (ftr, Ar Z .int 17 (upd (upd (upd g_ftr 0 (kI 0)) 1 (kI 0)) 2 (kI 0))) :: (acs, Ar Z .int 16 g_acs) :: (cms, Ar Z .int 16 g_cms) :: (sus, Ar Z .int 64 g_sus) :: (prb, Ar Z .double 64 g_prb) :: (fa, Ar Z .int 2 f1) :: (fc, Ar Z .int 2 f2) :: (ft, Ar Z .int 2 f3) :: (ac, Ar Z .int 2 f4) :: (cm, Ar Z .int n f5) :: (su, Ar Z .int 4 f6) :: (pr, Ar Z .double 4 f7) :: (no, Ar Z .int 0 f8) :: Rr) := W102q
  have K103 : Rch p e below s₁ F0 T102 (mkF m 372 #[sR r, sR b, sR no, sI (-1), sI 0, sI 0, sI 2, sI 0, sI 0, sI 0, sI 0, sI 0, sI 0, sI 1, sI 2] [(kR b)]) := fun t k => K101 t (st102 t (XS.aloadN X102.here hx rfl (hb hby d_add_371) rfl rfl k))
  obtain ⟨T104, X104, e104, st104⟩ := getR X102 hx hZ hown (hw _ (mi 121 rfl)) e102 (W102.fld (i := 1) rfl (j := 5) rfl rfl) (g := K103.g) rfl rfl (hb hby d_add_372)
  have K105 : Rch p e below s₁ F0 T104 (mkF m 377 #[sR r, sR b, sR no, sI (-1), sI 0, sI 0, sI 2, sI 0, sI 0, sI 0, sI 0, sI 0, sI 0, sI 1, sI 2] [(kR r), (kI 0), (kR ac)]) := fun t k => K103 t (st104 t (by
    refine XS.iconst X104.here hx rfl (hb hby d_add_375) ?_
    refine XS.aloadN X104.here hx rfl (hb hby d_add_376) rfl rfl ?_
    exact k))
  obtain ⟨T106, X106, e106, st106⟩ := getF X104 hx hZ hown (host := "") (Or.inl (hw _ (mi 37 rfl))) Via.refl e104 (W102.fld (i := 0) rfl (j := 10) rfl rfl) (g := K105.g) rfl rfl (hb hby d_add_377)
  have K107 : Rch p e below s₁ F0 T106 (mkF m 383 #[sR r, sR b, sR no, sI (-1), sI 0, sI 0, sI 2, sI 0, sI 0, sI 0, sI 0, sI 0, sI 0, sI 1, sI 2] [(kR b), (kI 0), (kR acs), (kI 0), (kR ac)]) := fun t k => K105 t (st106 t (by
    refine XS.iload X106.here hx rfl (hb hby d_add_380) rfl ?_
    refine XS.aloadN X106.here hx rfl (hb hby d_add_382) rfl rfl ?_
    exact k))
  obtain ⟨T108, X108, e108, st108⟩ := getR X106 hx hZ hown (hw _ (mi 115 rfl)) e106 (W102.fld (i := 1) rfl (j := 12) rfl rfl) (g := K107.g) rfl rfl (hb hby d_add_383)
  obtain ⟨T109, h109, L109, X109, e109, N109, W109q, st109⟩ := cpW X108 hx hZ hown (hw _ (mi 122 rfl)) (hw _ (mi 125 rfl)) (hw _ (mi 123 rfl)) (hw _ (mi 124 rfl)) e108 W102 N102 (i := 19) (j := 12) rfl rfl rfl (sp := (0 : Int32)) (dp := (0 : Int32)) (nn := (0 : Int32)) (s' := 0) (d' := 0) (k' := 0) (by decide) (by decide) (by decide) (by decide) (by decide) (by decide) (by decide) (by decide) (g := (mkF m 386 #[sR r, sR b, sR no, sI (-1), sI 0, sI 0, sI 2, sI 0, sI 0, sI 0, sI 0, sI 0, sI 0, sI 1, sI 2] [(kI 0), (kI 0), (kR acs), (kI 0), (kR ac)])) rfl (by rw [hml]; rfl) (rest := []) rfl (hb hby d_add_386) (by decide) (W0 := 0) (by show 2 * 0 + _ ≤ _; exact Nat.le_of_eq rfl) (by decide)
  have W109 : Wo n0 h109 ((r, oR Z [(kR ks), (kR rgs), (kR ns), (kR fch), (kR fk), (kR kl), (kR frg), (kR fac), (kR fcm), (kR ftr), (kR acs), (kR cms), (kR sus), (kR prb), (kI 0), .null, (kI 0)]) :: (b, oB Z [.null, (kI 0), .null, (kI 0), (kR fa), (kR ac), (kR fc), (kR cm), (kR ft), (kR su), (kR pr), (kI 2), (kI 0), (kI (Int32.ofNat cq)), (kI 0), .null]) :: (ks, Ar Z .int 0 g_ks) :: (rgs, Ar Z .int 0 g_rgs) :: (ns, Ar Z .int 16 g_ns) :: (fch, Ar Z .int 17 g_fch) :: (fk, Ar Z .int 17 g_fk) :: (kl, Ar Z .int 16 g_kl) :: (frg, Ar Z .int 17 g_frg) :: (fac, Ar Z .int 17 (upd (upd (upd g_fac 0 (kI 0)) 1 (kI 0)) 2 (kI 0))) :: (fcm, Ar Z .int 17 (upd (upd (upd g_fcm 0 (kI (Int32.ofNat x0))) 1 (kI (Int32.ofNat x1))) 2 (kI (Int32.ofNat cq)))) :: (ftr, Ar Z .int 17 (upd (upd (upd g_ftr 0 (kI 0)) 1 (kI 0)) 2 (kI 0))) :: (acs, Ar Z .int 16 (cpy f4 g_acs 0 0 0)) :: (cms, Ar Z .int 16 g_cms) :: (sus, Ar Z .int 64 g_sus) :: (prb, Ar Z .double 64 g_prb) :: (fa, Ar Z .int 2 f1) :: (fc, Ar Z .int 2 f2) :: (ft, Ar Z .int 2 f3) :: (ac, Ar Z .int 2 f4) :: (cm, Ar Z .int n f5) :: (su, Ar Z .int 4 f6) :: (pr, Ar Z .double 4 f7) :: (no, Ar Z .int 0 f8) :: Rr) := W109q
  have K110 : Rch p e below s₁ F0 T109 (mkF m 390 #[sR r, sR b, sR no, sI (-1), sI 0, sI 0, sI 2, sI 0, sI 0, sI 0, sI 0, sI 0, sI 0, sI 1, sI 2] [(kR b)]) := fun t k => K107 t (st108 t (st109 t (XS.aloadN X109.here hx rfl (hb hby d_add_389) rfl rfl k)))
  obtain ⟨T111, X111, e111, st111⟩ := getR X109 hx hZ hown (hw _ (mi 126 rfl)) e109 (W109.fld (i := 1) rfl (j := 7) rfl rfl) (g := K110.g) rfl rfl (hb hby d_add_390)
  have K112 : Rch p e below s₁ F0 T111 (mkF m 395 #[sR r, sR b, sR no, sI (-1), sI 0, sI 0, sI 2, sI 0, sI 0, sI 0, sI 0, sI 0, sI 0, sI 1, sI 2] [(kR r), (kI 0), (kR cm)]) := fun t k => K110 t (st111 t (by
    refine XS.iconst X111.here hx rfl (hb hby d_add_393) ?_
    refine XS.aloadN X111.here hx rfl (hb hby d_add_394) rfl rfl ?_
    exact k))
  obtain ⟨T113, X113, e113, st113⟩ := getF X111 hx hZ hown (host := "") (Or.inl (hw _ (mi 39 rfl))) Via.refl e111 (W109.fld (i := 0) rfl (j := 11) rfl rfl) (g := K112.g) rfl rfl (hb hby d_add_395)
  have K114 : Rch p e below s₁ F0 T113 (mkF m 401 #[sR r, sR b, sR no, sI (-1), sI 0, sI 0, sI 2, sI 0, sI 0, sI 0, sI 0, sI 0, sI 0, sI 1, sI 2] [(kR b), (kI 0), (kR cms), (kI 0), (kR cm)]) := fun t k => K112 t (st113 t (by
    refine XS.iload X113.here hx rfl (hb hby d_add_398) rfl ?_
    refine XS.aloadN X113.here hx rfl (hb hby d_add_400) rfl rfl ?_
    exact k))
  obtain ⟨T115, X115, e115, st115⟩ := getR X113 hx hZ hown (hw _ (mi 116 rfl)) e113 (W109.fld (i := 1) rfl (j := 13) rfl rfl) (g := K114.g) rfl rfl (hb hby d_add_401)
  obtain ⟨T116, h116, L116, X116, e116, N116, W116q, st116⟩ := cpW X115 hx hZ hown (hw _ (mi 122 rfl)) (hw _ (mi 125 rfl)) (hw _ (mi 123 rfl)) (hw _ (mi 124 rfl)) e115 W109 N109 (i := 20) (j := 13) rfl rfl rfl (sp := (0 : Int32)) (dp := (0 : Int32)) (nn := (Int32.ofNat cq)) (s' := 0) (d' := 0) (k' := cq) (by decide) (by decide) (own_nn (by omega)) (by decide) (by decide) (own_tn (by omega)) (by omega) (by omega) (g := (mkF m 404 #[sR r, sR b, sR no, sI (-1), sI 0, sI 0, sI 2, sI 0, sI 0, sI 0, sI 0, sI 0, sI 0, sI 1, sI 2] [(kI (Int32.ofNat cq)), (kI 0), (kR cms), (kI 0), (kR cm)])) rfl (by rw [hml]; rfl) (rest := []) rfl (hb hby d_add_404) (by decide) (W0 := 0) (by show 2 * 0 + _ ≤ _; exact Nat.le_of_eq rfl) (by decide)
  have W116 : Wo n0 h116 ((r, oR Z [(kR ks), (kR rgs), (kR ns), (kR fch), (kR fk), (kR kl), (kR frg), (kR fac), (kR fcm), (kR ftr), (kR acs), (kR cms), (kR sus), (kR prb), (kI 0), .null, (kI 0)]) :: (b, oB Z [.null, (kI 0), .null, (kI 0), (kR fa), (kR ac), (kR fc), (kR cm), (kR ft), (kR su), (kR pr), (kI 2), (kI 0), (kI (Int32.ofNat cq)), (kI 0), .null]) :: (ks, Ar Z .int 0 g_ks) :: (rgs, Ar Z .int 0 g_rgs) :: (ns, Ar Z .int 16 g_ns) :: (fch, Ar Z .int 17 g_fch) :: (fk, Ar Z .int 17 g_fk) :: (kl, Ar Z .int 16 g_kl) :: (frg, Ar Z .int 17 g_frg) :: (fac, Ar Z .int 17 (upd (upd (upd g_fac 0 (kI 0)) 1 (kI 0)) 2 (kI 0))) :: (fcm, Ar Z .int 17 (upd (upd (upd g_fcm 0 (kI (Int32.ofNat x0))) 1 (kI (Int32.ofNat x1))) 2 (kI (Int32.ofNat cq)))) :: (ftr, Ar Z .int 17 (upd (upd (upd g_ftr 0 (kI 0)) 1 (kI 0)) 2 (kI 0))) :: (acs, Ar Z .int 16 (cpy f4 g_acs 0 0 0)) :: (cms, Ar Z .int 16 (cpy f5 g_cms 0 0 cq)) :: (sus, Ar Z .int 64 g_sus) :: (prb, Ar Z .double 64 g_prb) :: (fa, Ar Z .int 2 f1) :: (fc, Ar Z .int 2 f2) :: (ft, Ar Z .int 2 f3) :: (ac, Ar Z .int 2 f4) :: (cm, Ar Z .int n f5) :: (su, Ar Z .int 4 f6) :: (pr, Ar Z .double 4 f7) :: (no, Ar Z .int 0 f8) :: Rr) := W116q
  have K117 : Rch p e below s₁ F0 T116 (mkF m 408 #[sR r, sR b, sR no, sI (-1), sI 0, sI 0, sI 2, sI 0, sI 0, sI 0, sI 0, sI 0, sI 0, sI 1, sI 2] [(kR b)]) := fun t k => K114 t (st115 t (st116 t (XS.aloadN X116.here hx rfl (hb hby d_add_407) rfl rfl k)))
  obtain ⟨T118, X118, e118, st118⟩ := getR X116 hx hZ hown (hw _ (mi 127 rfl)) e116 (W116.fld (i := 1) rfl (j := 9) rfl rfl) (g := K117.g) rfl rfl (hb hby d_add_408)
  have K119 : Rch p e below s₁ F0 T118 (mkF m 413 #[sR r, sR b, sR no, sI (-1), sI 0, sI 0, sI 2, sI 0, sI 0, sI 0, sI 0, sI 0, sI 0, sI 1, sI 2] [(kR r), (kI 0), (kR su)]) := fun t k => K117 t (st118 t (by
    refine XS.iconst X118.here hx rfl (hb hby d_add_411) ?_
    refine XS.aloadN X118.here hx rfl (hb hby d_add_412) rfl rfl ?_
    exact k))
  obtain ⟨T120, X120, e120, st120⟩ := getF X118 hx hZ hown (host := "") (Or.inl (hw _ (mi 41 rfl))) Via.refl e118 (W116.fld (i := 0) rfl (j := 12) rfl rfl) (g := K119.g) rfl rfl (hb hby d_add_413)
  have K121 : Rch p e below s₁ F0 T120 (mkF m 419 #[sR r, sR b, sR no, sI (-1), sI 0, sI 0, sI 2, sI 0, sI 0, sI 0, sI 0, sI 0, sI 0, sI 1, sI 2] [(kR b), (kI 0), (kR sus), (kI 0), (kR su)]) := fun t k => K119 t (st120 t (by
    refine XS.iload X120.here hx rfl (hb hby d_add_416) rfl ?_
    refine XS.aloadN X120.here hx rfl (hb hby d_add_418) rfl rfl ?_
    exact k))
  obtain ⟨T122, X122, e122, st122⟩ := getR X120 hx hZ hown (hw _ (mi 117 rfl)) e120 (W116.fld (i := 1) rfl (j := 14) rfl rfl) (g := K121.g) rfl rfl (hb hby d_add_419)
  obtain ⟨T123, h123, L123, X123, e123, N123, W123q, st123⟩ := cpW X122 hx hZ hown (hw _ (mi 122 rfl)) (hw _ (mi 125 rfl)) (hw _ (mi 123 rfl)) (hw _ (mi 124 rfl)) e122 W116 N116 (i := 21) (j := 14) rfl rfl rfl (sp := (0 : Int32)) (dp := (0 : Int32)) (nn := (0 : Int32)) (s' := 0) (d' := 0) (k' := 0) (by decide) (by decide) (by decide) (by decide) (by decide) (by decide) (by decide) (by decide) (g := (mkF m 422 #[sR r, sR b, sR no, sI (-1), sI 0, sI 0, sI 2, sI 0, sI 0, sI 0, sI 0, sI 0, sI 0, sI 1, sI 2] [(kI 0), (kI 0), (kR sus), (kI 0), (kR su)])) rfl (by rw [hml]; rfl) (rest := []) rfl (hb hby d_add_422) (by decide) (W0 := 0) (by show 2 * 0 + _ ≤ _; exact Nat.le_of_eq rfl) (by decide)
  have W123 : Wo n0 h123 ((r, oR Z [(kR ks), (kR rgs), (kR ns), (kR fch), (kR fk), (kR kl), (kR frg), (kR fac), (kR fcm), (kR ftr), (kR acs), (kR cms), (kR sus), (kR prb), (kI 0), .null, (kI 0)]) :: (b, oB Z [.null, (kI 0), .null, (kI 0), (kR fa), (kR ac), (kR fc), (kR cm), (kR ft), (kR su), (kR pr), (kI 2), (kI 0), (kI (Int32.ofNat cq)), (kI 0), .null]) :: (ks, Ar Z .int 0 g_ks) :: (rgs, Ar Z .int 0 g_rgs) :: (ns, Ar Z .int 16 g_ns) :: (fch, Ar Z .int 17 g_fch) :: (fk, Ar Z .int 17 g_fk) :: (kl, Ar Z .int 16 g_kl) :: (frg, Ar Z .int 17 g_frg) :: (fac, Ar Z .int 17 (upd (upd (upd g_fac 0 (kI 0)) 1 (kI 0)) 2 (kI 0))) :: (fcm, Ar Z .int 17 (upd (upd (upd g_fcm 0 (kI (Int32.ofNat x0))) 1 (kI (Int32.ofNat x1))) 2 (kI (Int32.ofNat cq)))) :: (ftr, Ar Z .int 17 (upd (upd (upd g_ftr 0 (kI 0)) 1 (kI 0)) 2 (kI 0))) :: (acs, Ar Z .int 16 (cpy f4 g_acs 0 0 0)) :: (cms, Ar Z .int 16 (cpy f5 g_cms 0 0 cq)) :: (sus, Ar Z .int 64 (cpy f6 g_sus 0 0 0)) :: (prb, Ar Z .double 64 g_prb) :: (fa, Ar Z .int 2 f1) :: (fc, Ar Z .int 2 f2) :: (ft, Ar Z .int 2 f3) :: (ac, Ar Z .int 2 f4) :: (cm, Ar Z .int n f5) :: (su, Ar Z .int 4 f6) :: (pr, Ar Z .double 4 f7) :: (no, Ar Z .int 0 f8) :: Rr) := W123q
  have K124 : Rch p e below s₁ F0 T123 (mkF m 426 #[sR r, sR b, sR no, sI (-1), sI 0, sI 0, sI 2, sI 0, sI 0, sI 0, sI 0, sI 0, sI 0, sI 1, sI 2] [(kR b)]) := fun t k => K121 t (st122 t (st123 t (XS.aloadN X123.here hx rfl (hb hby d_add_425) rfl rfl k)))
  obtain ⟨T125, X125, e125, st125⟩ := getR X123 hx hZ hown (hw _ (mi 111 rfl)) e123 (W123.fld (i := 1) rfl (j := 0) rfl rfl) (g := K124.g) rfl rfl (hb hby d_add_426)
  have K126 : Rch p e below s₁ F0 T125 (mkF m 454 #[sR r, sR b, sR no, sI (-1), sI 0, sI 0, sI 2, sI 0, sI 0, sI 0, sI 0, sI 0, sI 0, sI 1, sI 2] [(kR r), (kI 0), (kR no)]) := fun t k => K124 t (st125 t (by
    refine XS.ifnullYes X125.here hx rfl (pc0 := 429) (pc' := 451) rfl (hb hby d_add_429) rfl (by decide) (by decide) ?_
    refine XS.aloadN X125.here hx rfl (hb hby d_add_451) rfl rfl ?_
    refine XS.iconst X125.here hx rfl (hb hby d_add_452) ?_
    refine XS.aloadN X125.here hx rfl (hb hby d_add_453) rfl rfl ?_
    exact k))
  obtain ⟨T127, X127, e127, st127⟩ := getF X125 hx hZ hown (host := "") (Or.inl (hw _ (mi 19 rfl))) Via.refl e125 (W123.fld (i := 0) rfl (j := 1) rfl rfl) (g := K126.g) rfl rfl (hb hby d_add_454)
  have K128 : Rch p e below s₁ F0 T127 (mkF m 461 #[sR r, sR b, sR no, sI (-1), sI 0, sI 0, sI 2, sI 0, sI 0, sI 0, sI 0, sI 0, sI 0, sI 1, sI 2] [(kI 0), (kI 0), (kR rgs), (kI 0), (kR no)]) := fun t k => K126 t (st127 t (by
    refine XS.iload X127.here hx rfl (hb hby d_add_457) rfl ?_
    refine XS.aloadN X127.here hx rfl (hb hby d_add_459) rfl rfl ?_
    refine lenW X127 hx hZ e127 W123 (i := 23) rfl (fun _ q => q) (z := (0 : Int32)) (by decide) (g := (mkF m 460 #[sR r, sR b, sR no, sI (-1), sI 0, sI 0, sI 2, sI 0, sI 0, sI 0, sI 0, sI 0, sI 0, sI 1, sI 2] [(kR no), (kI 0), (kR rgs), (kI 0), (kR no)])) rfl rfl (hb hby d_add_460) _ ?_
    exact k))
  obtain ⟨T129, h129, L129, X129, e129, N129, W129q, st129⟩ := cpW X127 hx hZ hown (hw _ (mi 122 rfl)) (hw _ (mi 125 rfl)) (hw _ (mi 123 rfl)) (hw _ (mi 124 rfl)) e127 W123 N123 (i := 23) (j := 3) rfl rfl rfl (sp := (0 : Int32)) (dp := (0 : Int32)) (nn := (0 : Int32)) (s' := 0) (d' := 0) (k' := 0) (by decide) (by decide) (by decide) (by decide) (by decide) (by decide) (by decide) (by decide) (g := K128.g) rfl (by rw [hml]; rfl) (rest := []) rfl (hb hby d_add_461) (by decide) (W0 := 0) (by show 2 * 0 + _ ≤ _; exact Nat.le_of_eq rfl) (by decide)
  have W129 : Wo n0 h129 ((r, oR Z [(kR ks), (kR rgs), (kR ns), (kR fch), (kR fk), (kR kl), (kR frg), (kR fac), (kR fcm), (kR ftr), (kR acs), (kR cms), (kR sus), (kR prb), (kI 0), .null, (kI 0)]) :: (b, oB Z [.null, (kI 0), .null, (kI 0), (kR fa), (kR ac), (kR fc), (kR cm), (kR ft), (kR su), (kR pr), (kI 2), (kI 0), (kI (Int32.ofNat cq)), (kI 0), .null]) :: (ks, Ar Z .int 0 g_ks) :: (rgs, Ar Z .int 0 (cpy f8 g_rgs 0 0 0)) :: (ns, Ar Z .int 16 g_ns) :: (fch, Ar Z .int 17 g_fch) :: (fk, Ar Z .int 17 g_fk) :: (kl, Ar Z .int 16 g_kl) :: (frg, Ar Z .int 17 g_frg) :: (fac, Ar Z .int 17 (upd (upd (upd g_fac 0 (kI 0)) 1 (kI 0)) 2 (kI 0))) :: (fcm, Ar Z .int 17 (upd (upd (upd g_fcm 0 (kI (Int32.ofNat x0))) 1 (kI (Int32.ofNat x1))) 2 (kI (Int32.ofNat cq)))) :: (ftr, Ar Z .int 17 (upd (upd (upd g_ftr 0 (kI 0)) 1 (kI 0)) 2 (kI 0))) :: (acs, Ar Z .int 16 (cpy f4 g_acs 0 0 0)) :: (cms, Ar Z .int 16 (cpy f5 g_cms 0 0 cq)) :: (sus, Ar Z .int 64 (cpy f6 g_sus 0 0 0)) :: (prb, Ar Z .double 64 g_prb) :: (fa, Ar Z .int 2 f1) :: (fc, Ar Z .int 2 f2) :: (ft, Ar Z .int 2 f3) :: (ac, Ar Z .int 2 f4) :: (cm, Ar Z .int n f5) :: (su, Ar Z .int 4 f6) :: (pr, Ar Z .double 4 f7) :: (no, Ar Z .int 0 f8) :: Rr) := W129q
  have K130 : Rch p e below s₁ F0 T129 (mkF m 465 #[sR r, sR b, sR no, sI (-1), sI 0, sI 0, sI 2, sI 0, sI 0, sI 0, sI 0, sI 0, sI 0, sI 1, sI 2] [(kR r)]) := fun t k => K128 t (st129 t (XS.aloadN X129.here hx rfl (hb hby d_add_464) rfl rfl k))
  obtain ⟨T131, X131, e131, st131⟩ := getF X129 hx hZ hown (host := "") (Or.inl (hw _ (mi 21 rfl))) Via.refl e129 (W129.fld (i := 0) rfl (j := 2) rfl rfl) (g := K130.g) rfl rfl (hb hby d_add_465)
  have K132 : Rch p e below s₁ F0 T131 (mkF m 471 #[sR r, sR b, sR no, sI (-1), sI 0, sI 0, sI 2, sI 0, sI 0, sI 0, sI 0, sI 0, sI 0, sI 1, sI 2] [(kI (-1)), (kI 0), (kR ns)]) := fun t k => K130 t (st131 t (by
    refine XS.iload X131.here hx rfl (hb hby d_add_468) rfl ?_
    refine XS.iloadN X131.here hx rfl (hb hby d_add_470) rfl ?_
    exact k))
  obtain ⟨T133, h133, L133, X133, e133, N133, W133q, st133⟩ := iasW X131 hx hZ e131 W129 N129 (i := 4) (a := ns) rfl (j := (0 : Int32)) (x := (-1 : Int32)) (k := 0) (by decide) (by decide) (by decide) (g := K132.g) rfl rfl (hb hby d_add_471)
  have W133 : Wo n0 h133 ((r, oR Z [(kR ks), (kR rgs), (kR ns), (kR fch), (kR fk), (kR kl), (kR frg), (kR fac), (kR fcm), (kR ftr), (kR acs), (kR cms), (kR sus), (kR prb), (kI 0), .null, (kI 0)]) :: (b, oB Z [.null, (kI 0), .null, (kI 0), (kR fa), (kR ac), (kR fc), (kR cm), (kR ft), (kR su), (kR pr), (kI 2), (kI 0), (kI (Int32.ofNat cq)), (kI 0), .null]) :: (ks, Ar Z .int 0 g_ks) :: (rgs, Ar Z .int 0 (cpy f8 g_rgs 0 0 0)) :: (ns, Ar Z .int 16 (upd g_ns 0 (kI (-1)))) :: (fch, Ar Z .int 17 g_fch) :: (fk, Ar Z .int 17 g_fk) :: (kl, Ar Z .int 16 g_kl) :: (frg, Ar Z .int 17 g_frg) :: (fac, Ar Z .int 17 (upd (upd (upd g_fac 0 (kI 0)) 1 (kI 0)) 2 (kI 0))) :: (fcm, Ar Z .int 17 (upd (upd (upd g_fcm 0 (kI (Int32.ofNat x0))) 1 (kI (Int32.ofNat x1))) 2 (kI (Int32.ofNat cq)))) :: (ftr, Ar Z .int 17 (upd (upd (upd g_ftr 0 (kI 0)) 1 (kI 0)) 2 (kI 0))) :: (acs, Ar Z .int 16 (cpy f4 g_acs 0 0 0)) :: (cms, Ar Z .int 16 (cpy f5 g_cms 0 0 cq)) :: (sus, Ar Z .int 64 (cpy f6 g_sus 0 0 0)) :: (prb, Ar Z .double 64 g_prb) :: (fa, Ar Z .int 2 f1) :: (fc, Ar Z .int 2 f2) :: (ft, Ar Z .int 2 f3) :: (ac, Ar Z .int 2 f4) :: (cm, Ar Z .int n f5) :: (su, Ar Z .int 4 f6) :: (pr, Ar Z .double 4 f7) :: (no, Ar Z .int 0 f8) :: Rr) := W133q
  have K134 : Rch p e below s₁ F0 T133 (mkF m 473 #[sR r, sR b, sR no, sI (-1), sI 0, sI 0, sI 2, sI 0, sI 0, sI 0, sI 0, sI 0, sI 0, sI 1, sI 2] [(kR r)]) := fun t k => K132 t (st133 t (XS.aloadN X133.here hx rfl (hb hby d_add_472) rfl rfl k))
  obtain ⟨T135, X135, e135, st135⟩ := getF X133 hx hZ hown (host := "") (Or.inl (hw _ (mi 27 rfl))) Via.refl e133 (W133.fld (i := 0) rfl (j := 5) rfl rfl) (g := K134.g) rfl rfl (hb hby d_add_473)
  have K136 : Rch p e below s₁ F0 T135 (mkF m 479 #[sR r, sR b, sR no, sI (-1), sI 0, sI 0, sI 2, sI 0, sI 0, sI 0, sI 0, sI 0, sI 0, sI 1, sI 2] [(kR b), (kI 0), (kR kl)]) := fun t k => K134 t (st135 t (by
    refine XS.iload X135.here hx rfl (hb hby d_add_476) rfl ?_
    refine XS.aloadN X135.here hx rfl (hb hby d_add_478) rfl rfl ?_
    exact k))
  obtain ⟨T137, X137, e137, st137⟩ := getR X135 hx hZ hown (hw _ (mi 111 rfl)) e135 (W133.fld (i := 1) rfl (j := 0) rfl rfl) (g := K136.g) rfl rfl (hb hby d_add_479)
  have K138 : Rch p e below s₁ F0 T137 (mkF m 494 #[sR r, sR b, sR no, sI (-1), sI 0, sI 0, sI 2, sI 0, sI 0, sI 0, sI 0, sI 0, sI 0, sI 1, sI 2] [(kI (-1)), (kI 0), (kR kl)]) := fun t k => K136 t (st137 t (by
    refine XS.ifnonnullNo X137.here hx rfl (hb hby d_add_482) rfl ?_
    refine XS.iconst X137.here hx rfl (hb hby d_add_485) ?_
    refine XS.goto X137.here hx rfl (pc0 := 486) (pc' := 494) rfl (hb hby d_add_486) (by decide) (by decide) ?_
    exact k))
  obtain ⟨T139, h139, L139, X139, e139, N139, W139q, st139⟩ := iasW X137 hx hZ e137 W133 N133 (i := 7) (a := kl) rfl (j := (0 : Int32)) (x := (-1 : Int32)) (k := 0) (by decide) (by decide) (by decide) (g := K138.g) rfl rfl (hb hby d_add_494)
  have W139 : Wo n0 h139 ((r, oR Z [(kR ks), (kR rgs), (kR ns), (kR fch), (kR fk), (kR kl), (kR frg), (kR fac), (kR fcm), (kR ftr), (kR acs), (kR cms), (kR sus), (kR prb), (kI 0), .null, (kI 0)]) :: (b, oB Z [.null, (kI 0), .null, (kI 0), (kR fa), (kR ac), (kR fc), (kR cm), (kR ft), (kR su), (kR pr), (kI 2), (kI 0), (kI (Int32.ofNat cq)), (kI 0), .null]) :: (ks, Ar Z .int 0 g_ks) :: (rgs, Ar Z .int 0 (cpy f8 g_rgs 0 0 0)) :: (ns, Ar Z .int 16 (upd g_ns 0 (kI (-1)))) :: (fch, Ar Z .int 17 g_fch) :: (fk, Ar Z .int 17 g_fk) :: (kl, Ar Z .int 16 (upd g_kl 0 (kI (-1)))) :: (frg, Ar Z .int 17 g_frg) :: (fac, Ar Z .int 17 (upd (upd (upd g_fac 0 (kI 0)) 1 (kI 0)) 2 (kI 0))) :: (fcm, Ar Z .int 17 (upd (upd (upd g_fcm 0 (kI (Int32.ofNat x0))) 1 (kI (Int32.ofNat x1))) 2 (kI (Int32.ofNat cq)))) :: (ftr, Ar Z .int 17 (upd (upd (upd g_ftr 0 (kI 0)) 1 (kI 0)) 2 (kI 0))) :: (acs, Ar Z .int 16 (cpy f4 g_acs 0 0 0)) :: (cms, Ar Z .int 16 (cpy f5 g_cms 0 0 cq)) :: (sus, Ar Z .int 64 (cpy f6 g_sus 0 0 0)) :: (prb, Ar Z .double 64 g_prb) :: (fa, Ar Z .int 2 f1) :: (fc, Ar Z .int 2 f2) :: (ft, Ar Z .int 2 f3) :: (ac, Ar Z .int 2 f4) :: (cm, Ar Z .int n f5) :: (su, Ar Z .int 4 f6) :: (pr, Ar Z .double 4 f7) :: (no, Ar Z .int 0 f8) :: Rr) := W139q
  have K140 : Rch p e below s₁ F0 T139 (mkF m 496 #[sR r, sR b, sR no, sI (-1), sI 0, sI 0, sI 2, sI 0, sI 0, sI 0, sI 0, sI 0, sI 0, sI 1, sI 2] [(kR r)]) := fun t k => K138 t (st139 t (XS.aloadN X139.here hx rfl (hb hby d_add_495) rfl rfl k))
  obtain ⟨T141, X141, e141, st141⟩ := getF X139 hx hZ hown (host := "") (Or.inl (hw _ (mi 23 rfl))) Via.refl e139 (W139.fld (i := 0) rfl (j := 3) rfl rfl) (g := K140.g) rfl rfl (hb hby d_add_496)
  have K142 : Rch p e below s₁ F0 T141 (mkF m 508 #[sR r, sR b, sR no, sI (-1), sI 0, sI 0, sI 2, sI 0, sI 0, sI 0, sI 0, sI 0, sI 0, sI 1, sI 2] [(kI 2), (kI 1), (kR fch)]) := fun t k => K140 t (st141 t (by
    refine XS.iload X141.here hx rfl (hb hby d_add_499) rfl ?_
    refine XS.iconst X141.here hx rfl (hb hby d_add_501) ?_
    refine XS.iadd X141.here hx rfl (hb hby d_add_502) rfl ?_
    refine XS.iload X141.here hx rfl (hb hby d_add_503) rfl ?_
    refine XS.iload X141.here hx rfl (hb hby d_add_505) rfl ?_
    refine XS.iadd X141.here hx rfl (hb hby d_add_507) rfl ?_
    exact k))
  obtain ⟨T143, h143, L143, X143, e143, N143, W143q, st143⟩ := iasW X141 hx hZ e141 W139 N139 (i := 5) (a := fch) rfl (j := (1 : Int32)) (x := (2 : Int32)) (k := 1) (by decide) (by decide) (by decide) (g := K142.g) rfl rfl (hb hby d_add_508)
  have W143 : Wo n0 h143 ((r, oR Z [(kR ks), (kR rgs), (kR ns), (kR fch), (kR fk), (kR kl), (kR frg), (kR fac), (kR fcm), (kR ftr), (kR acs), (kR cms), (kR sus), (kR prb), (kI 0), .null, (kI 0)]) :: (b, oB Z [.null, (kI 0), .null, (kI 0), (kR fa), (kR ac), (kR fc), (kR cm), (kR ft), (kR su), (kR pr), (kI 2), (kI 0), (kI (Int32.ofNat cq)), (kI 0), .null]) :: (ks, Ar Z .int 0 g_ks) :: (rgs, Ar Z .int 0 (cpy f8 g_rgs 0 0 0)) :: (ns, Ar Z .int 16 (upd g_ns 0 (kI (-1)))) :: (fch, Ar Z .int 17 (upd g_fch 1 (kI 2))) :: (fk, Ar Z .int 17 g_fk) :: (kl, Ar Z .int 16 (upd g_kl 0 (kI (-1)))) :: (frg, Ar Z .int 17 g_frg) :: (fac, Ar Z .int 17 (upd (upd (upd g_fac 0 (kI 0)) 1 (kI 0)) 2 (kI 0))) :: (fcm, Ar Z .int 17 (upd (upd (upd g_fcm 0 (kI (Int32.ofNat x0))) 1 (kI (Int32.ofNat x1))) 2 (kI (Int32.ofNat cq)))) :: (ftr, Ar Z .int 17 (upd (upd (upd g_ftr 0 (kI 0)) 1 (kI 0)) 2 (kI 0))) :: (acs, Ar Z .int 16 (cpy f4 g_acs 0 0 0)) :: (cms, Ar Z .int 16 (cpy f5 g_cms 0 0 cq)) :: (sus, Ar Z .int 64 (cpy f6 g_sus 0 0 0)) :: (prb, Ar Z .double 64 g_prb) :: (fa, Ar Z .int 2 f1) :: (fc, Ar Z .int 2 f2) :: (ft, Ar Z .int 2 f3) :: (ac, Ar Z .int 2 f4) :: (cm, Ar Z .int n f5) :: (su, Ar Z .int 4 f6) :: (pr, Ar Z .double 4 f7) :: (no, Ar Z .int 0 f8) :: Rr) := W143q
  have K144 : Rch p e below s₁ F0 T143 (mkF m 510 #[sR r, sR b, sR no, sI (-1), sI 0, sI 0, sI 2, sI 0, sI 0, sI 0, sI 0, sI 0, sI 0, sI 1, sI 2] [(kR r)]) := fun t k => K142 t (st143 t (XS.aloadN X143.here hx rfl (hb hby d_add_509) rfl rfl k))
  obtain ⟨T145, X145, e145, st145⟩ := getF X143 hx hZ hown (host := "") (Or.inl (hw _ (mi 25 rfl))) Via.refl e143 (W143.fld (i := 0) rfl (j := 4) rfl rfl) (g := K144.g) rfl rfl (hb hby d_add_510)
  have K146 : Rch p e below s₁ F0 T145 (mkF m 519 #[sR r, sR b, sR no, sI (-1), sI 0, sI 0, sI 2, sI 0, sI 0, sI 0, sI 0, sI 0, sI 0, sI 1, sI 2] [(kI 0), (kI 1), (kR fk)]) := fun t k => K144 t (st145 t (by
    refine XS.iload X145.here hx rfl (hb hby d_add_513) rfl ?_
    refine XS.iconst X145.here hx rfl (hb hby d_add_515) ?_
    refine XS.iadd X145.here hx rfl (hb hby d_add_516) rfl ?_
    refine XS.iload X145.here hx rfl (hb hby d_add_517) rfl ?_
    exact k))
  obtain ⟨T147, h147, L147, X147, e147, N147, W147q, st147⟩ := iasW X145 hx hZ e145 W143 N143 (i := 6) (a := fk) rfl (j := (1 : Int32)) (x := (0 : Int32)) (k := 1) (by decide) (by decide) (by decide) (g := K146.g) rfl rfl (hb hby d_add_519)
  have W147 : Wo n0 h147 ((r, oR Z [(kR ks), (kR rgs), (kR ns), (kR fch), (kR fk), (kR kl), (kR frg), (kR fac), (kR fcm), (kR ftr), (kR acs), (kR cms), (kR sus), (kR prb), (kI 0), .null, (kI 0)]) :: (b, oB Z [.null, (kI 0), .null, (kI 0), (kR fa), (kR ac), (kR fc), (kR cm), (kR ft), (kR su), (kR pr), (kI 2), (kI 0), (kI (Int32.ofNat cq)), (kI 0), .null]) :: (ks, Ar Z .int 0 g_ks) :: (rgs, Ar Z .int 0 (cpy f8 g_rgs 0 0 0)) :: (ns, Ar Z .int 16 (upd g_ns 0 (kI (-1)))) :: (fch, Ar Z .int 17 (upd g_fch 1 (kI 2))) :: (fk, Ar Z .int 17 (upd g_fk 1 (kI 0))) :: (kl, Ar Z .int 16 (upd g_kl 0 (kI (-1)))) :: (frg, Ar Z .int 17 g_frg) :: (fac, Ar Z .int 17 (upd (upd (upd g_fac 0 (kI 0)) 1 (kI 0)) 2 (kI 0))) :: (fcm, Ar Z .int 17 (upd (upd (upd g_fcm 0 (kI (Int32.ofNat x0))) 1 (kI (Int32.ofNat x1))) 2 (kI (Int32.ofNat cq)))) :: (ftr, Ar Z .int 17 (upd (upd (upd g_ftr 0 (kI 0)) 1 (kI 0)) 2 (kI 0))) :: (acs, Ar Z .int 16 (cpy f4 g_acs 0 0 0)) :: (cms, Ar Z .int 16 (cpy f5 g_cms 0 0 cq)) :: (sus, Ar Z .int 64 (cpy f6 g_sus 0 0 0)) :: (prb, Ar Z .double 64 g_prb) :: (fa, Ar Z .int 2 f1) :: (fc, Ar Z .int 2 f2) :: (ft, Ar Z .int 2 f3) :: (ac, Ar Z .int 2 f4) :: (cm, Ar Z .int n f5) :: (su, Ar Z .int 4 f6) :: (pr, Ar Z .double 4 f7) :: (no, Ar Z .int 0 f8) :: Rr) := W147q
  have K148 : Rch p e below s₁ F0 T147 (mkF m 521 #[sR r, sR b, sR no, sI (-1), sI 0, sI 0, sI 2, sI 0, sI 0, sI 0, sI 0, sI 0, sI 0, sI 1, sI 2] [(kR r)]) := fun t k => K146 t (st147 t (XS.aloadN X147.here hx rfl (hb hby d_add_520) rfl rfl k))
  obtain ⟨T149, X149, e149, st149⟩ := getF X147 hx hZ hown (host := "") (Or.inl (hw _ (mi 29 rfl))) Via.refl e147 (W147.fld (i := 0) rfl (j := 6) rfl rfl) (g := K148.g) rfl rfl (hb hby d_add_521)
  have K150 : Rch p e below s₁ F0 T149 (mkF m 533 #[sR r, sR b, sR no, sI (-1), sI 0, sI 0, sI 2, sI 0, sI 0, sI 0, sI 0, sI 0, sI 0, sI 1, sI 2] [(kI 0), (kI 1), (kR frg)]) := fun t k => K148 t (st149 t (by
    refine XS.iload X149.here hx rfl (hb hby d_add_524) rfl ?_
    refine XS.iconst X149.here hx rfl (hb hby d_add_526) ?_
    refine XS.iadd X149.here hx rfl (hb hby d_add_527) rfl ?_
    refine XS.iload X149.here hx rfl (hb hby d_add_528) rfl ?_
    refine XS.aloadN X149.here hx rfl (hb hby d_add_530) rfl rfl ?_
    refine lenW X149 hx hZ e149 W147 (i := 23) rfl (fun _ q => q) (z := (0 : Int32)) (by decide) (g := (mkF m 531 #[sR r, sR b, sR no, sI (-1), sI 0, sI 0, sI 2, sI 0, sI 0, sI 0, sI 0, sI 0, sI 0, sI 1, sI 2] [(kR no), (kI 0), (kI 1), (kR frg)])) rfl rfl (hb hby d_add_531) _ ?_
    show Steps p.tables e below (T149.setTop (mkF m 532 #[sR r, sR b, sR no, sI (-1), sI 0, sI 0, sI 2, sI 0, sI 0, sI 0, sI 0, sI 0, sI 0, sI 1, sI 2] [(kI 0), (kI 0), (kI 1), (kR frg)])) _
    refine XS.iadd X149.here hx rfl (hb hby d_add_532) rfl ?_
    exact k))
  obtain ⟨T151, h151, L151, X151, e151, N151, W151q, st151⟩ := iasW X149 hx hZ e149 W147 N147 (i := 8) (a := frg) rfl (j := (1 : Int32)) (x := (0 : Int32)) (k := 1) (by decide) (by decide) (by decide) (g := K150.g) rfl rfl (hb hby d_add_533)
  have W151 : Wo n0 h151 ((r, oR Z [(kR ks), (kR rgs), (kR ns), (kR fch), (kR fk), (kR kl), (kR frg), (kR fac), (kR fcm), (kR ftr), (kR acs), (kR cms), (kR sus), (kR prb), (kI 0), .null, (kI 0)]) :: (b, oB Z [.null, (kI 0), .null, (kI 0), (kR fa), (kR ac), (kR fc), (kR cm), (kR ft), (kR su), (kR pr), (kI 2), (kI 0), (kI (Int32.ofNat cq)), (kI 0), .null]) :: (ks, Ar Z .int 0 g_ks) :: (rgs, Ar Z .int 0 (cpy f8 g_rgs 0 0 0)) :: (ns, Ar Z .int 16 (upd g_ns 0 (kI (-1)))) :: (fch, Ar Z .int 17 (upd g_fch 1 (kI 2))) :: (fk, Ar Z .int 17 (upd g_fk 1 (kI 0))) :: (kl, Ar Z .int 16 (upd g_kl 0 (kI (-1)))) :: (frg, Ar Z .int 17 (upd g_frg 1 (kI 0))) :: (fac, Ar Z .int 17 (upd (upd (upd g_fac 0 (kI 0)) 1 (kI 0)) 2 (kI 0))) :: (fcm, Ar Z .int 17 (upd (upd (upd g_fcm 0 (kI (Int32.ofNat x0))) 1 (kI (Int32.ofNat x1))) 2 (kI (Int32.ofNat cq)))) :: (ftr, Ar Z .int 17 (upd (upd (upd g_ftr 0 (kI 0)) 1 (kI 0)) 2 (kI 0))) :: (acs, Ar Z .int 16 (cpy f4 g_acs 0 0 0)) :: (cms, Ar Z .int 16 (cpy f5 g_cms 0 0 cq)) :: (sus, Ar Z .int 64 (cpy f6 g_sus 0 0 0)) :: (prb, Ar Z .double 64 g_prb) :: (fa, Ar Z .int 2 f1) :: (fc, Ar Z .int 2 f2) :: (ft, Ar Z .int 2 f3) :: (ac, Ar Z .int 2 f4) :: (cm, Ar Z .int n f5) :: (su, Ar Z .int 4 f6) :: (pr, Ar Z .double 4 f7) :: (no, Ar Z .int 0 f8) :: Rr) := W151q
  have K152 : Rch p e below s₁ F0 T151 (mkF m 536 #[sR r, sR b, sR no, sI (-1), sI 0, sI 0, sI 2, sI 0, sI 0, sI 0, sI 0, sI 0, sI 0, sI 1, sI 2] [(kR r), (kR r)]) := fun t k => K150 t (st151 t (by
    refine XS.aloadN X151.here hx rfl (hb hby d_add_534) rfl rfl ?_
    refine XS.dup X151.here hx rfl (hb hby d_add_535) rfl rfl ?_
    exact k))
  obtain ⟨T153, X153, e153, st153⟩ := getF X151 hx hZ hown (host := "") (Or.inl (hw _ (mi 108 rfl))) Via.refl e151 (W151.fld (i := 0) rfl (j := 14) rfl rfl) (g := K152.g) rfl rfl (hb hby d_add_536)
  have K154 : Rch p e below s₁ F0 T153 (mkF m 541 #[sR r, sR b, sR no, sI (-1), sI 0, sI 0, sI 2, sI 0, sI 0, sI 0, sI 0, sI 0, sI 0, sI 1, sI 2] [(kI 1), (kR r)]) := fun t k => K152 t (st153 t (by
    refine XS.iconst X153.here hx rfl (hb hby d_add_539) ?_
    refine XS.iadd X153.here hx rfl (hb hby d_add_540) rfl ?_
    exact k))
  obtain ⟨T155, h155, L155, X155, e155, N155, W155q, st155⟩ := putW X153 hx hZ hown (host := "") (Or.inl (hw _ (mi 108 rfl))) e153 W151 N151 (own_dR hw) (Or.inl (hw _ (mi 109 rfl))) (hw _ (mi 9 rfl)) (ty := .int) (by decide +kernel) (i := 0) (a := r) rfl (j := 14) rfl rfl (v := (.int (1 : Int32))) rfl rfl (g := K154.g) rfl rfl (hb hby d_add_541)
  have W155 : Wo n0 h155 ((r, oR Z [(kR ks), (kR rgs), (kR ns), (kR fch), (kR fk), (kR kl), (kR frg), (kR fac), (kR fcm), (kR ftr), (kR acs), (kR cms), (kR sus), (kR prb), (kI 1), .null, (kI 0)]) :: (b, oB Z [.null, (kI 0), .null, (kI 0), (kR fa), (kR ac), (kR fc), (kR cm), (kR ft), (kR su), (kR pr), (kI 2), (kI 0), (kI (Int32.ofNat cq)), (kI 0), .null]) :: (ks, Ar Z .int 0 g_ks) :: (rgs, Ar Z .int 0 (cpy f8 g_rgs 0 0 0)) :: (ns, Ar Z .int 16 (upd g_ns 0 (kI (-1)))) :: (fch, Ar Z .int 17 (upd g_fch 1 (kI 2))) :: (fk, Ar Z .int 17 (upd g_fk 1 (kI 0))) :: (kl, Ar Z .int 16 (upd g_kl 0 (kI (-1)))) :: (frg, Ar Z .int 17 (upd g_frg 1 (kI 0))) :: (fac, Ar Z .int 17 (upd (upd (upd g_fac 0 (kI 0)) 1 (kI 0)) 2 (kI 0))) :: (fcm, Ar Z .int 17 (upd (upd (upd g_fcm 0 (kI (Int32.ofNat x0))) 1 (kI (Int32.ofNat x1))) 2 (kI (Int32.ofNat cq)))) :: (ftr, Ar Z .int 17 (upd (upd (upd g_ftr 0 (kI 0)) 1 (kI 0)) 2 (kI 0))) :: (acs, Ar Z .int 16 (cpy f4 g_acs 0 0 0)) :: (cms, Ar Z .int 16 (cpy f5 g_cms 0 0 cq)) :: (sus, Ar Z .int 64 (cpy f6 g_sus 0 0 0)) :: (prb, Ar Z .double 64 g_prb) :: (fa, Ar Z .int 2 f1) :: (fc, Ar Z .int 2 f2) :: (ft, Ar Z .int 2 f3) :: (ac, Ar Z .int 2 f4) :: (cm, Ar Z .int n f5) :: (su, Ar Z .int 4 f6) :: (pr, Ar Z .double 4 f7) :: (no, Ar Z .int 0 f8) :: Rr) := W155q
  have K156 : Rch p e below s₁ F0 T155 (mkF m 550 #[sR r, sR b, sR no, sI (-1), sI 0, sI 0, sI 2, sI 0, sI 0, sI 0, sI 0, sI 0, sI 0, sI 1, sI 2] [(kR b)]) := fun t k => K154 t (st155 t (by
    refine XS.iload X155.here hx rfl (hb hby d_add_544) rfl ?_
    refine XS.ifNo X155.here hx rfl (hb hby d_add_546) rfl (by decide) ?_
    refine XS.aloadN X155.here hx rfl (hb hby d_add_549) rfl rfl ?_
    exact k))
  obtain ⟨T157, X157, e157, st157⟩ := getR X155 hx hZ hown (hw _ (mi 128 rfl)) e155 (W155.fld (i := 1) rfl (j := 10) rfl rfl) (g := K156.g) rfl rfl (hb hby d_add_550)
  have K158 : Rch p e below s₁ F0 T157 (mkF m 555 #[sR r, sR b, sR no, sI (-1), sI 0, sI 0, sI 2, sI 0, sI 0, sI 0, sI 0, sI 0, sI 0, sI 1, sI 2] [(kR r), (kI 0), (kR pr)]) := fun t k => K156 t (st157 t (by
    refine XS.iconst X157.here hx rfl (hb hby d_add_553) ?_
    refine XS.aloadN X157.here hx rfl (hb hby d_add_554) rfl rfl ?_
    exact k))
  obtain ⟨T159, X159, e159, st159⟩ := getF X157 hx hZ hown (host := "") (Or.inl (hw _ (mi 44 rfl))) Via.refl e157 (W155.fld (i := 0) rfl (j := 13) rfl rfl) (g := K158.g) rfl rfl (hb hby d_add_555)
  have K160 : Rch p e below s₁ F0 T159 (mkF m 561 #[sR r, sR b, sR no, sI (-1), sI 0, sI 0, sI 2, sI 0, sI 0, sI 0, sI 0, sI 0, sI 0, sI 1, sI 2] [(kR b), (kI 0), (kR prb), (kI 0), (kR pr)]) := fun t k => K158 t (st159 t (by
    refine XS.iload X159.here hx rfl (hb hby d_add_558) rfl ?_
    refine XS.aloadN X159.here hx rfl (hb hby d_add_560) rfl rfl ?_
    exact k))
  obtain ⟨T161, X161, e161, st161⟩ := getR X159 hx hZ hown (hw _ (mi 117 rfl)) e159 (W155.fld (i := 1) rfl (j := 14) rfl rfl) (g := K160.g) rfl rfl (hb hby d_add_561)
  obtain ⟨T162, h162, L162, X162, e162, N162, W162q, st162⟩ := cpW X161 hx hZ hown (hw _ (mi 122 rfl)) (hw _ (mi 125 rfl)) (hw _ (mi 123 rfl)) (hw _ (mi 124 rfl)) e161 W155 N155 (i := 22) (j := 15) rfl rfl rfl (sp := (0 : Int32)) (dp := (0 : Int32)) (nn := (0 : Int32)) (s' := 0) (d' := 0) (k' := 0) (by decide) (by decide) (by decide) (by decide) (by decide) (by decide) (by decide) (by decide) (g := (mkF m 564 #[sR r, sR b, sR no, sI (-1), sI 0, sI 0, sI 2, sI 0, sI 0, sI 0, sI 0, sI 0, sI 0, sI 1, sI 2] [(kI 0), (kI 0), (kR prb), (kI 0), (kR pr)])) rfl (by rw [hml]; rfl) (rest := []) rfl (hb hby d_add_564) (by decide) (W0 := 0) (by show 2 * 0 + _ ≤ _; exact Nat.le_of_eq rfl) (by decide)
  have W162 : Wo n0 h162 ((r, oR Z [(kR ks), (kR rgs), (kR ns), (kR fch), (kR fk), (kR kl), (kR frg), (kR fac), (kR fcm), (kR ftr), (kR acs), (kR cms), (kR sus), (kR prb), (kI 1), .null, (kI 0)]) :: (b, oB Z [.null, (kI 0), .null, (kI 0), (kR fa), (kR ac), (kR fc), (kR cm), (kR ft), (kR su), (kR pr), (kI 2), (kI 0), (kI (Int32.ofNat cq)), (kI 0), .null]) :: (ks, Ar Z .int 0 g_ks) :: (rgs, Ar Z .int 0 (cpy f8 g_rgs 0 0 0)) :: (ns, Ar Z .int 16 (upd g_ns 0 (kI (-1)))) :: (fch, Ar Z .int 17 (upd g_fch 1 (kI 2))) :: (fk, Ar Z .int 17 (upd g_fk 1 (kI 0))) :: (kl, Ar Z .int 16 (upd g_kl 0 (kI (-1)))) :: (frg, Ar Z .int 17 (upd g_frg 1 (kI 0))) :: (fac, Ar Z .int 17 (upd (upd (upd g_fac 0 (kI 0)) 1 (kI 0)) 2 (kI 0))) :: (fcm, Ar Z .int 17 (upd (upd (upd g_fcm 0 (kI (Int32.ofNat x0))) 1 (kI (Int32.ofNat x1))) 2 (kI (Int32.ofNat cq)))) :: (ftr, Ar Z .int 17 (upd (upd (upd g_ftr 0 (kI 0)) 1 (kI 0)) 2 (kI 0))) :: (acs, Ar Z .int 16 (cpy f4 g_acs 0 0 0)) :: (cms, Ar Z .int 16 (cpy f5 g_cms 0 0 cq)) :: (sus, Ar Z .int 64 (cpy f6 g_sus 0 0 0)) :: (prb, Ar Z .double 64 (cpy f7 g_prb 0 0 0)) :: (fa, Ar Z .int 2 f1) :: (fc, Ar Z .int 2 f2) :: (ft, Ar Z .int 2 f3) :: (ac, Ar Z .int 2 f4) :: (cm, Ar Z .int n f5) :: (su, Ar Z .int 4 f6) :: (pr, Ar Z .double 4 f7) :: (no, Ar Z .int 0 f8) :: Rr) := W162q
  have K163 : Rch p e below s₁ F0 T162 (mkF m 569 #[sR r, sR b, sR no, sI (-1), sI 0, sI 0, sI 2, sI 0, sI 0, sI 0, sI 0, sI 0, sI 0, sI 1, sI 2] [(kR r), (kR r)]) := fun t k => K160 t (st161 t (st162 t (by
    refine XS.aloadN X162.here hx rfl (hb hby d_add_567) rfl rfl ?_
    refine XS.dup X162.here hx rfl (hb hby d_add_568) rfl rfl ?_
    exact k)))
  obtain ⟨T164, X164, e164, st164⟩ := getF X162 hx hZ hown (host := "") (Or.inl (hw _ (mi 129 rfl))) Via.refl e162 (W162.fld (i := 0) rfl (j := 16) rfl rfl) (g := K163.g) rfl rfl (hb hby d_add_569)
  have K165 : Rch p e below s₁ F0 T164 (mkF m 575 #[sR r, sR b, sR no, sI (-1), sI 0, sI 0, sI 2, sI 0, sI 0, sI 0, sI 0, sI 0, sI 0, sI 1, sI 2] [(kI 1), (kR r), (kI 0)]) := fun t k => K163 t (st164 t (by
    refine XS.dupX1 X164.here hx rfl (hb hby d_add_572) rfl rfl rfl ?_
    refine XS.iconst X164.here hx rfl (hb hby d_add_573) ?_
    refine XS.iadd X164.here hx rfl (hb hby d_add_574) rfl ?_
    exact k))
  obtain ⟨T166, h166, L166, X166, e166, N166, W166q, st166⟩ := putW X164 hx hZ hown (host := "") (Or.inl (hw _ (mi 129 rfl))) e164 W162 N162 (own_dR hw) (Or.inl (hw _ (mi 130 rfl))) (hw _ (mi 9 rfl)) (ty := .int) (by decide +kernel) (i := 0) (a := r) rfl (j := 16) rfl rfl (v := (.int (1 : Int32))) rfl rfl (g := K165.g) rfl rfl (hb hby d_add_575)
  have W166 : Wo n0 h166 ((r, oR Z [(kR ks), (kR rgs), (kR ns), (kR fch), (kR fk), (kR kl), (kR frg), (kR fac), (kR fcm), (kR ftr), (kR acs), (kR cms), (kR sus), (kR prb), (kI 1), .null, (kI 1)]) :: (b, oB Z [.null, (kI 0), .null, (kI 0), (kR fa), (kR ac), (kR fc), (kR cm), (kR ft), (kR su), (kR pr), (kI 2), (kI 0), (kI (Int32.ofNat cq)), (kI 0), .null]) :: (ks, Ar Z .int 0 g_ks) :: (rgs, Ar Z .int 0 (cpy f8 g_rgs 0 0 0)) :: (ns, Ar Z .int 16 (upd g_ns 0 (kI (-1)))) :: (fch, Ar Z .int 17 (upd g_fch 1 (kI 2))) :: (fk, Ar Z .int 17 (upd g_fk 1 (kI 0))) :: (kl, Ar Z .int 16 (upd g_kl 0 (kI (-1)))) :: (frg, Ar Z .int 17 (upd g_frg 1 (kI 0))) :: (fac, Ar Z .int 17 (upd (upd (upd g_fac 0 (kI 0)) 1 (kI 0)) 2 (kI 0))) :: (fcm, Ar Z .int 17 (upd (upd (upd g_fcm 0 (kI (Int32.ofNat x0))) 1 (kI (Int32.ofNat x1))) 2 (kI (Int32.ofNat cq)))) :: (ftr, Ar Z .int 17 (upd (upd (upd g_ftr 0 (kI 0)) 1 (kI 0)) 2 (kI 0))) :: (acs, Ar Z .int 16 (cpy f4 g_acs 0 0 0)) :: (cms, Ar Z .int 16 (cpy f5 g_cms 0 0 cq)) :: (sus, Ar Z .int 64 (cpy f6 g_sus 0 0 0)) :: (prb, Ar Z .double 64 (cpy f7 g_prb 0 0 0)) :: (fa, Ar Z .int 2 f1) :: (fc, Ar Z .int 2 f2) :: (ft, Ar Z .int 2 f3) :: (ac, Ar Z .int 2 f4) :: (cm, Ar Z .int n f5) :: (su, Ar Z .int 4 f6) :: (pr, Ar Z .double 4 f7) :: (no, Ar Z .int 0 f8) :: Rr) := W166q
  have K167 : Rch p e below s₁ F0 T166 (mkF m 639 #[sR r, sR b, sR no, sI (-1), sI 0, sI 0, sI 2, sI 0, sI 0, sI 0, sI 0, sI 0, sI 0, sI 1, sI 0] [(kI 0)]) := fun t k => K165 t (st166 t (by
    refine XS.istore X166.here hx rfl (hb hby d_add_578) rfl (l' := #[sR r, sR b, sR no, sI (-1), sI 0, sI 0, sI 2, sI 0, sI 0, sI 0, sI 0, sI 0, sI 0, sI 1, sI 0]) rfl ?_
    refine XS.goto X166.here hx rfl (pc0 := 580) (pc' := 637) rfl (hb hby d_add_580) (by decide) (by decide) ?_
    refine XS.iload X166.here hx rfl (hb hby d_add_637) rfl ?_
    exact k))
  obtain ⟨fs, hr, hrun, hended, hWm, hsame⟩ := X166.leave (v := some (.int (0 : Int32))) (fun h => by rw [Bd.returns] at h; cases h)
  refine ⟨_, _, pre0 _ (K167 _ (retI X166 hx Bd.returns (hb hby d_add_639) hr)), hrun, hended, _, _, rfl, ?_, ⟨_, rfl⟩, hWm, hsame.mono (by decide) (by decide)⟩
  show QrmADA Z r ks rgs ns fch fk kl frg fac fcm ftr acs cms sus prb b fa ac fc cm ft su pr no cq n x0 x1 g_ks g_rgs g_ns g_fch g_fk g_kl g_frg g_fac g_fcm g_ftr g_acs g_cms g_sus g_prb f1 f2 f3 f4 f5 f6 f7 f8 Rr n0 _ T166.heap _
  rw [e166]
  exact ⟨rfl, N166, W166⟩
theorem ef_rmADB (m : MethodId) (r ks rgs ns fch fk kl frg fac fcm ftr acs cms sus prb : Addr) (b fa ac fc cm ft su pr : Addr) (no : Addr) (cq n d x0 : Nat) (g_ks g_rgs g_ns g_fch g_fk g_kl g_frg g_fac g_fcm g_ftr g_acs g_cms g_sus g_prb : Nat → Value) (f1 f2 f3 f4 f5 f6 f7 f8 : Nat → Value) : entryFrame m #[(.ref r), (.ref b), (.ref no), (.int (-1 : Int32))] 15 = mkF m 0 #[.val (.ref r), .val (.ref b), .val (.ref no), .val (.int (-1 : Int32)), .unset, .unset, .unset, .unset, .unset, .unset, .unset, .unset, .unset, .unset, .unset] [] := by first | (simp [entryFrame, mkF, argsToLocals, Value.category]; done) | rfl
def QrmADB (Z : State) (r ks rgs ns fch fk kl frg fac fcm ftr acs cms sus prb : Addr) (b fa ac fc cm ft su pr : Addr) (no : Addr) (cq n d x0 : Nat) (g_ks g_rgs g_ns g_fch g_fk g_kl g_frg g_fac g_fcm g_ftr g_acs g_cms g_sus g_prb : Nat → Value) (f1 f2 f3 f4 f5 f6 f7 f8 : Nat → Value) (Rr : List (Addr × (Cell → Prop))) (n0 : Nat) (v : Option Value) (h : Heap) (L : List Loc) : Prop := v = some (.int (1 : Int32)) ∧ Fr n0 L ∧ Wo n0 h ((r, oR Z [(kR ks), (kR rgs), (kR ns), (kR fch), (kR fk), (kR kl), (kR frg), (kR fac), (kR fcm), (kR ftr), (kR acs), (kR cms), (kR sus), (kR prb), (kI 2), .null, (kI 2)]) :: (b, oB Z [.null, (kI 0), .null, (kI 0), (kR fa), (kR ac), (kR fc), (kR cm), (kR ft), (kR su), (kR pr), (kI 1), (kI 0), (kI (Int32.ofNat cq)), (kI 0), .null]) :: (ks, Ar Z .int 0 g_ks) :: (rgs, Ar Z .int 0 (cpy f8 g_rgs 0 0 0)) :: (ns, Ar Z .int 16 (upd g_ns 1 (kI (-1)))) :: (fch, Ar Z .int 17 (upd g_fch 2 (kI 3))) :: (fk, Ar Z .int 17 (upd g_fk 2 (kI 0))) :: (kl, Ar Z .int 16 (upd g_kl 1 (kI (-1)))) :: (frg, Ar Z .int 17 (upd g_frg 2 (kI 0))) :: (fac, Ar Z .int 17 (upd (upd g_fac 2 (kI 0)) 3 (kI 0))) :: (fcm, Ar Z .int 17 (upd (upd g_fcm 2 (kI (Int32.ofNat (d + x0)))) 3 (kI (Int32.ofNat (d + cq))))) :: (ftr, Ar Z .int 17 (upd (upd g_ftr 2 (kI 0)) 3 (kI 0))) :: (acs, Ar Z .int 16 (cpy f4 g_acs 0 0 0)) :: (cms, Ar Z .int 16 (cpy f5 g_cms 0 d cq)) :: (sus, Ar Z .int 64 (cpy f6 g_sus 0 0 0)) :: (prb, Ar Z .double 64 (cpy f7 g_prb 0 0 0)) :: (fa, Ar Z .int 2 f1) :: (fc, Ar Z .int 2 f2) :: (ft, Ar Z .int 2 f3) :: (ac, Ar Z .int 2 f4) :: (cm, Ar Z .int n f5) :: (su, Ar Z .int 4 f6) :: (pr, Ar Z .double 4 f7) :: (no, Ar Z .int 0 f8) :: Rr)
set_option maxRecDepth 65536 in
set_option maxHeartbeats 40000000 in
theorem rmADB (l : Launch) (Z : State) (a0 : Array Value) (hw : ∀ d ∈ tables_1, d.before a0 Z = true) (ws : List Jvm.Cond) (r ks rgs ns fch fk kl frg fac fcm ftr acs cms sus prb : Addr) (b fa ac fc cm ft su pr : Addr) (no : Addr) (cq n d x0 : Nat) (g_ks g_rgs g_ns g_fch g_fk g_kl g_frg g_fac g_fcm g_ftr g_acs g_cms g_sus g_prb : Nat → Value) (f1 f2 f3 f4 f5 f6 f7 f8 : Nat → Value) (Rr : List (Addr × (Cell → Prop))) (h0 : Heap) (n0 : Nat) (W0 : Wo n0 h0 ((r, oR Z [(kR ks), (kR rgs), (kR ns), (kR fch), (kR fk), (kR kl), (kR frg), (kR fac), (kR fcm), (kR ftr), (kR acs), (kR cms), (kR sus), (kR prb), (kI 1), .null, (kI 1)]) :: (b, oB Z [.null, (kI 0), .null, (kI 0), (kR fa), (kR ac), (kR fc), (kR cm), (kR ft), (kR su), (kR pr), (kI 1), (kI 0), (kI (Int32.ofNat cq)), (kI 0), .null]) :: (ks, Ar Z .int 0 g_ks) :: (rgs, Ar Z .int 0 g_rgs) :: (ns, Ar Z .int 16 g_ns) :: (fch, Ar Z .int 17 g_fch) :: (fk, Ar Z .int 17 g_fk) :: (kl, Ar Z .int 16 g_kl) :: (frg, Ar Z .int 17 g_frg) :: (fac, Ar Z .int 17 g_fac) :: (fcm, Ar Z .int 17 g_fcm) :: (ftr, Ar Z .int 17 g_ftr) :: (acs, Ar Z .int 16 g_acs) :: (cms, Ar Z .int 16 g_cms) :: (sus, Ar Z .int 64 g_sus) :: (prb, Ar Z .double 64 g_prb) :: (fa, Ar Z .int 2 f1) :: (fc, Ar Z .int 2 f2) :: (ft, Ar Z .int 2 f3) :: (ac, Ar Z .int 2 f4) :: (cm, Ar Z .int n f5) :: (su, Ar Z .int 4 f6) :: (pr, Ar Z .double 4 f7) :: (no, Ar Z .int 0 f8) :: Rr)) (hcn : cq ≤ n) (hct : d + cq ≤ 16) (h_fch : g_fch 1 = (.int (2 : Int32))) (h_fk : g_fk 1 = (.int (0 : Int32))) (h_frg : g_frg 1 = (.int (0 : Int32))) (h_fac : g_fac 2 = (.int (0 : Int32))) (h_fcm : g_fcm 2 = (.int (Int32.ofNat d))) (h_ftr : g_ftr 2 = (.int (0 : Int32))) (h_f1_0 : f1 0 = .int 0) (h_f2_0 : f2 0 = .int (Int32.ofNat x0)) (h_f3_0 : f3 0 = .int 0) :
    MetFree l (⟨"com/example/sambre/sambre/engine/Rows", "add", "(Lcom/example/sambre/sambre/engine/Rows$Builder;[II)I"⟩ : MethodName) (head1 (Jvm.Cond.code (⟨"com/example/sambre/sambre/engine/Rows", "add", "(Lcom/example/sambre/sambre/engine/Rows$Builder;[II)I"⟩ : MethodName) prog_87_method_2_code 15 (some .int) :: ws) ({ frames := 1, cells := 0, slots := 0, locals := 18 } : Room)) (fun aa U => aa = #[(.ref r), (.ref b), (.ref no), (.int (-1 : Int32))] ∧ Z.Warmed39 U.vm ∧ U.heap = h0) (fun _ _ _ _ _ => True) (fun _ U ou U' => ∃ v L, ou = .returned v ∧ QrmADB Z r ks rgs ns fch fk kl frg fac fcm ftr acs cms sus prb b fa ac fc cm ft su pr no cq n d x0 g_ks g_rgs g_ns g_fch g_fk g_kl g_frg g_fac g_fcm g_ftr g_acs g_cms g_sus g_prb f1 f2 f3 f4 f5 f6 f7 f8 Rr n0 v U'.heap L ∧ FrameEnd U ou U' L ({ frames := 1, cells := 0, slots := 0, locals := 18 } : Room).cells ({ frames := 1, cells := 0, slots := 0, locals := 18 } : Room).slots) := by
  refine MetFree.of_bodySF (plainFor_of_name pn_Rows) hisR ?_
  intro p e s m args below meth c s₁ Bd hml0 hP hK
  obtain ⟨rfl, hZ, hh⟩ := hP
  have hx := Bd.exec
  have hby := Bd.bytes
  have hml : c.maxLocals = 15 := hml0
  have hown : s.vm.findClass "com/example/sambre/sambre/engine/Rows" = some m.cls := findClass_of_methodNamed Bd.named
  have hnm := (name_of_methodNamed Bd.named Bd.method).1
  have X0 : Stand p l e ({ frames := 1, cells := 0, slots := 0, locals := 18 } : Room) s m #[(.ref r), (.ref b), (.ref no), (.int (-1 : Int32))] below meth c s₁ [] 0 0 := Stand.of_body Bd
  have e0 : s₁.heap = h0 := by rw [← hh, Bd.state]; rfl
  have N0 := Fr.nil n0
  obtain ⟨F0, hF0⟩ : ∃ F, F = mkF m 0 #[.val (.ref r), .val (.ref b), .val (.ref no), .val (.int (-1 : Int32)), .unset, .unset, .unset, .unset, .unset, .unset, .unset, .unset, .unset, .unset, .unset] [] := ⟨_, rfl⟩
  have pre0 : ∀ t, Steps p.tables e below (s₁.setTop F0) t → Steps p.tables e below (s₁.setTop (entryFrame m #[(.ref r), (.ref b), (.ref no), (.int (-1 : Int32))] 15)) t := fun t k => castTop ((ef_rmADB m r ks rgs ns fch fk kl frg fac fcm ftr acs cms sus prb b fa ac fc cm ft su pr no cq n d x0 g_ks g_rgs g_ns g_fch g_fk g_kl g_frg g_fac g_fcm g_ftr g_acs g_cms g_sus g_prb f1 f2 f3 f4 f5 f6 f7 f8).trans hF0.symm) k
  have K0 : Rch p e below s₁ F0 s₁ (mkF m 0 #[.val (.ref r), .val (.ref b), .val (.ref no), .val (.int (-1 : Int32)), .unset, .unset, .unset, .unset, .unset, .unset, .unset, .unset, .unset, .unset, .unset] []) := fun t k => castTop hF0 k
  have K1 : Rch p e below s₁ F0 s₁ (mkF m 1 #[sR r, sR b, sR no, sI (-1), sU, sU, sU, sU, sU, sU, sU, sU, sU, sU, sU] [(kR r)]) := fun t k => K0 t (XS.aloadN X0.here hx rfl (hb hby d_add_0) rfl rfl k)
  obtain ⟨T2, X2, e2, st2⟩ := getF X0 hx hZ hown (host := "") (Or.inl (hw _ (mi 108 rfl))) Via.refl e0 (W0.fld (i := 0) rfl (j := 14) rfl rfl) (g := K1.g) rfl rfl (hb hby d_add_1)
  have K3 : Rch p e below s₁ F0 T2 (mkF m 7 #[sR r, sR b, sR no, sI (-1), sI 1, sU, sU, sU, sU, sU, sU, sU, sU, sU, sU] [(kR r)]) := fun t k => K1 t (st2 t (by
    refine XS.istore X2.here hx rfl (hb hby d_add_4) rfl (l' := #[sR r, sR b, sR no, sI (-1), sI 1, sU, sU, sU, sU, sU, sU, sU, sU, sU, sU]) rfl ?_
    refine XS.aloadN X2.here hx rfl (hb hby d_add_6) rfl rfl ?_
    exact k))
  obtain ⟨T4, X4, e4, st4⟩ := getF X2 hx hZ hown (host := "") (Or.inl (hw _ (mi 23 rfl))) Via.refl e2 (W0.fld (i := 0) rfl (j := 3) rfl rfl) (g := K3.g) rfl rfl (hb hby d_add_7)
  have K5 : Rch p e below s₁ F0 T4 (mkF m 16 #[sR r, sR b, sR no, sI (-1), sI 1, sI 2, sU, sU, sU, sU, sU, sU, sU, sU, sU] [(kR b)]) := fun t k => K3 t (st4 t (by
    refine XS.iload X4.here hx rfl (hb hby d_add_10) rfl ?_
    refine ialW X4 hx hZ e4 W0 (i := 5) rfl (j := (1 : Int32)) (k := 1) (by decide) (by decide) (by decide) (v := (.int (2 : Int32))) h_fch (g := (mkF m 12 #[sR r, sR b, sR no, sI (-1), sI 1, sU, sU, sU, sU, sU, sU, sU, sU, sU, sU] [(kI 1), (kR fch)])) rfl rfl (hb hby d_add_12) _ ?_
    refine XS.istore X4.here hx rfl (hb hby d_add_13) rfl (l' := #[sR r, sR b, sR no, sI (-1), sI 1, sI 2, sU, sU, sU, sU, sU, sU, sU, sU, sU]) rfl ?_
    refine XS.aloadN X4.here hx rfl (hb hby d_add_15) rfl rfl ?_
    exact k))
  obtain ⟨T6, X6, e6, st6⟩ := getR X4 hx hZ hown (hw _ (mi 110 rfl)) e4 (W0.fld (i := 1) rfl (j := 11) rfl rfl) (g := K5.g) rfl rfl (hb hby d_add_16)
  have K7 : Rch p e below s₁ F0 T6 (mkF m 22 #[sR r, sR b, sR no, sI (-1), sI 1, sI 2, sI 1, sU, sU, sU, sU, sU, sU, sU, sU] [(kR r)]) := fun t k => K5 t (st6 t (by
    refine XS.istore X6.here hx rfl (hb hby d_add_19) rfl (l' := #[sR r, sR b, sR no, sI (-1), sI 1, sI 2, sI 1, sU, sU, sU, sU, sU, sU, sU, sU]) rfl ?_
    refine XS.aloadN X6.here hx rfl (hb hby d_add_21) rfl rfl ?_
    exact k))
  obtain ⟨T8, X8, e8, st8⟩ := getF X6 hx hZ hown (host := "") (Or.inl (hw _ (mi 31 rfl))) Via.refl e6 (W0.fld (i := 0) rfl (j := 7) rfl rfl) (g := K7.g) rfl rfl (hb hby d_add_22)
  have K9 : Rch p e below s₁ F0 T8 (mkF m 31 #[sR r, sR b, sR no, sI (-1), sI 1, sI 2, sI 1, sI 0, sU, sU, sU, sU, sU, sU, sU] [(kR r)]) := fun t k => K7 t (st8 t (by
    refine XS.iload X8.here hx rfl (hb hby d_add_25) rfl ?_
    refine ialW X8 hx hZ e8 W0 (i := 9) rfl (j := (2 : Int32)) (k := 2) (by decide) (by decide) (by decide) (v := (.int (0 : Int32))) h_fac (g := (mkF m 27 #[sR r, sR b, sR no, sI (-1), sI 1, sI 2, sI 1, sU, sU, sU, sU, sU, sU, sU, sU] [(kI 2), (kR fac)])) rfl rfl (hb hby d_add_27) _ ?_
    refine XS.istore X8.here hx rfl (hb hby d_add_28) rfl (l' := #[sR r, sR b, sR no, sI (-1), sI 1, sI 2, sI 1, sI 0, sU, sU, sU, sU, sU, sU, sU]) rfl ?_
    refine XS.aloadN X8.here hx rfl (hb hby d_add_30) rfl rfl ?_
    exact k))
  obtain ⟨T10, X10, e10, st10⟩ := getF X8 hx hZ hown (host := "") (Or.inl (hw _ (mi 33 rfl))) Via.refl e8 (W0.fld (i := 0) rfl (j := 8) rfl rfl) (g := K9.g) rfl rfl (hb hby d_add_31)
  have K11 : Rch p e below s₁ F0 T10 (mkF m 40 #[sR r, sR b, sR no, sI (-1), sI 1, sI 2, sI 1, sI 0, sI (Int32.ofNat d), sU, sU, sU, sU, sU, sU] [(kR r)]) := fun t k => K9 t (st10 t (by
    refine XS.iload X10.here hx rfl (hb hby d_add_34) rfl ?_
    refine ialW X10 hx hZ e10 W0 (i := 10) rfl (j := (2 : Int32)) (k := 2) (by decide) (by decide) (by decide) (v := (.int (Int32.ofNat d))) h_fcm (g := (mkF m 36 #[sR r, sR b, sR no, sI (-1), sI 1, sI 2, sI 1, sI 0, sU, sU, sU, sU, sU, sU, sU] [(kI 2), (kR fcm)])) rfl rfl (hb hby d_add_36) _ ?_
    refine XS.istore X10.here hx rfl (hb hby d_add_37) rfl (l' := #[sR r, sR b, sR no, sI (-1), sI 1, sI 2, sI 1, sI 0, sI (Int32.ofNat d), sU, sU, sU, sU, sU, sU]) rfl ?_
    refine XS.aloadN X10.here hx rfl (hb hby d_add_39) rfl rfl ?_
    exact k))
  obtain ⟨T12, X12, e12, st12⟩ := getF X10 hx hZ hown (host := "") (Or.inl (hw _ (mi 35 rfl))) Via.refl e10 (W0.fld (i := 0) rfl (j := 9) rfl rfl) (g := K11.g) rfl rfl (hb hby d_add_40)
  have K13 : Rch p e below s₁ F0 T12 (mkF m 49 #[sR r, sR b, sR no, sI (-1), sI 1, sI 2, sI 1, sI 0, sI (Int32.ofNat d), sI 0, sU, sU, sU, sU, sU] [(kR r)]) := fun t k => K11 t (st12 t (by
    refine XS.iload X12.here hx rfl (hb hby d_add_43) rfl ?_
    refine ialW X12 hx hZ e12 W0 (i := 11) rfl (j := (2 : Int32)) (k := 2) (by decide) (by decide) (by decide) (v := (.int (0 : Int32))) h_ftr (g := (mkF m 45 #[sR r, sR b, sR no, sI (-1), sI 1, sI 2, sI 1, sI 0, sI (Int32.ofNat d), sU, sU, sU, sU, sU, sU] [(kI 2), (kR ftr)])) rfl rfl (hb hby d_add_45) _ ?_
    refine XS.istore X12.here hx rfl (hb hby d_add_46) rfl (l' := #[sR r, sR b, sR no, sI (-1), sI 1, sI 2, sI 1, sI 0, sI (Int32.ofNat d), sI 0, sU, sU, sU, sU, sU]) rfl ?_
    refine XS.aloadN X12.here hx rfl (hb hby d_add_48) rfl rfl ?_
    exact k))
  obtain ⟨T14, X14, e14, st14⟩ := getF X12 hx hZ hown (host := "") (Or.inl (hw _ (mi 25 rfl))) Via.refl e12 (W0.fld (i := 0) rfl (j := 4) rfl rfl) (g := K13.g) rfl rfl (hb hby d_add_49)
  have K15 : Rch p e below s₁ F0 T14 (mkF m 60 #[sR r, sR b, sR no, sI (-1), sI 1, sI 2, sI 1, sI 0, sI (Int32.ofNat d), sI 0, sI 0, sU, sU, sU, sU] [(kR b), (kI 0)]) := fun t k => K13 t (st14 t (by
    refine XS.iload X14.here hx rfl (hb hby d_add_52) rfl ?_
    refine ialW X14 hx hZ e14 W0 (i := 6) rfl (j := (1 : Int32)) (k := 1) (by decide) (by decide) (by decide) (v := (.int (0 : Int32))) h_fk (g := (mkF m 54 #[sR r, sR b, sR no, sI (-1), sI 1, sI 2, sI 1, sI 0, sI (Int32.ofNat d), sI 0, sU, sU, sU, sU, sU] [(kI 1), (kR fk)])) rfl rfl (hb hby d_add_54) _ ?_
    refine XS.istore X14.here hx rfl (hb hby d_add_55) rfl (l' := #[sR r, sR b, sR no, sI (-1), sI 1, sI 2, sI 1, sI 0, sI (Int32.ofNat d), sI 0, sI 0, sU, sU, sU, sU]) rfl ?_
    refine XS.iload X14.here hx rfl (hb hby d_add_57) rfl ?_
    refine XS.aloadN X14.here hx rfl (hb hby d_add_59) rfl rfl ?_
    exact k))
  obtain ⟨T16, X16, e16, st16⟩ := getR X14 hx hZ hown (hw _ (mi 111 rfl)) e14 (W0.fld (i := 1) rfl (j := 0) rfl rfl) (g := K15.g) rfl rfl (hb hby d_add_60)
  have K17 : Rch p e below s₁ F0 T16 (mkF m 78 #[sR r, sR b, sR no, sI (-1), sI 1, sI 2, sI 1, sI 0, sI (Int32.ofNat d), sI 0, sI 0, sI 0, sU, sU, sU] [(kR r)]) := fun t k => K15 t (st16 t (by
    refine XS.ifnonnullNo X16.here hx rfl (hb hby d_add_63) rfl ?_
    refine XS.iconst X16.here hx rfl (hb hby d_add_66) ?_
    refine XS.goto X16.here hx rfl (pc0 := 67) (pc' := 74) rfl (hb hby d_add_67) (by decide) (by decide) ?_
    refine XS.iadd X16.here hx rfl (hb hby d_add_74) rfl ?_
    refine XS.istore X16.here hx rfl (hb hby d_add_75) rfl (l' := #[sR r, sR b, sR no, sI (-1), sI 1, sI 2, sI 1, sI 0, sI (Int32.ofNat d), sI 0, sI 0, sI 0, sU, sU, sU]) rfl ?_
    refine XS.aloadN X16.here hx rfl (hb hby d_add_77) rfl rfl ?_
    exact k))
  obtain ⟨T18, X18, e18, st18⟩ := getF X16 hx hZ hown (host := "") (Or.inl (hw _ (mi 29 rfl))) Via.refl e16 (W0.fld (i := 0) rfl (j := 6) rfl rfl) (g := K17.g) rfl rfl (hb hby d_add_78)
  have K19 : Rch p e below s₁ F0 T18 (mkF m 87 #[sR r, sR b, sR no, sI (-1), sI 1, sI 2, sI 1, sI 0, sI (Int32.ofNat d), sI 0, sI 0, sI 0, sI 0, sU, sU] [(kR r)]) := fun t k => K17 t (st18 t (by
    refine XS.iload X18.here hx rfl (hb hby d_add_81) rfl ?_
    refine ialW X18 hx hZ e18 W0 (i := 8) rfl (j := (1 : Int32)) (k := 1) (by decide) (by decide) (by decide) (v := (.int (0 : Int32))) h_frg (g := (mkF m 83 #[sR r, sR b, sR no, sI (-1), sI 1, sI 2, sI 1, sI 0, sI (Int32.ofNat d), sI 0, sI 0, sI 0, sU, sU, sU] [(kI 1), (kR frg)])) rfl rfl (hb hby d_add_83) _ ?_
    refine XS.istore X18.here hx rfl (hb hby d_add_84) rfl (l' := #[sR r, sR b, sR no, sI (-1), sI 1, sI 2, sI 1, sI 0, sI (Int32.ofNat d), sI 0, sI 0, sI 0, sI 0, sU, sU]) rfl ?_
    refine XS.aloadN X18.here hx rfl (hb hby d_add_86) rfl rfl ?_
    exact k))
  obtain ⟨T20, X20, e20, st20⟩ := getF X18 hx hZ hown (host := "") (Or.inl (hw _ (mi 112 rfl))) Via.refl e18 (W0.fld (i := 0) rfl (j := 15) rfl rfl) (g := K19.g) rfl rfl (hb hby d_add_87)
  have K21 : Rch p e below s₁ F0 T20 (mkF m 94 #[sR r, sR b, sR no, sI (-1), sI 1, sI 2, sI 1, sI 0, sI (Int32.ofNat d), sI 0, sI 0, sI 0, sI 0, sU, sU] [(kR b)]) := fun t k => K19 t (st20 t (by
    refine XS.ifnonnullNo X20.here hx rfl (hb hby d_add_90) rfl ?_
    refine XS.aloadN X20.here hx rfl (hb hby d_add_93) rfl rfl ?_
    exact k))
  obtain ⟨T22, X22, e22, st22⟩ := getR X20 hx hZ hown (hw _ (mi 114 rfl)) e20 (W0.fld (i := 1) rfl (j := 3) rfl rfl) (g := K21.g) rfl rfl (hb hby d_add_94)
  have K23 : Rch p e below s₁ F0 T22 (mkF m 110 #[sR r, sR b, sR no, sI (-1), sI 1, sI 2, sI 1, sI 0, sI (Int32.ofNat d), sI 0, sI 0, sI 0, sI 0, sI 1, sU] [(kR r), (kI 1)]) := fun t k => K21 t (st22 t (by
    refine XS.ifNo X22.here hx rfl (hb hby d_add_97) rfl (by decide) ?_
    refine XS.iconst X22.here hx rfl (hb hby d_add_100) ?_
    refine XS.goto X22.here hx rfl (pc0 := 101) (pc' := 105) rfl (hb hby d_add_101) (by decide) (by decide) ?_
    refine XS.istore X22.here hx rfl (hb hby d_add_105) rfl (l' := #[sR r, sR b, sR no, sI (-1), sI 1, sI 2, sI 1, sI 0, sI (Int32.ofNat d), sI 0, sI 0, sI 0, sI 0, sI 1, sU]) rfl ?_
    refine XS.iload X22.here hx rfl (hb hby d_add_107) rfl ?_
    refine XS.aloadN X22.here hx rfl (hb hby d_add_109) rfl rfl ?_
    exact k))
  obtain ⟨T24, X24, e24, st24⟩ := getF X22 hx hZ hown (host := "") (Or.inl (hw _ (mi 21 rfl))) Via.refl e22 (W0.fld (i := 0) rfl (j := 2) rfl rfl) (g := K23.g) rfl rfl (hb hby d_add_110)
  have K25 : Rch p e below s₁ F0 T24 (mkF m 122 #[sR r, sR b, sR no, sI (-1), sI 1, sI 2, sI 1, sI 0, sI (Int32.ofNat d), sI 0, sI 0, sI 0, sI 0, sI 1, sU] [(kR r), (kI 2)]) := fun t k => K23 t (st24 t (by
    refine lenW X24 hx hZ e24 W0 (i := 4) rfl (fun _ q => q) (z := (16 : Int32)) (by decide) (g := (mkF m 113 #[sR r, sR b, sR no, sI (-1), sI 1, sI 2, sI 1, sI 0, sI (Int32.ofNat d), sI 0, sI 0, sI 0, sI 0, sI 1, sU] [(kR ns), (kI 1)])) rfl rfl (hb hby d_add_113) _ ?_
    refine XS.icmpNo X24.here hx rfl (hb hby d_add_114) rfl (by decide) ?_
    refine XS.iload X24.here hx rfl (hb hby d_add_117) rfl ?_
    refine XS.iconst X24.here hx rfl (hb hby d_add_119) ?_
    refine XS.iadd X24.here hx rfl (hb hby d_add_120) rfl ?_
    refine XS.aloadN X24.here hx rfl (hb hby d_add_121) rfl rfl ?_
    exact k))
  obtain ⟨T26, X26, e26, st26⟩ := getF X24 hx hZ hown (host := "") (Or.inl (hw _ (mi 23 rfl))) Via.refl e24 (W0.fld (i := 0) rfl (j := 3) rfl rfl) (g := K25.g) rfl rfl (hb hby d_add_122)
  have K27 : Rch p e below s₁ F0 T26 (mkF m 135 #[sR r, sR b, sR no, sI (-1), sI 1, sI 2, sI 1, sI 0, sI (Int32.ofNat d), sI 0, sI 0, sI 0, sI 0, sI 1, sU] [(kR r), (kI 3)]) := fun t k => K25 t (st26 t (by
    refine lenW X26 hx hZ e26 W0 (i := 5) rfl (fun _ q => q) (z := (17 : Int32)) (by decide) (g := (mkF m 125 #[sR r, sR b, sR no, sI (-1), sI 1, sI 2, sI 1, sI 0, sI (Int32.ofNat d), sI 0, sI 0, sI 0, sI 0, sI 1, sU] [(kR fch), (kI 2)])) rfl rfl (hb hby d_add_125) _ ?_
    refine XS.icmpNo X26.here hx rfl (hb hby d_add_126) rfl (by decide) ?_
    refine XS.iload X26.here hx rfl (hb hby d_add_129) rfl ?_
    refine XS.iload X26.here hx rfl (hb hby d_add_131) rfl ?_
    refine XS.iadd X26.here hx rfl (hb hby d_add_133) rfl ?_
    refine XS.aloadN X26.here hx rfl (hb hby d_add_134) rfl rfl ?_
    exact k))
  obtain ⟨T28, X28, e28, st28⟩ := getF X26 hx hZ hown (host := "") (Or.inl (hw _ (mi 31 rfl))) Via.refl e26 (W0.fld (i := 0) rfl (j := 7) rfl rfl) (g := K27.g) rfl rfl (hb hby d_add_135)
  have K29 : Rch p e below s₁ F0 T28 (mkF m 145 #[sR r, sR b, sR no, sI (-1), sI 1, sI 2, sI 1, sI 0, sI (Int32.ofNat d), sI 0, sI 0, sI 0, sI 0, sI 1, sU] [(kR b), (kI 0)]) := fun t k => K27 t (st28 t (by
    refine lenW X28 hx hZ e28 W0 (i := 9) rfl (fun _ q => q) (z := (17 : Int32)) (by decide) (g := (mkF m 138 #[sR r, sR b, sR no, sI (-1), sI 1, sI 2, sI 1, sI 0, sI (Int32.ofNat d), sI 0, sI 0, sI 0, sI 0, sI 1, sU] [(kR fac), (kI 3)])) rfl rfl (hb hby d_add_138) _ ?_
    refine XS.icmpNo X28.here hx rfl (hb hby d_add_139) rfl (by decide) ?_
    refine XS.iload X28.here hx rfl (hb hby d_add_142) rfl ?_
    refine XS.aloadN X28.here hx rfl (hb hby d_add_144) rfl rfl ?_
    exact k))
  obtain ⟨T30, X30, e30, st30⟩ := getR X28 hx hZ hown (hw _ (mi 115 rfl)) e28 (W0.fld (i := 1) rfl (j := 12) rfl rfl) (g := K29.g) rfl rfl (hb hby d_add_145)
  have K31 : Rch p e below s₁ F0 T30 (mkF m 150 #[sR r, sR b, sR no, sI (-1), sI 1, sI 2, sI 1, sI 0, sI (Int32.ofNat d), sI 0, sI 0, sI 0, sI 0, sI 1, sU] [(kR r), (kI 0)]) := fun t k => K29 t (st30 t (by
    refine XS.iadd X30.here hx rfl (hb hby d_add_148) rfl ?_
    refine XS.aloadN X30.here hx rfl (hb hby d_add_149) rfl rfl ?_
    exact k))
  obtain ⟨T32, X32, e32, st32⟩ := getF X30 hx hZ hown (host := "") (Or.inl (hw _ (mi 37 rfl))) Via.refl e30 (W0.fld (i := 0) rfl (j := 10) rfl rfl) (g := K31.g) rfl rfl (hb hby d_add_150)
  have K33 : Rch p e below s₁ F0 T32 (mkF m 160 #[sR r, sR b, sR no, sI (-1), sI 1, sI 2, sI 1, sI 0, sI (Int32.ofNat d), sI 0, sI 0, sI 0, sI 0, sI 1, sU] [(kR b), (kI (Int32.ofNat d))]) := fun t k => K31 t (st32 t (by
    refine lenW X32 hx hZ e32 W0 (i := 12) rfl (fun _ q => q) (z := (16 : Int32)) (by decide) (g := (mkF m 153 #[sR r, sR b, sR no, sI (-1), sI 1, sI 2, sI 1, sI 0, sI (Int32.ofNat d), sI 0, sI 0, sI 0, sI 0, sI 1, sU] [(kR acs), (kI 0)])) rfl rfl (hb hby d_add_153) _ ?_
    refine XS.icmpNo X32.here hx rfl (hb hby d_add_154) rfl (by decide) ?_
    refine XS.iload X32.here hx rfl (hb hby d_add_157) rfl ?_
    refine XS.aloadN X32.here hx rfl (hb hby d_add_159) rfl rfl ?_
    exact k))
  obtain ⟨T34, X34, e34, st34⟩ := getR X32 hx hZ hown (hw _ (mi 116 rfl)) e32 (W0.fld (i := 1) rfl (j := 13) rfl rfl) (g := K33.g) rfl rfl (hb hby d_add_160)
  have K35 : Rch p e below s₁ F0 T34 (mkF m 165 #[sR r, sR b, sR no, sI (-1), sI 1, sI 2, sI 1, sI 0, sI (Int32.ofNat d), sI 0, sI 0, sI 0, sI 0, sI 1, sU] [(kR r), (kI (Int32.ofNat (d + cq)))]) := fun t k => K33 t (st34 t (by
    refine XS.iadd X34.here hx rfl (hb hby d_add_163) rfl ?_
    show Steps p.tables e below (T34.setTop (mkF m 164 #[sR r, sR b, sR no, sI (-1), sI 1, sI 2, sI 1, sI 0, sI (Int32.ofNat d), sI 0, sI 0, sI 0, sI 0, sI 1, sU] [(kI ((Int32.ofNat d) + (Int32.ofNat cq)))])) _
    rw [own_add d cq]
    show Steps p.tables e below (T34.setTop (mkF m 164 #[sR r, sR b, sR no, sI (-1), sI 1, sI 2, sI 1, sI 0, sI (Int32.ofNat d), sI 0, sI 0, sI 0, sI 0, sI 1, sU] [(kI (Int32.ofNat (d + cq)))])) _
    refine XS.aloadN X34.here hx rfl (hb hby d_add_164) rfl rfl ?_
    exact k))
  obtain ⟨T36, X36, e36, st36⟩ := getF X34 hx hZ hown (host := "") (Or.inl (hw _ (mi 39 rfl))) Via.refl e34 (W0.fld (i := 0) rfl (j := 11) rfl rfl) (g := K35.g) rfl rfl (hb hby d_add_165)
  have K37 : Rch p e below s₁ F0 T36 (mkF m 175 #[sR r, sR b, sR no, sI (-1), sI 1, sI 2, sI 1, sI 0, sI (Int32.ofNat d), sI 0, sI 0, sI 0, sI 0, sI 1, sU] [(kR b), (kI 0)]) := fun t k => K35 t (st36 t (by
    refine lenW X36 hx hZ e36 W0 (i := 13) rfl (fun _ q => q) (z := (16 : Int32)) (by decide) (g := (mkF m 168 #[sR r, sR b, sR no, sI (-1), sI 1, sI 2, sI 1, sI 0, sI (Int32.ofNat d), sI 0, sI 0, sI 0, sI 0, sI 1, sU] [(kR cms), (kI (Int32.ofNat (d + cq)))])) rfl rfl (hb hby d_add_168) _ ?_
    refine XS.icmpNo X36.here hx rfl (hb hby d_add_169) rfl (flt (own_nlt (a := 16) (b := d + cq) (by omega) (by decide))).2.2.1 ?_
    refine XS.iload X36.here hx rfl (hb hby d_add_172) rfl ?_
    refine XS.aloadN X36.here hx rfl (hb hby d_add_174) rfl rfl ?_
    exact k))
  obtain ⟨T38, X38, e38, st38⟩ := getR X36 hx hZ hown (hw _ (mi 117 rfl)) e36 (W0.fld (i := 1) rfl (j := 14) rfl rfl) (g := K37.g) rfl rfl (hb hby d_add_175)
  have K39 : Rch p e below s₁ F0 T38 (mkF m 180 #[sR r, sR b, sR no, sI (-1), sI 1, sI 2, sI 1, sI 0, sI (Int32.ofNat d), sI 0, sI 0, sI 0, sI 0, sI 1, sU] [(kR r), (kI 0)]) := fun t k => K37 t (st38 t (by
    refine XS.iadd X38.here hx rfl (hb hby d_add_178) rfl ?_
    refine XS.aloadN X38.here hx rfl (hb hby d_add_179) rfl rfl ?_
    exact k))
  obtain ⟨T40, X40, e40, st40⟩ := getF X38 hx hZ hown (host := "") (Or.inl (hw _ (mi 41 rfl))) Via.refl e38 (W0.fld (i := 0) rfl (j := 12) rfl rfl) (g := K39.g) rfl rfl (hb hby d_add_180)
  have K41 : Rch p e below s₁ F0 T40 (mkF m 195 #[sR r, sR b, sR no, sI (-1), sI 1, sI 2, sI 1, sI 0, sI (Int32.ofNat d), sI 0, sI 0, sI 0, sI 0, sI 1, sU] [(kR b), (kI 0)]) := fun t k => K39 t (st40 t (by
    refine lenW X40 hx hZ e40 W0 (i := 14) rfl (fun _ q => q) (z := (64 : Int32)) (by decide) (g := (mkF m 183 #[sR r, sR b, sR no, sI (-1), sI 1, sI 2, sI 1, sI 0, sI (Int32.ofNat d), sI 0, sI 0, sI 0, sI 0, sI 1, sU] [(kR sus), (kI 0)])) rfl rfl (hb hby d_add_183) _ ?_
    refine XS.icmpNo X40.here hx rfl (hb hby d_add_184) rfl (by decide) ?_
    refine XS.iload X40.here hx rfl (hb hby d_add_187) rfl ?_
    refine XS.ifNo X40.here hx rfl (hb hby d_add_189) rfl (by decide) ?_
    refine XS.iload X40.here hx rfl (hb hby d_add_192) rfl ?_
    refine XS.aloadN X40.here hx rfl (hb hby d_add_194) rfl rfl ?_
    exact k))
  obtain ⟨T42, X42, e42, st42⟩ := getR X40 hx hZ hown (hw _ (mi 117 rfl)) e40 (W0.fld (i := 1) rfl (j := 14) rfl rfl) (g := K41.g) rfl rfl (hb hby d_add_195)
  have K43 : Rch p e below s₁ F0 T42 (mkF m 200 #[sR r, sR b, sR no, sI (-1), sI 1, sI 2, sI 1, sI 0, sI (Int32.ofNat d), sI 0, sI 0, sI 0, sI 0, sI 1, sU] [(kR r), (kI 0)]) := fun t k => K41 t (st42 t (by
    refine XS.iadd X42.here hx rfl (hb hby d_add_198) rfl ?_
    refine XS.aloadN X42.here hx rfl (hb hby d_add_199) rfl rfl ?_
    exact k))
  obtain ⟨T44, X44, e44, st44⟩ := getF X42 hx hZ hown (host := "") (Or.inl (hw _ (mi 44 rfl))) Via.refl e42 (W0.fld (i := 0) rfl (j := 13) rfl rfl) (g := K43.g) rfl rfl (hb hby d_add_200)
  have K45 : Rch p e below s₁ F0 T44 (mkF m 210 #[sR r, sR b, sR no, sI (-1), sI 1, sI 2, sI 1, sI 0, sI (Int32.ofNat d), sI 0, sI 0, sI 0, sI 0, sI 1, sU] [(kR r), (kI 0)]) := fun t k => K43 t (st44 t (by
    refine lenW X44 hx hZ e44 W0 (i := 15) rfl (fun _ q => q) (z := (64 : Int32)) (by decide) (g := (mkF m 203 #[sR r, sR b, sR no, sI (-1), sI 1, sI 2, sI 1, sI 0, sI (Int32.ofNat d), sI 0, sI 0, sI 0, sI 0, sI 1, sU] [(kR prb), (kI 0)])) rfl rfl (hb hby d_add_203) _ ?_
    refine XS.icmpNo X44.here hx rfl (hb hby d_add_204) rfl (by decide) ?_
    refine XS.iload X44.here hx rfl (hb hby d_add_207) rfl ?_
    refine XS.aloadN X44.here hx rfl (hb hby d_add_209) rfl rfl ?_
    exact k))
  obtain ⟨T46, X46, e46, st46⟩ := getF X44 hx hZ hown (host := "") (Or.inl (hw _ (mi 17 rfl))) Via.refl e44 (W0.fld (i := 0) rfl (j := 0) rfl rfl) (g := K45.g) rfl rfl (hb hby d_add_210)
  have K47 : Rch p e below s₁ F0 T46 (mkF m 223 #[sR r, sR b, sR no, sI (-1), sI 1, sI 2, sI 1, sI 0, sI (Int32.ofNat d), sI 0, sI 0, sI 0, sI 0, sI 1, sU] [(kR r), (kI 0)]) := fun t k => K45 t (st46 t (by
    refine lenW X46 hx hZ e46 W0 (i := 2) rfl (fun _ q => q) (z := (0 : Int32)) (by decide) (g := (mkF m 213 #[sR r, sR b, sR no, sI (-1), sI 1, sI 2, sI 1, sI 0, sI (Int32.ofNat d), sI 0, sI 0, sI 0, sI 0, sI 1, sU] [(kR ks), (kI 0)])) rfl rfl (hb hby d_add_213) _ ?_
    refine XS.icmpNo X46.here hx rfl (hb hby d_add_214) rfl (by decide) ?_
    refine XS.iload X46.here hx rfl (hb hby d_add_217) rfl ?_
    refine XS.aloadN X46.here hx rfl (hb hby d_add_219) rfl rfl ?_
    refine lenW X46 hx hZ e46 W0 (i := 23) rfl (fun _ q => q) (z := (0 : Int32)) (by decide) (g := (mkF m 220 #[sR r, sR b, sR no, sI (-1), sI 1, sI 2, sI 1, sI 0, sI (Int32.ofNat d), sI 0, sI 0, sI 0, sI 0, sI 1, sU] [(kR no), (kI 0)])) rfl rfl (hb hby d_add_220) _ ?_
    refine XS.iadd X46.here hx rfl (hb hby d_add_221) rfl ?_
    show Steps p.tables e below (T46.setTop (mkF m 222 #[sR r, sR b, sR no, sI (-1), sI 1, sI 2, sI 1, sI 0, sI (Int32.ofNat d), sI 0, sI 0, sI 0, sI 0, sI 1, sU] [(kI 0)])) _
    refine XS.aloadN X46.here hx rfl (hb hby d_add_222) rfl rfl ?_
    exact k))
  obtain ⟨T48, X48, e48, st48⟩ := getF X46 hx hZ hown (host := "") (Or.inl (hw _ (mi 19 rfl))) Via.refl e46 (W0.fld (i := 0) rfl (j := 1) rfl rfl) (g := K47.g) rfl rfl (hb hby d_add_223)
  have K49 : Rch p e below s₁ F0 T48 (mkF m 255 #[sR r, sR b, sR no, sI (-1), sI 1, sI 2, sI 1, sI 0, sI (Int32.ofNat d), sI 0, sI 0, sI 0, sI 0, sI 1, sI 0] [(kR r)]) := fun t k => K47 t (st48 t (by
    refine lenW X48 hx hZ e48 W0 (i := 3) rfl (fun _ q => q) (z := (0 : Int32)) (by decide) (g := (mkF m 226 #[sR r, sR b, sR no, sI (-1), sI 1, sI 2, sI 1, sI 0, sI (Int32.ofNat d), sI 0, sI 0, sI 0, sI 0, sI 1, sU] [(kR rgs), (kI 0)])) rfl rfl (hb hby d_add_226) _ ?_
    refine XS.icmpYes X48.here hx rfl (pc0 := 227) (pc' := 244) rfl (hb hby d_add_227) rfl (by decide) (by decide) (by decide) ?_
    refine XS.iconst X48.here hx rfl (hb hby d_add_244) ?_
    refine XS.istore X48.here hx rfl (hb hby d_add_245) rfl (l' := #[sR r, sR b, sR no, sI (-1), sI 1, sI 2, sI 1, sI 0, sI (Int32.ofNat d), sI 0, sI 0, sI 0, sI 0, sI 1, sI 0]) rfl ?_
    refine XS.iload X48.here hx rfl (hb hby d_add_247) rfl ?_
    refine XS.iload X48.here hx rfl (hb hby d_add_249) rfl ?_
    show Steps p.tables e below (T48.setTop (mkF m 251 #[sR r, sR b, sR no, sI (-1), sI 1, sI 2, sI 1, sI 0, sI (Int32.ofNat d), sI 0, sI 0, sI 0, sI 0, sI 1, sI 0] [(kI 1), (kI 0)])) _
    refine XS.icmpNo X48.here hx rfl (hb hby d_add_251) rfl (by decide) ?_
    refine XS.aloadN X48.here hx rfl (hb hby d_add_254) rfl rfl ?_
    exact k))
  obtain ⟨T50, X50, e50, st50⟩ := getF X48 hx hZ hown (host := "") (Or.inl (hw _ (mi 31 rfl))) Via.refl e48 (W0.fld (i := 0) rfl (j := 7) rfl rfl) (g := K49.g) rfl rfl (hb hby d_add_255)
  have K51 : Rch p e below s₁ F0 T50 (mkF m 266 #[sR r, sR b, sR no, sI (-1), sI 1, sI 2, sI 1, sI 0, sI (Int32.ofNat d), sI 0, sI 0, sI 0, sI 0, sI 1, sI 0] [(kR b), (kI 0), (kI 2), (kR fac)]) := fun t k => K49 t (st50 t (by
    refine XS.iload X50.here hx rfl (hb hby d_add_258) rfl ?_
    refine XS.iload X50.here hx rfl (hb hby d_add_260) rfl ?_
    refine XS.iadd X50.here hx rfl (hb hby d_add_262) rfl ?_
    refine XS.iload X50.here hx rfl (hb hby d_add_263) rfl ?_
    refine XS.aloadN X50.here hx rfl (hb hby d_add_265) rfl rfl ?_
    exact k))
  obtain ⟨T52, X52, e52, st52⟩ := getR X50 hx hZ hown (hw _ (mi 118 rfl)) e50 (W0.fld (i := 1) rfl (j := 4) rfl rfl) (g := K51.g) rfl rfl (hb hby d_add_266)
  have K53 : Rch p e below s₁ F0 T52 (mkF m 273 #[sR r, sR b, sR no, sI (-1), sI 1, sI 2, sI 1, sI 0, sI (Int32.ofNat d), sI 0, sI 0, sI 0, sI 0, sI 1, sI 0] [(kI 0), (kI 2), (kR fac)]) := fun t k => K51 t (st52 t (by
    refine XS.iload X52.here hx rfl (hb hby d_add_269) rfl ?_
    refine ialW X52 hx hZ e52 W0 (i := 16) rfl (j := (0 : Int32)) (k := 0) (by decide) (by decide) (by decide) (v := (.int (0 : Int32))) h_f1_0 (g := (mkF m 271 #[sR r, sR b, sR no, sI (-1), sI 1, sI 2, sI 1, sI 0, sI (Int32.ofNat d), sI 0, sI 0, sI 0, sI 0, sI 1, sI 0] [(kI 0), (kR fa), (kI 0), (kI 2), (kR fac)])) rfl rfl (hb hby d_add_271) _ ?_
    refine XS.iadd X52.here hx rfl (hb hby d_add_272) rfl ?_
    exact k))
  obtain ⟨T54, h54, L54, X54, e54, N54, W54q, st54⟩ := iasW X52 hx hZ e52 W0 N0 (i := 9) (a := fac) rfl (j := (2 : Int32)) (x := (0 : Int32)) (k := 2) (by decide) (by decide) (by decide) (g := K53.g) rfl rfl (hb hby d_add_273)
  have W54 : Wo n0 h54 ((r, oR Z [(kR ks), (kR rgs), (kR ns), (kR fch), (kR fk), (kR kl), (kR frg), (kR fac), (kR fcm), (kR ftr), (kR acs), (kR cms), (kR sus), (kR prb), (kI 1), .null, (kI 1)]) :: (b, oB Z [.null, (kI 0), .null, (kI 0), (kR fa), (kR ac), (kR fc), (kR cm), (kR ft), (kR su), (kR pr), (kI 1), (kI 0), (kI (Int32.ofNat cq)), (kI 0), .null]) :: (ks, Ar Z .int 0 g_ks) :: (rgs, Ar Z .int 0 g_rgs) :: (ns, Ar Z .int 16 g_ns) :: (fch, Ar Z .int 17 g_fch) :: (fk, Ar Z .int 17 g_fk) :: (kl, Ar Z .int 16 g_kl) :: (frg, Ar Z .int 17 g_frg) :: (fac, Ar Z .int 17 (upd g_fac 2 (kI 0))) :: (fcm, Ar Z .int 17 g_fcm) :: (ftr, Ar Z .int 17 g_ftr) :: (acs, Ar Z .int 16 g_acs) :: (cms, Ar Z .int 16 g_cms) :: (sus, Ar Z .int 64 g_sus) :: (prb, Ar Z .double 64 g_prb) :: (fa, Ar Z .int 2 f1) :: (fc, Ar Z .int 2 f2) :: (ft, Ar Z .int 2 f3) :: (ac, Ar Z .int 2 f4) :: (cm, Ar Z .int n f5) :: (su, Ar Z .int 4 f6) :: (pr, Ar Z .double 4 f7) :: (no, Ar Z .int 0 f8) :: Rr) := W54q
  have K55 : Rch p e below s₁ F0 T54 (mkF m 275 #[sR r, sR b, sR no, sI (-1), sI 1, sI 2, sI 1, sI 0, sI (Int32.ofNat d), sI 0, sI 0, sI 0, sI 0, sI 1, sI 0] [(kR r)]) := fun t k => K53 t (st54 t (XS.aloadN X54.here hx rfl (hb hby d_add_274) rfl rfl k))
  obtain ⟨T56, X56, e56, st56⟩ := getF X54 hx hZ hown (host := "") (Or.inl (hw _ (mi 33 rfl))) Via.refl e54 (W54.fld (i := 0) rfl (j := 8) rfl rfl) (g := K55.g) rfl rfl (hb hby d_add_275)
  have K57 : Rch p e below s₁ F0 T56 (mkF m 286 #[sR r, sR b, sR no, sI (-1), sI 1, sI 2, sI 1, sI 0, sI (Int32.ofNat d), sI 0, sI 0, sI 0, sI 0, sI 1, sI 0] [(kR b), (kI (Int32.ofNat d)), (kI 2), (kR fcm)]) := fun t k => K55 t (st56 t (by
    refine XS.iload X56.here hx rfl (hb hby d_add_278) rfl ?_
    refine XS.iload X56.here hx rfl (hb hby d_add_280) rfl ?_
    refine XS.iadd X56.here hx rfl (hb hby d_add_282) rfl ?_
    refine XS.iload X56.here hx rfl (hb hby d_add_283) rfl ?_
    refine XS.aloadN X56.here hx rfl (hb hby d_add_285) rfl rfl ?_
    exact k))
  obtain ⟨T58, X58, e58, st58⟩ := getR X56 hx hZ hown (hw _ (mi 119 rfl)) e56 (W54.fld (i := 1) rfl (j := 6) rfl rfl) (g := K57.g) rfl rfl (hb hby d_add_286)
  have K59 : Rch p e below s₁ F0 T58 (mkF m 293 #[sR r, sR b, sR no, sI (-1), sI 1, sI 2, sI 1, sI 0, sI (Int32.ofNat d), sI 0, sI 0, sI 0, sI 0, sI 1, sI 0] [(kI (Int32.ofNat (d + x0))), (kI 2), (kR fcm)]) := fun t k => K57 t (st58 t (by
    refine XS.iload X58.here hx rfl (hb hby d_add_289) rfl ?_
    refine ialW X58 hx hZ e58 W54 (i := 17) rfl (j := (0 : Int32)) (k := 0) (by decide) (by decide) (by decide) (v := (.int (Int32.ofNat x0))) h_f2_0 (g := (mkF m 291 #[sR r, sR b, sR no, sI (-1), sI 1, sI 2, sI 1, sI 0, sI (Int32.ofNat d), sI 0, sI 0, sI 0, sI 0, sI 1, sI 0] [(kI 0), (kR fc), (kI (Int32.ofNat d)), (kI 2), (kR fcm)])) rfl rfl (hb hby d_add_291) _ ?_
    refine XS.iadd X58.here hx rfl (hb hby d_add_292) rfl ?_
    show Steps p.tables e below (T58.setTop (mkF m 293 #[sR r, sR b, sR no, sI (-1), sI 1, sI 2, sI 1, sI 0, sI (Int32.ofNat d), sI 0, sI 0, sI 0, sI 0, sI 1, sI 0] [(kI ((Int32.ofNat d) + (Int32.ofNat x0))), (kI 2), (kR fcm)])) _
    rw [own_add d x0]
    exact k))
  obtain ⟨T60, h60, L60, X60, e60, N60, W60q, st60⟩ := iasW X58 hx hZ e58 W54 N54 (i := 10) (a := fcm) rfl (j := (2 : Int32)) (x := (Int32.ofNat (d + x0))) (k := 2) (by decide) (by decide) (by decide) (g := K59.g) rfl rfl (hb hby d_add_293)
  have W60 : Wo n0 h60 ((r, oR Z [(kR ks), (kR rgs), (kR ns), (kR fch), (kR fk), (kR kl), (kR frg), (kR fac), (kR fcm), (kR ftr), (kR acs), (kR cms), (kR sus), (kR prb), (kI 1), .null, (kI 1)]) :: (b, oB Z [.null, (kI 0), .null, (kI 0), (kR fa), (kR ac), (kR fc), (kR cm), (kR ft), (kR su), (kR pr), (kI 1), (kI 0), (kI (Int32.ofNat cq)), (kI 0), .null]) :: (ks, Ar Z .int 0 g_ks) :: (rgs, Ar Z .int 0 g_rgs) :: (ns, Ar Z .int 16 g_ns) :: (fch, Ar Z .int 17 g_fch) :: (fk, Ar Z .int 17 g_fk) :: (kl, Ar Z .int 16 g_kl) :: (frg, Ar Z .int 17 g_frg) :: (fac, Ar Z .int 17 (upd g_fac 2 (kI 0))) :: (fcm, Ar Z .int 17 (upd g_fcm 2 (kI (Int32.ofNat (d + x0))))) :: (ftr, Ar Z .int 17 g_ftr) :: (acs, Ar Z .int 16 g_acs) :: (cms, Ar Z .int 16 g_cms) :: (sus, Ar Z .int 64 g_sus) :: (prb, Ar Z .double 64 g_prb) :: (fa, Ar Z .int 2 f1) :: (fc, Ar Z .int 2 f2) :: (ft, Ar Z .int 2 f3) :: (ac, Ar Z .int 2 f4) :: (cm, Ar Z .int n f5) :: (su, Ar Z .int 4 f6) :: (pr, Ar Z .double 4 f7) :: (no, Ar Z .int 0 f8) :: Rr) := W60q
  have K61 : Rch p e below s₁ F0 T60 (mkF m 295 #[sR r, sR b, sR no, sI (-1), sI 1, sI 2, sI 1, sI 0, sI (Int32.ofNat d), sI 0, sI 0, sI 0, sI 0, sI 1, sI 0] [(kR r)]) := fun t k => K59 t (st60 t (XS.aloadN X60.here hx rfl (hb hby d_add_294) rfl rfl k))
  obtain ⟨T62, X62, e62, st62⟩ := getF X60 hx hZ hown (host := "") (Or.inl (hw _ (mi 35 rfl))) Via.refl e60 (W60.fld (i := 0) rfl (j := 9) rfl rfl) (g := K61.g) rfl rfl (hb hby d_add_295)
  have K63 : Rch p e below s₁ F0 T62 (mkF m 306 #[sR r, sR b, sR no, sI (-1), sI 1, sI 2, sI 1, sI 0, sI (Int32.ofNat d), sI 0, sI 0, sI 0, sI 0, sI 1, sI 0] [(kR b), (kI 0), (kI 2), (kR ftr)]) := fun t k => K61 t (st62 t (by
    refine XS.iload X62.here hx rfl (hb hby d_add_298) rfl ?_
    refine XS.iload X62.here hx rfl (hb hby d_add_300) rfl ?_
    refine XS.iadd X62.here hx rfl (hb hby d_add_302) rfl ?_
    refine XS.iload X62.here hx rfl (hb hby d_add_303) rfl ?_
    refine XS.aloadN X62.here hx rfl (hb hby d_add_305) rfl rfl ?_
    exact k))
  obtain ⟨T64, X64, e64, st64⟩ := getR X62 hx hZ hown (hw _ (mi 120 rfl)) e62 (W60.fld (i := 1) rfl (j := 8) rfl rfl) (g := K63.g) rfl rfl (hb hby d_add_306)
  have K65 : Rch p e below s₁ F0 T64 (mkF m 313 #[sR r, sR b, sR no, sI (-1), sI 1, sI 2, sI 1, sI 0, sI (Int32.ofNat d), sI 0, sI 0, sI 0, sI 0, sI 1, sI 0] [(kI 0), (kI 2), (kR ftr)]) := fun t k => K63 t (st64 t (by
    refine XS.iload X64.here hx rfl (hb hby d_add_309) rfl ?_
    refine ialW X64 hx hZ e64 W60 (i := 18) rfl (j := (0 : Int32)) (k := 0) (by decide) (by decide) (by decide) (v := (.int (0 : Int32))) h_f3_0 (g := (mkF m 311 #[sR r, sR b, sR no, sI (-1), sI 1, sI 2, sI 1, sI 0, sI (Int32.ofNat d), sI 0, sI 0, sI 0, sI 0, sI 1, sI 0] [(kI 0), (kR ft), (kI 0), (kI 2), (kR ftr)])) rfl rfl (hb hby d_add_311) _ ?_
    refine XS.iadd X64.here hx rfl (hb hby d_add_312) rfl ?_
    exact k))
  obtain ⟨T66, h66, L66, X66, e66, N66, W66q, st66⟩ := iasW X64 hx hZ e64 W60 N60 (i := 11) (a := ftr) rfl (j := (2 : Int32)) (x := (0 : Int32)) (k := 2) (by decide) (by decide) (by decide) (g := K65.g) rfl rfl (hb hby d_add_313)
  have W66 : Wo n0 h66 ((r, oR Z [(kR ks), (kR rgs), (kR ns), (kR fch), (kR fk), (kR kl), (kR frg), (kR fac), (kR fcm), (kR ftr), (kR acs), (kR cms), (kR sus), (kR prb), (kI 1), .null, (kI 1)]) :: (b, oB Z [.null, (kI 0), .null, (kI 0), (kR fa), (kR ac), (kR fc), (kR cm), (kR ft), (kR su), (kR pr), (kI 1), (kI 0), (kI (Int32.ofNat cq)), (kI 0), .null]) :: (ks, Ar Z .int 0 g_ks) :: (rgs, Ar Z .int 0 g_rgs) :: (ns, Ar Z .int 16 g_ns) :: (fch, Ar Z .int 17 g_fch) :: (fk, Ar Z .int 17 g_fk) :: (kl, Ar Z .int 16 g_kl) :: (frg, Ar Z .int 17 g_frg) :: (fac, Ar Z .int 17 (upd g_fac 2 (kI 0))) :: (fcm, Ar Z .int 17 (upd g_fcm 2 (kI (Int32.ofNat (d + x0))))) :: (ftr, Ar Z .int 17 (upd g_ftr 2 (kI 0))) :: (acs, Ar Z .int 16 g_acs) :: (cms, Ar Z .int 16 g_cms) :: (sus, Ar Z .int 64 g_sus) :: (prb, Ar Z .double 64 g_prb) :: (fa, Ar Z .int 2 f1) :: (fc, Ar Z .int 2 f2) :: (ft, Ar Z .int 2 f3) :: (ac, Ar Z .int 2 f4) :: (cm, Ar Z .int n f5) :: (su, Ar Z .int 4 f6) :: (pr, Ar Z .double 4 f7) :: (no, Ar Z .int 0 f8) :: Rr) := W66q
  have K67 : Rch p e below s₁ F0 T66 (mkF m 321 #[sR r, sR b, sR no, sI (-1), sI 1, sI 2, sI 1, sI 0, sI (Int32.ofNat d), sI 0, sI 0, sI 0, sI 0, sI 1, sI 1] [(kR r)]) := fun t k => K65 t (st66 t (by
    refine XS.iinc X66.here hx rfl (hb hby d_add_314) rfl (l' := #[sR r, sR b, sR no, sI (-1), sI 1, sI 2, sI 1, sI 0, sI (Int32.ofNat d), sI 0, sI 0, sI 0, sI 0, sI 1, sI 1]) rfl ?_
    refine XS.goto X66.here hx rfl (pc0 := 317) (pc' := 247) rfl (hb hby d_add_317) (by decide) (by decide) ?_
    refine XS.iload X66.here hx rfl (hb hby d_add_247) rfl ?_
    refine XS.iload X66.here hx rfl (hb hby d_add_249) rfl ?_
    refine XS.icmpYes X66.here hx rfl (pc0 := 251) (pc' := 320) rfl (hb hby d_add_251) rfl (by decide) (by decide) (by decide) ?_
    refine XS.aloadN X66.here hx rfl (hb hby d_add_320) rfl rfl ?_
    exact k))
  obtain ⟨T68, X68, e68, st68⟩ := getF X66 hx hZ hown (host := "") (Or.inl (hw _ (mi 31 rfl))) Via.refl e66 (W66.fld (i := 0) rfl (j := 7) rfl rfl) (g := K67.g) rfl rfl (hb hby d_add_321)
  have K69 : Rch p e below s₁ F0 T68 (mkF m 332 #[sR r, sR b, sR no, sI (-1), sI 1, sI 2, sI 1, sI 0, sI (Int32.ofNat d), sI 0, sI 0, sI 0, sI 0, sI 1, sI 1] [(kR b), (kI 0), (kI 3), (kR fac)]) := fun t k => K67 t (st68 t (by
    refine XS.iload X68.here hx rfl (hb hby d_add_324) rfl ?_
    refine XS.iload X68.here hx rfl (hb hby d_add_326) rfl ?_
    refine XS.iadd X68.here hx rfl (hb hby d_add_328) rfl ?_
    refine XS.iload X68.here hx rfl (hb hby d_add_329) rfl ?_
    refine XS.aloadN X68.here hx rfl (hb hby d_add_331) rfl rfl ?_
    exact k))
  obtain ⟨T70, X70, e70, st70⟩ := getR X68 hx hZ hown (hw _ (mi 115 rfl)) e68 (W66.fld (i := 1) rfl (j := 12) rfl rfl) (g := K69.g) rfl rfl (hb hby d_add_332)
  have K71 : Rch p e below s₁ F0 T70 (mkF m 336 #[sR r, sR b, sR no, sI (-1), sI 1, sI 2, sI 1, sI 0, sI (Int32.ofNat d), sI 0, sI 0, sI 0, sI 0, sI 1, sI 1] [(kI 0), (kI 3), (kR fac)]) := fun t k => K69 t (st70 t (XS.iadd X70.here hx rfl (hb hby d_add_335) rfl k))
  obtain ⟨T72, h72, L72, X72, e72, N72, W72q, st72⟩ := iasW X70 hx hZ e70 W66 N66 (i := 9) (a := fac) rfl (j := (3 : Int32)) (x := (0 : Int32)) (k := 3) (by decide) (by decide) (by decide) (g := K71.g) rfl rfl (hb hby d_add_336)
  have W72 : Wo n0 h72 ((r, oR Z [(kR ks), (kR rgs), (kR ns), (kR fch), (kR fk), (kR kl), (kR frg), (kR fac), (kR fcm), (kR ftr), (kR acs), (kR cms), (kR sus), (kR prb), (kI 1), .null, (kI 1)]) :: (b, oB Z [.null, (kI 0), .null, (kI 0), (kR fa), (kR ac), (kR fc), (kR cm), (kR ft), (kR su), (kR pr), (kI 1), (kI 0), (kI (Int32.ofNat cq)), (kI 0), .null]) :: (ks, Ar Z .int 0 g_ks) :: (rgs, Ar Z .int 0 g_rgs) :: (ns, Ar Z .int 16 g_ns) :: (fch, Ar Z .int 17 g_fch) :: (fk, Ar Z .int 17 g_fk) :: (kl, Ar Z .int 16 g_kl) :: (frg, Ar Z .int 17 g_frg) :: (fac, Ar Z .int 17 (upd (upd g_fac 2 (kI 0)) 3 (kI 0))) :: (fcm, Ar Z .int 17 (upd g_fcm 2 (kI (Int32.ofNat (d + x0))))) :: (ftr, Ar Z .int 17 (upd g_ftr 2 (kI 0))) :: (acs, Ar Z .int 16 g_acs) :: (cms, Ar Z .int 16 g_cms) :: (sus, Ar Z .int 64 g_sus) :: (prb, Ar Z .double 64 g_prb) :: (fa, Ar Z .int 2 f1) :: (fc, Ar Z .int 2 f2) :: (ft, Ar Z .int 2 f3) :: (ac, Ar Z .int 2 f4) :: (cm, Ar Z .int n f5) :: (su, Ar Z .int 4 f6) :: (pr, Ar Z .double 4 f7) :: (no, Ar Z .int 0 f8) :: Rr) := W72q
  have K73 : Rch p e below s₁ F0 T72 (mkF m 338 #[sR r, sR b, sR no, sI (-1), sI 1, sI 2, sI 1, sI 0, sI (Int32.ofNat d), sI 0, sI 0, sI 0, sI 0, sI 1, sI 1] [(kR r)]) := fun t k => K71 t (st72 t (XS.aloadN X72.here hx rfl (hb hby d_add_337) rfl rfl k))
  obtain ⟨T74, X74, e74, st74⟩ := getF X72 hx hZ hown (host := "") (Or.inl (hw _ (mi 33 rfl))) Via.refl e72 (W72.fld (i := 0) rfl (j := 8) rfl rfl) (g := K73.g) rfl rfl (hb hby d_add_338)
  have K75 : Rch p e below s₁ F0 T74 (mkF m 349 #[sR r, sR b, sR no, sI (-1), sI 1, sI 2, sI 1, sI 0, sI (Int32.ofNat d), sI 0, sI 0, sI 0, sI 0, sI 1, sI 1] [(kR b), (kI (Int32.ofNat d)), (kI 3), (kR fcm)]) := fun t k => K73 t (st74 t (by
    refine XS.iload X74.here hx rfl (hb hby d_add_341) rfl ?_
    refine XS.iload X74.here hx rfl (hb hby d_add_343) rfl ?_
    refine XS.iadd X74.here hx rfl (hb hby d_add_345) rfl ?_
    refine XS.iload X74.here hx rfl (hb hby d_add_346) rfl ?_
    refine XS.aloadN X74.here hx rfl (hb hby d_add_348) rfl rfl ?_
    exact k))
  obtain ⟨T76, X76, e76, st76⟩ := getR X74 hx hZ hown (hw _ (mi 116 rfl)) e74 (W72.fld (i := 1) rfl (j := 13) rfl rfl) (g := K75.g) rfl rfl (hb hby d_add_349)
  have K77 : Rch p e below s₁ F0 T76 (mkF m 353 #[sR r, sR b, sR no, sI (-1), sI 1, sI 2, sI 1, sI 0, sI (Int32.ofNat d), sI 0, sI 0, sI 0, sI 0, sI 1, sI 1] [(kI (Int32.ofNat (d + cq))), (kI 3), (kR fcm)]) := fun t k => K75 t (st76 t (by
    refine XS.iadd X76.here hx rfl (hb hby d_add_352) rfl ?_
    show Steps p.tables e below (T76.setTop (mkF m 353 #[sR r, sR b, sR no, sI (-1), sI 1, sI 2, sI 1, sI 0, sI (Int32.ofNat d), sI 0, sI 0, sI 0, sI 0, sI 1, sI 1] [(kI ((Int32.ofNat d) + (Int32.ofNat cq))), (kI 3), (kR fcm)])) _
    rw [own_add d cq]
    exact k))
  obtain ⟨T78, h78, L78, X78, e78, N78, W78q, st78⟩ := iasW X76 hx hZ e76 W72 N72 (i := 10) (a := fcm) rfl (j := (3 : Int32)) (x := (Int32.ofNat (d + cq))) (k := 3) (by decide) (by decide) (by decide) (g := K77.g) rfl rfl (hb hby d_add_353)
  have W78 : Wo n0 h78 ((r, oR Z [(kR ks), (kR rgs), (kR ns), (kR fch), (kR fk), (kR kl), (kR frg), (kR fac), (kR fcm), (kR ftr), (kR acs), (kR cms), (kR sus), (kR prb), (kI 1), .null, (kI 1)]) :: (b, oB Z [.null, (kI 0), .null, (kI 0), (kR fa), (kR ac), (kR fc), (kR cm), (kR ft), (kR su), (kR pr), (kI 1), (kI 0), (kI (Int32.ofNat cq)), (kI 0), .null]) :: (ks, Ar Z .int 0 g_ks) :: (rgs, Ar Z .int 0 g_rgs) :: (ns, Ar Z .int 16 g_ns) :: (fch, Ar Z .int 17 g_fch) :: (fk, Ar Z .int 17 g_fk) :: (kl, Ar Z .int 16 g_kl) :: (frg, Ar Z .int 17 g_frg) :: (fac, Ar Z .int 17 (upd (upd g_fac 2 (kI 0)) 3 (kI 0))) :: (fcm, Ar Z .int 17 (upd (upd g_fcm 2 (kI (Int32.ofNat (d + x0)))) 3 (kI (Int32.ofNat (d + cq))))) :: (ftr, Ar Z .int 17 (upd g_ftr 2 (kI 0))) :: (acs, Ar Z .int 16 g_acs) :: (cms, Ar Z .int 16 g_cms) :: (sus, Ar Z .int 64 g_sus) :: (prb, Ar Z .double 64 g_prb) :: (fa, Ar Z .int 2 f1) :: (fc, Ar Z .int 2 f2) :: (ft, Ar Z .int 2 f3) :: (ac, Ar Z .int 2 f4) :: (cm, Ar Z .int n f5) :: (su, Ar Z .int 4 f6) :: (pr, Ar Z .double 4 f7) :: (no, Ar Z .int 0 f8) :: Rr) := W78q
  have K79 : Rch p e below s₁ F0 T78 (mkF m 355 #[sR r, sR b, sR no, sI (-1), sI 1, sI 2, sI 1, sI 0, sI (Int32.ofNat d), sI 0, sI 0, sI 0, sI 0, sI 1, sI 1] [(kR r)]) := fun t k => K77 t (st78 t (XS.aloadN X78.here hx rfl (hb hby d_add_354) rfl rfl k))
  obtain ⟨T80, X80, e80, st80⟩ := getF X78 hx hZ hown (host := "") (Or.inl (hw _ (mi 35 rfl))) Via.refl e78 (W78.fld (i := 0) rfl (j := 9) rfl rfl) (g := K79.g) rfl rfl (hb hby d_add_355)
  have K81 : Rch p e below s₁ F0 T80 (mkF m 366 #[sR r, sR b, sR no, sI (-1), sI 1, sI 2, sI 1, sI 0, sI (Int32.ofNat d), sI 0, sI 0, sI 0, sI 0, sI 1, sI 1] [(kR b), (kI 0), (kI 3), (kR ftr)]) := fun t k => K79 t (st80 t (by
    refine XS.iload X80.here hx rfl (hb hby d_add_358) rfl ?_
    refine XS.iload X80.here hx rfl (hb hby d_add_360) rfl ?_
    refine XS.iadd X80.here hx rfl (hb hby d_add_362) rfl ?_
    refine XS.iload X80.here hx rfl (hb hby d_add_363) rfl ?_
    refine XS.aloadN X80.here hx rfl (hb hby d_add_365) rfl rfl ?_
    exact k))
  obtain ⟨T82, X82, e82, st82⟩ := getR X80 hx hZ hown (hw _ (mi 117 rfl)) e80 (W78.fld (i := 1) rfl (j := 14) rfl rfl) (g := K81.g) rfl rfl (hb hby d_add_366)
  have K83 : Rch p e below s₁ F0 T82 (mkF m 370 #[sR r, sR b, sR no, sI (-1), sI 1, sI 2, sI 1, sI 0, sI (Int32.ofNat d), sI 0, sI 0, sI 0, sI 0, sI 1, sI 1] [(kI 0), (kI 3), (kR ftr)]) := fun t k => K81 t (st82 t (XS.iadd X82.here hx rfl (hb hby d_add_369) rfl k))
  obtain ⟨T84, h84, L84, X84, e84, N84, W84q, st84⟩ := iasW X82 hx hZ e82 W78 N78 (i := 11) (a := ftr) rfl (j := (3 : Int32)) (x := (0 : Int32)) (k := 3) (by decide) (by decide) (by decide) (g := K83.g) rfl rfl (hb hby d_add_370)
  have W84 : Wo n0 h84 ((r, oR Z [(kR ks), (kR rgs), (kR ns), (kR fch), (kR fk), (kR kl), (kR frg), (kR fac), (kR fcm), (kR ftr), (kR acs), (kR cms), (kR sus), (kR prb), (kI 1), .null, (kI 1)]) :: (b, oB Z [.null, (kI 0), .null, (kI 0), (kR fa), (kR ac), (kR fc), (kR cm), (kR ft), (kR su), (kR pr), (kI 1), (kI 0), (kI (Int32.ofNat cq)), (kI 0), .null]) :: (ks, Ar Z .int 0 g_ks) :: (rgs, Ar Z .int 0 g_rgs) :: (ns, Ar Z .int 16 g_ns) :: (fch, Ar Z .int 17 g_fch) :: (fk, Ar Z .int 17 g_fk) :: (kl, Ar Z .int 16 g_kl) :: (frg, Ar Z .int 17 g_frg) :: (fac, Ar Z .int 17 (upd (upd g_fac 2 (kI 0)) 3 (kI 0))) :: (fcm, Ar Z .int 17 (upd (upd g_fcm 2 (kI (Int32.ofNat (d + x0)))) 3 (kI (Int32.ofNat (d + cq))))) :: (ftr, Ar Z .int 17 (upd (upd g_ftr 2 (kI 0)) 3 (kI 0))) :: (acs, Ar Z .int 16 g_acs) :: (cms, Ar Z .int 16 g_cms) :: (sus, Ar Z .int 64 g_sus) :: (prb, Ar Z .double 64 g_prb) :: (fa, Ar Z .int 2 f1) :: (fc, Ar Z .int 2 f2) :: (ft, Ar Z .int 2 f3) :: (ac, Ar Z .int 2 f4) :: (cm, Ar Z .int n f5) :: (su, Ar Z .int 4 f6) :: (pr, Ar Z .double 4 f7) :: (no, Ar Z .int 0 f8) :: Rr) := W84q
  have K85 : Rch p e below s₁ F0 T84 (mkF m 372 #[sR r, sR b, sR no, sI (-1), sI 1, sI 2, sI 1, sI 0, sI (Int32.ofNat d), sI 0, sI 0, sI 0, sI 0, sI 1, sI 1] [(kR b)]) := fun t k => K83 t (st84 t (XS.aloadN X84.here hx rfl (hb hby d_add_371) rfl rfl k))
  obtain ⟨T86, X86, e86, st86⟩ := getR X84 hx hZ hown (hw _ (mi 121 rfl)) e84 (W84.fld (i := 1) rfl (j := 5) rfl rfl) (g := K85.g) rfl rfl (hb hby d_add_372)
  have K87 : Rch p e below s₁ F0 T86 (mkF m 377 #[sR r, sR b, sR no, sI (-1), sI 1, sI 2, sI 1, sI 0, sI (Int32.ofNat d), sI 0, sI 0, sI 0, sI 0, sI 1, sI 1] [(kR r), (kI 0), (kR ac)]) := fun t k => K85 t (st86 t (by
    refine XS.iconst X86.here hx rfl (hb hby d_add_375) ?_
    refine XS.aloadN X86.here hx rfl (hb hby d_add_376) rfl rfl ?_
    exact k))
  obtain ⟨T88, X88, e88, st88⟩ := getF X86 hx hZ hown (host := "") (Or.inl (hw _ (mi 37 rfl))) Via.refl e86 (W84.fld (i := 0) rfl (j := 10) rfl rfl) (g := K87.g) rfl rfl (hb hby d_add_377)
  have K89 : Rch p e below s₁ F0 T88 (mkF m 383 #[sR r, sR b, sR no, sI (-1), sI 1, sI 2, sI 1, sI 0, sI (Int32.ofNat d), sI 0, sI 0, sI 0, sI 0, sI 1, sI 1] [(kR b), (kI 0), (kR acs), (kI 0), (kR ac)]) := fun t k => K87 t (st88 t (by
    refine XS.iload X88.here hx rfl (hb hby d_add_380) rfl ?_
    refine XS.aloadN X88.here hx rfl (hb hby d_add_382) rfl rfl ?_
    exact k))
  obtain ⟨T90, X90, e90, st90⟩ := getR X88 hx hZ hown (hw _ (mi 115 rfl)) e88 (W84.fld (i := 1) rfl (j := 12) rfl rfl) (g := K89.g) rfl rfl (hb hby d_add_383)
  obtain ⟨T91, h91, L91, X91, e91, N91, W91q, st91⟩ := cpW X90 hx hZ hown (hw _ (mi 122 rfl)) (hw _ (mi 125 rfl)) (hw _ (mi 123 rfl)) (hw _ (mi 124 rfl)) e90 W84 N84 (i := 19) (j := 12) rfl rfl rfl (sp := (0 : Int32)) (dp := (0 : Int32)) (nn := (0 : Int32)) (s' := 0) (d' := 0) (k' := 0) (by decide) (by decide) (by decide) (by decide) (by decide) (by decide) (by decide) (by decide) (g := (mkF m 386 #[sR r, sR b, sR no, sI (-1), sI 1, sI 2, sI 1, sI 0, sI (Int32.ofNat d), sI 0, sI 0, sI 0, sI 0, sI 1, sI 1] [(kI 0), (kI 0), (kR acs), (kI 0), (kR ac)])) rfl (by rw [hml]; rfl) (rest := []) rfl (hb hby d_add_386) (by decide) (W0 := 0) (by show 2 * 0 + _ ≤ _; exact Nat.le_of_eq rfl) (by decide)
  have W91 : Wo n0 h91 ((r, oR Z [(kR ks), (kR rgs), (kR ns), (kR fch), (kR fk), (kR kl), (kR frg), (kR fac), (kR fcm), (kR ftr), (kR acs), (kR cms), (kR sus), (kR prb), (kI 1), .null, (kI 1)]) :: (b, oB Z [.null, (kI 0), .null, (kI 0), (kR fa), (kR ac), (kR fc), (kR cm), (kR ft), (kR su), (kR pr), (kI 1), (kI 0), (kI (Int32.ofNat cq)), (kI 0), .null]) :: (ks, Ar Z .int 0 g_ks) :: (rgs, Ar Z .int 0 g_rgs) :: (ns, Ar Z .int 16 g_ns) :: (fch, Ar Z .int 17 g_fch) :: (fk, Ar Z .int 17 g_fk) :: (kl, Ar Z .int 16 g_kl) :: (frg, Ar Z .int 17 g_frg) :: (fac, Ar Z .int 17 (upd (upd g_fac 2 (kI 0)) 3 (kI 0))) :: (fcm, Ar Z .int 17 (upd (upd g_fcm 2 (kI (Int32.ofNat (d + x0)))) 3 (kI (Int32.ofNat (d + cq))))) :: (ftr, Ar Z .int 17 (upd (upd g_ftr 2 (kI 0)) 3 (kI 0))) :: (acs, Ar Z .int 16 (cpy f4 g_acs 0 0 0)) :: (cms, Ar Z .int 16 g_cms) :: (sus, Ar Z .int 64 g_sus) :: (prb, Ar Z .double 64 g_prb) :: (fa, Ar Z .int 2 f1) :: (fc, Ar Z .int 2 f2) :: (ft, Ar Z .int 2 f3) :: (ac, Ar Z .int 2 f4) :: (cm, Ar Z .int n f5) :: (su, Ar Z .int 4 f6) :: (pr, Ar Z .double 4 f7) :: (no, Ar Z .int 0 f8) :: Rr) := W91q
  have K92 : Rch p e below s₁ F0 T91 (mkF m 390 #[sR r, sR b, sR no, sI (-1), sI 1, sI 2, sI 1, sI 0, sI (Int32.ofNat d), sI 0, sI 0, sI 0, sI 0, sI 1, sI 1] [(kR b)]) := fun t k => K89 t (st90 t (st91 t (XS.aloadN X91.here hx rfl (hb hby d_add_389) rfl rfl k)))
  obtain ⟨T93, X93, e93, st93⟩ := getR X91 hx hZ hown (hw _ (mi 126 rfl)) e91 (W91.fld (i := 1) rfl (j := 7) rfl rfl) (g := K92.g) rfl rfl (hb hby d_add_390)
  have K94 : Rch p e below s₁ F0 T93 (mkF m 395 #[sR r, sR b, sR no, sI (-1), sI 1, sI 2, sI 1, sI 0, sI (Int32.ofNat d), sI 0, sI 0, sI 0, sI 0, sI 1, sI 1] [(kR r), (kI 0), (kR cm)]) := fun t k => K92 t (st93 t (by
    refine XS.iconst X93.here hx rfl (hb hby d_add_393) ?_
    refine XS.aloadN X93.here hx rfl (hb hby d_add_394) rfl rfl ?_
    exact k))
  obtain ⟨T95, X95, e95, st95⟩ := getF X93 hx hZ hown (host := "") (Or.inl (hw _ (mi 39 rfl))) Via.refl e93 (W91.fld (i := 0) rfl (j := 11) rfl rfl) (g := K94.g) rfl rfl (hb hby d_add_395)
  have K96 : Rch p e below s₁ F0 T95 (mkF m 401 #[sR r, sR b, sR no, sI (-1), sI 1, sI 2, sI 1, sI 0, sI (Int32.ofNat d), sI 0, sI 0, sI 0, sI 0, sI 1, sI 1] [(kR b), (kI (Int32.ofNat d)), (kR cms), (kI 0), (kR cm)]) := fun t k => K94 t (st95 t (by
    refine XS.iload X95.here hx rfl (hb hby d_add_398) rfl ?_
    refine XS.aloadN X95.here hx rfl (hb hby d_add_400) rfl rfl ?_
    exact k))
  obtain ⟨T97, X97, e97, st97⟩ := getR X95 hx hZ hown (hw _ (mi 116 rfl)) e95 (W91.fld (i := 1) rfl (j := 13) rfl rfl) (g := K96.g) rfl rfl (hb hby d_add_401)
  obtain ⟨T98, h98, L98, X98, e98, N98, W98q, st98⟩ := cpW X97 hx hZ hown (hw _ (mi 122 rfl)) (hw _ (mi 125 rfl)) (hw _ (mi 123 rfl)) (hw _ (mi 124 rfl)) e97 W91 N91 (i := 20) (j := 13) rfl rfl rfl (sp := (0 : Int32)) (dp := (Int32.ofNat d)) (nn := (Int32.ofNat cq)) (s' := 0) (d' := d) (k' := cq) (by decide) (own_nn (by omega)) (own_nn (by omega)) (by decide) (own_tn (by omega)) (own_tn (by omega)) (by omega) (by omega) (g := (mkF m 404 #[sR r, sR b, sR no, sI (-1), sI 1, sI 2, sI 1, sI 0, sI (Int32.ofNat d), sI 0, sI 0, sI 0, sI 0, sI 1, sI 1] [(kI (Int32.ofNat cq)), (kI (Int32.ofNat d)), (kR cms), (kI 0), (kR cm)])) rfl (by rw [hml]; rfl) (rest := []) rfl (hb hby d_add_404) (by decide) (W0 := 0) (by show 2 * 0 + _ ≤ _; exact Nat.le_of_eq rfl) (by decide)
  have W98 : Wo n0 h98 ((r, oR Z [(kR ks), (kR rgs), (kR ns), (kR fch), (kR fk), (kR kl), (kR frg), (kR fac), (kR fcm), (kR ftr), (kR acs), (kR cms), (kR sus), (kR prb), (kI 1), .null, (kI 1)]) :: (b, oB Z [.null, (kI 0), .null, (kI 0), (kR fa), (kR ac), (kR fc), (kR cm), (kR ft), (kR su), (kR pr), (kI 1), (kI 0), (kI (Int32.ofNat cq)), (kI 0), .null]) :: (ks, Ar Z .int 0 g_ks) :: (rgs, Ar Z .int 0 g_rgs) :: (ns, Ar Z .int 16 g_ns) :: (fch, Ar Z .int 17 g_fch) :: (fk, Ar Z .int 17 g_fk) :: (kl, Ar Z .int 16 g_kl) :: (frg, Ar Z .int 17 g_frg) :: (fac, Ar Z .int 17 (upd (upd g_fac 2 (kI 0)) 3 (kI 0))) :: (fcm, Ar Z .int 17 (upd (upd g_fcm 2 (kI (Int32.ofNat (d + x0)))) 3 (kI (Int32.ofNat (d + cq))))) :: (ftr, Ar Z .int 17 (upd (upd g_ftr 2 (kI 0)) 3 (kI 0))) :: (acs, Ar Z .int 16 (cpy f4 g_acs 0 0 0)) :: (cms, Ar Z .int 16 (cpy f5 g_cms 0 d cq)) :: (sus, Ar Z .int 64 g_sus) :: (prb, Ar Z .double 64 g_prb) :: (fa, Ar Z .int 2 f1) :: (fc, Ar Z .int 2 f2) :: (ft, Ar Z .int 2 f3) :: (ac, Ar Z .int 2 f4) :: (cm, Ar Z .int n f5) :: (su, Ar Z .int 4 f6) :: (pr, Ar Z .double 4 f7) :: (no, Ar Z .int 0 f8) :: Rr) := W98q
  have K99 : Rch p e below s₁ F0 T98 (mkF m 408 #[sR r, sR b, sR no, sI (-1), sI 1, sI 2, sI 1, sI 0, sI (Int32.ofNat d), sI 0, sI 0, sI 0, sI 0, sI 1, sI 1] [(kR b)]) := fun t k => K96 t (st97 t (st98 t (XS.aloadN X98.here hx rfl (hb hby d_add_407) rfl rfl k)))
  obtain ⟨T100, X100, e100, st100⟩ := getR X98 hx hZ hown (hw _ (mi 127 rfl)) e98 (W98.fld (i := 1) rfl (j := 9) rfl rfl) (g := K99.g) rfl rfl (hb hby d_add_408)
  have K101 : Rch p e below s₁ F0 T100 (mkF m 413 #[sR r, sR b, sR no, sI (-1), sI 1, sI 2, sI 1, sI 0, sI (Int32.ofNat d), sI 0, sI 0, sI 0, sI 0, sI 1, sI 1] [(kR r), (kI 0), (kR su)]) := fun t k => K99 t (st100 t (by
    refine XS.iconst X100.here hx rfl (hb hby d_add_411) ?_
    refine XS.aloadN X100.here hx rfl (hb hby d_add_412) rfl rfl ?_
    exact k))
  obtain ⟨T102, X102, e102, st102⟩ := getF X100 hx hZ hown (host := "") (Or.inl (hw _ (mi 41 rfl))) Via.refl e100 (W98.fld (i := 0) rfl (j := 12) rfl rfl) (g := K101.g) rfl rfl (hb hby d_add_413)
  have K103 : Rch p e below s₁ F0 T102 (mkF m 419 #[sR r, sR b, sR no, sI (-1), sI 1, sI 2, sI 1, sI 0, sI (Int32.ofNat d), sI 0, sI 0, sI 0, sI 0, sI 1, sI 1] [(kR b), (kI 0), (kR sus), (kI 0), (kR su)]) := fun t k => K101 t (st102 t (by
    refine XS.iload X102.here hx rfl (hb hby d_add_416) rfl ?_
    refine XS.aloadN X102.here hx rfl (hb hby d_add_418) rfl rfl ?_
    exact k))
  obtain ⟨T104, X104, e104, st104⟩ := getR X102 hx hZ hown (hw _ (mi 117 rfl)) e102 (W98.fld (i := 1) rfl (j := 14) rfl rfl) (g := K103.g) rfl rfl (hb hby d_add_419)
  obtain ⟨T105, h105, L105, X105, e105, N105, W105q, st105⟩ := cpW X104 hx hZ hown (hw _ (mi 122 rfl)) (hw _ (mi 125 rfl)) (hw _ (mi 123 rfl)) (hw _ (mi 124 rfl)) e104 W98 N98 (i := 21) (j := 14) rfl rfl rfl (sp := (0 : Int32)) (dp := (0 : Int32)) (nn := (0 : Int32)) (s' := 0) (d' := 0) (k' := 0) (by decide) (by decide) (by decide) (by decide) (by decide) (by decide) (by decide) (by decide) (g := (mkF m 422 #[sR r, sR b, sR no, sI (-1), sI 1, sI 2, sI 1, sI 0, sI (Int32.ofNat d), sI 0, sI 0, sI 0, sI 0, sI 1, sI 1] [(kI 0), (kI 0), (kR sus), (kI 0), (kR su)])) rfl (by rw [hml]; rfl) (rest := []) rfl (hb hby d_add_422) (by decide) (W0 := 0) (by show 2 * 0 + _ ≤ _; exact Nat.le_of_eq rfl) (by decide)
  have W105 : Wo n0 h105 ((r, oR Z [(kR ks), (kR rgs), (kR ns), (kR fch), (kR fk), (kR kl), (kR frg), (kR fac), (kR fcm), (kR ftr), (kR acs), (kR cms), (kR sus), (kR prb), (kI 1), .null, (kI 1)]) :: (b, oB Z [.null, (kI 0), .null, (kI 0), (kR fa), (kR ac), (kR fc), (kR cm), (kR ft), (kR su), (kR pr), (kI 1), (kI 0), (kI (Int32.ofNat cq)), (kI 0), .null]) :: (ks, Ar Z .int 0 g_ks) :: (rgs, Ar Z .int 0 g_rgs) :: (ns, Ar Z .int 16 g_ns) :: (fch, Ar Z .int 17 g_fch) :: (fk, Ar Z .int 17 g_fk) :: (kl, Ar Z .int 16 g_kl) :: (frg, Ar Z .int 17 g_frg) :: (fac, Ar Z .int 17 (upd (upd g_fac 2 (kI 0)) 3 (kI 0))) :: (fcm, Ar Z .int 17 (upd (upd g_fcm 2 (kI (Int32.ofNat (d + x0)))) 3 (kI (Int32.ofNat (d + cq))))) :: (ftr, Ar Z .int 17 (upd (upd g_ftr 2 (kI 0)) 3 (kI 0))) :: (acs, Ar Z .int 16 (cpy f4 g_acs 0 0 0)) :: (cms, Ar Z .int 16 (cpy f5 g_cms 0 d cq)) :: (sus, Ar Z .int 64 (cpy f6 g_sus 0 0 0)) :: (prb, Ar Z .double 64 g_prb) :: (fa, Ar Z .int 2 f1) :: (fc, Ar Z .int 2 f2) :: (ft, Ar Z .int 2 f3) :: (ac, Ar Z .int 2 f4) :: (cm, Ar Z .int n f5) :: (su, Ar Z .int 4 f6) :: (pr, Ar Z .double 4 f7) :: (no, Ar Z .int 0 f8) :: Rr) := W105q
  have K106 : Rch p e below s₁ F0 T105 (mkF m 426 #[sR r, sR b, sR no, sI (-1), sI 1, sI 2, sI 1, sI 0, sI (Int32.ofNat d), sI 0, sI 0, sI 0, sI 0, sI 1, sI 1] [(kR b)]) := fun t k => K103 t (st104 t (st105 t (XS.aloadN X105.here hx rfl (hb hby d_add_425) rfl rfl k)))
  obtain ⟨T107, X107, e107, st107⟩ := getR X105 hx hZ hown (hw _ (mi 111 rfl)) e105 (W105.fld (i := 1) rfl (j := 0) rfl rfl) (g := K106.g) rfl rfl (hb hby d_add_426)
  have K108 : Rch p e below s₁ F0 T107 (mkF m 454 #[sR r, sR b, sR no, sI (-1), sI 1, sI 2, sI 1, sI 0, sI (Int32.ofNat d), sI 0, sI 0, sI 0, sI 0, sI 1, sI 1] [(kR r), (kI 0), (kR no)]) := fun t k => K106 t (st107 t (by
    refine XS.ifnullYes X107.here hx rfl (pc0 := 429) (pc' := 451) rfl (hb hby d_add_429) rfl (by decide) (by decide) ?_
    refine XS.aloadN X107.here hx rfl (hb hby d_add_451) rfl rfl ?_
    refine XS.iconst X107.here hx rfl (hb hby d_add_452) ?_
    refine XS.aloadN X107.here hx rfl (hb hby d_add_453) rfl rfl ?_
    exact k))
  obtain ⟨T109, X109, e109, st109⟩ := getF X107 hx hZ hown (host := "") (Or.inl (hw _ (mi 19 rfl))) Via.refl e107 (W105.fld (i := 0) rfl (j := 1) rfl rfl) (g := K108.g) rfl rfl (hb hby d_add_454)
  have K110 : Rch p e below s₁ F0 T109 (mkF m 461 #[sR r, sR b, sR no, sI (-1), sI 1, sI 2, sI 1, sI 0, sI (Int32.ofNat d), sI 0, sI 0, sI 0, sI 0, sI 1, sI 1] [(kI 0), (kI 0), (kR rgs), (kI 0), (kR no)]) := fun t k => K108 t (st109 t (by
    refine XS.iload X109.here hx rfl (hb hby d_add_457) rfl ?_
    refine XS.aloadN X109.here hx rfl (hb hby d_add_459) rfl rfl ?_
    refine lenW X109 hx hZ e109 W105 (i := 23) rfl (fun _ q => q) (z := (0 : Int32)) (by decide) (g := (mkF m 460 #[sR r, sR b, sR no, sI (-1), sI 1, sI 2, sI 1, sI 0, sI (Int32.ofNat d), sI 0, sI 0, sI 0, sI 0, sI 1, sI 1] [(kR no), (kI 0), (kR rgs), (kI 0), (kR no)])) rfl rfl (hb hby d_add_460) _ ?_
    exact k))
  obtain ⟨T111, h111, L111, X111, e111, N111, W111q, st111⟩ := cpW X109 hx hZ hown (hw _ (mi 122 rfl)) (hw _ (mi 125 rfl)) (hw _ (mi 123 rfl)) (hw _ (mi 124 rfl)) e109 W105 N105 (i := 23) (j := 3) rfl rfl rfl (sp := (0 : Int32)) (dp := (0 : Int32)) (nn := (0 : Int32)) (s' := 0) (d' := 0) (k' := 0) (by decide) (by decide) (by decide) (by decide) (by decide) (by decide) (by decide) (by decide) (g := K110.g) rfl (by rw [hml]; rfl) (rest := []) rfl (hb hby d_add_461) (by decide) (W0 := 0) (by show 2 * 0 + _ ≤ _; exact Nat.le_of_eq rfl) (by decide)
  have W111 : Wo n0 h111 ((r, oR Z [(kR ks), (kR rgs), (kR ns), (kR fch), (kR fk), (kR kl), (kR frg), (kR fac), (kR fcm), (kR ftr), (kR acs), (kR cms), (kR sus), (kR prb), (kI 1), .null, (kI 1)]) :: (b, oB Z [.null, (kI 0), .null, (kI 0), (kR fa), (kR ac), (kR fc), (kR cm), (kR ft), (kR su), (kR pr), (kI 1), (kI 0), (kI (Int32.ofNat cq)), (kI 0), .null]) :: (ks, Ar Z .int 0 g_ks) :: (rgs, Ar Z .int 0 (cpy f8 g_rgs 0 0 0)) :: (ns, Ar Z .int 16 g_ns) :: (fch, Ar Z .int 17 g_fch) :: (fk, Ar Z .int 17 g_fk) :: (kl, Ar Z .int 16 g_kl) :: (frg, Ar Z .int 17 g_frg) :: (fac, Ar Z .int 17 (upd (upd g_fac 2 (kI 0)) 3 (kI 0))) :: (fcm, Ar Z .int 17 (upd (upd g_fcm 2 (kI (Int32.ofNat (d + x0)))) 3 (kI (Int32.ofNat (d + cq))))) :: (ftr, Ar Z .int 17 (upd (upd g_ftr 2 (kI 0)) 3 (kI 0))) :: (acs, Ar Z .int 16 (cpy f4 g_acs 0 0 0)) :: (cms, Ar Z .int 16 (cpy f5 g_cms 0 d cq)) :: (sus, Ar Z .int 64 (cpy f6 g_sus 0 0 0)) :: (prb, Ar Z .double 64 g_prb) :: (fa, Ar Z .int 2 f1) :: (fc, Ar Z .int 2 f2) :: (ft, Ar Z .int 2 f3) :: (ac, Ar Z .int 2 f4) :: (cm, Ar Z .int n f5) :: (su, Ar Z .int 4 f6) :: (pr, Ar Z .double 4 f7) :: (no, Ar Z .int 0 f8) :: Rr) := W111q
  have K112 : Rch p e below s₁ F0 T111 (mkF m 465 #[sR r, sR b, sR no, sI (-1), sI 1, sI 2, sI 1, sI 0, sI (Int32.ofNat d), sI 0, sI 0, sI 0, sI 0, sI 1, sI 1] [(kR r)]) := fun t k => K110 t (st111 t (XS.aloadN X111.here hx rfl (hb hby d_add_464) rfl rfl k))
  obtain ⟨T113, X113, e113, st113⟩ := getF X111 hx hZ hown (host := "") (Or.inl (hw _ (mi 21 rfl))) Via.refl e111 (W111.fld (i := 0) rfl (j := 2) rfl rfl) (g := K112.g) rfl rfl (hb hby d_add_465)
  have K114 : Rch p e below s₁ F0 T113 (mkF m 471 #[sR r, sR b, sR no, sI (-1), sI 1, sI 2, sI 1, sI 0, sI (Int32.ofNat d), sI 0, sI 0, sI 0, sI 0, sI 1, sI 1] [(kI (-1)), (kI 1), (kR ns)]) := fun t k => K112 t (st113 t (by
    refine XS.iload X113.here hx rfl (hb hby d_add_468) rfl ?_
    refine XS.iloadN X113.here hx rfl (hb hby d_add_470) rfl ?_
    exact k))
  obtain ⟨T115, h115, L115, X115, e115, N115, W115q, st115⟩ := iasW X113 hx hZ e113 W111 N111 (i := 4) (a := ns) rfl (j := (1 : Int32)) (x := (-1 : Int32)) (k := 1) (by decide) (by decide) (by decide) (g := K114.g) rfl rfl (hb hby d_add_471)
  have W115 : Wo n0 h115 ((r, oR Z [(kR ks), (kR rgs), (kR ns), (kR fch), (kR fk), (kR kl), (kR frg), (kR fac), (kR fcm), (kR ftr), (kR acs), (kR cms), (kR sus), (kR prb), (kI 1), .null, (kI 1)]) :: (b, oB Z [.null, (kI 0), .null, (kI 0), (kR fa), (kR ac), (kR fc), (kR cm), (kR ft), (kR su), (kR pr), (kI 1), (kI 0), (kI (Int32.ofNat cq)), (kI 0), .null]) :: (ks, Ar Z .int 0 g_ks) :: (rgs, Ar Z .int 0 (cpy f8 g_rgs 0 0 0)) :: (ns, Ar Z .int 16 (upd g_ns 1 (kI (-1)))) :: (fch, Ar Z .int 17 g_fch) :: (fk, Ar Z .int 17 g_fk) :: (kl, Ar Z .int 16 g_kl) :: (frg, Ar Z .int 17 g_frg) :: (fac, Ar Z .int 17 (upd (upd g_fac 2 (kI 0)) 3 (kI 0))) :: (fcm, Ar Z .int 17 (upd (upd g_fcm 2 (kI (Int32.ofNat (d + x0)))) 3 (kI (Int32.ofNat (d + cq))))) :: (ftr, Ar Z .int 17 (upd (upd g_ftr 2 (kI 0)) 3 (kI 0))) :: (acs, Ar Z .int 16 (cpy f4 g_acs 0 0 0)) :: (cms, Ar Z .int 16 (cpy f5 g_cms 0 d cq)) :: (sus, Ar Z .int 64 (cpy f6 g_sus 0 0 0)) :: (prb, Ar Z .double 64 g_prb) :: (fa, Ar Z .int 2 f1) :: (fc, Ar Z .int 2 f2) :: (ft, Ar Z .int 2 f3) :: (ac, Ar Z .int 2 f4) :: (cm, Ar Z .int n f5) :: (su, Ar Z .int 4 f6) :: (pr, Ar Z .double 4 f7) :: (no, Ar Z .int 0 f8) :: Rr) := W115q
  have K116 : Rch p e below s₁ F0 T115 (mkF m 473 #[sR r, sR b, sR no, sI (-1), sI 1, sI 2, sI 1, sI 0, sI (Int32.ofNat d), sI 0, sI 0, sI 0, sI 0, sI 1, sI 1] [(kR r)]) := fun t k => K114 t (st115 t (XS.aloadN X115.here hx rfl (hb hby d_add_472) rfl rfl k))
  obtain ⟨T117, X117, e117, st117⟩ := getF X115 hx hZ hown (host := "") (Or.inl (hw _ (mi 27 rfl))) Via.refl e115 (W115.fld (i := 0) rfl (j := 5) rfl rfl) (g := K116.g) rfl rfl (hb hby d_add_473)
  have K118 : Rch p e below s₁ F0 T117 (mkF m 479 #[sR r, sR b, sR no, sI (-1), sI 1, sI 2, sI 1, sI 0, sI (Int32.ofNat d), sI 0, sI 0, sI 0, sI 0, sI 1, sI 1] [(kR b), (kI 1), (kR kl)]) := fun t k => K116 t (st117 t (by
    refine XS.iload X117.here hx rfl (hb hby d_add_476) rfl ?_
    refine XS.aloadN X117.here hx rfl (hb hby d_add_478) rfl rfl ?_
    exact k))
  obtain ⟨T119, X119, e119, st119⟩ := getR X117 hx hZ hown (hw _ (mi 111 rfl)) e117 (W115.fld (i := 1) rfl (j := 0) rfl rfl) (g := K118.g) rfl rfl (hb hby d_add_479)
  have K120 : Rch p e below s₁ F0 T119 (mkF m 494 #[sR r, sR b, sR no, sI (-1), sI 1, sI 2, sI 1, sI 0, sI (Int32.ofNat d), sI 0, sI 0, sI 0, sI 0, sI 1, sI 1] [(kI (-1)), (kI 1), (kR kl)]) := fun t k => K118 t (st119 t (by
    refine XS.ifnonnullNo X119.here hx rfl (hb hby d_add_482) rfl ?_
    refine XS.iconst X119.here hx rfl (hb hby d_add_485) ?_
    refine XS.goto X119.here hx rfl (pc0 := 486) (pc' := 494) rfl (hb hby d_add_486) (by decide) (by decide) ?_
    exact k))
  obtain ⟨T121, h121, L121, X121, e121, N121, W121q, st121⟩ := iasW X119 hx hZ e119 W115 N115 (i := 7) (a := kl) rfl (j := (1 : Int32)) (x := (-1 : Int32)) (k := 1) (by decide) (by decide) (by decide) (g := K120.g) rfl rfl (hb hby d_add_494)
  have W121 : Wo n0 h121 ((r, oR Z [(kR ks), (kR rgs), (kR ns), (kR fch), (kR fk), (kR kl), (kR frg), (kR fac), (kR fcm), (kR ftr), (kR acs), (kR cms), (kR sus), (kR prb), (kI 1), .null, (kI 1)]) :: (b, oB Z [.null, (kI 0), .null, (kI 0), (kR fa), (kR ac), (kR fc), (kR cm), (kR ft), (kR su), (kR pr), (kI 1), (kI 0), (kI (Int32.ofNat cq)), (kI 0), .null]) :: (ks, Ar Z .int 0 g_ks) :: (rgs, Ar Z .int 0 (cpy f8 g_rgs 0 0 0)) :: (ns, Ar Z .int 16 (upd g_ns 1 (kI (-1)))) :: (fch, Ar Z .int 17 g_fch) :: (fk, Ar Z .int 17 g_fk) :: (kl, Ar Z .int 16 (upd g_kl 1 (kI (-1)))) :: (frg, Ar Z .int 17 g_frg) :: (fac, Ar Z .int 17 (upd (upd g_fac 2 (kI 0)) 3 (kI 0))) :: (fcm, Ar Z .int 17 (upd (upd g_fcm 2 (kI (Int32.ofNat (d + x0)))) 3 (kI (Int32.ofNat (d + cq))))) :: (ftr, Ar Z .int 17 (upd (upd g_ftr 2 (kI 0)) 3 (kI 0))) :: (acs, Ar Z .int 16 (cpy f4 g_acs 0 0 0)) :: (cms, Ar Z .int 16 (cpy f5 g_cms 0 d cq)) :: (sus, Ar Z .int 64 (cpy f6 g_sus 0 0 0)) :: (prb, Ar Z .double 64 g_prb) :: (fa, Ar Z .int 2 f1) :: (fc, Ar Z .int 2 f2) :: (ft, Ar Z .int 2 f3) :: (ac, Ar Z .int 2 f4) :: (cm, Ar Z .int n f5) :: (su, Ar Z .int 4 f6) :: (pr, Ar Z .double 4 f7) :: (no, Ar Z .int 0 f8) :: Rr) := W121q
  have K122 : Rch p e below s₁ F0 T121 (mkF m 496 #[sR r, sR b, sR no, sI (-1), sI 1, sI 2, sI 1, sI 0, sI (Int32.ofNat d), sI 0, sI 0, sI 0, sI 0, sI 1, sI 1] [(kR r)]) := fun t k => K120 t (st121 t (XS.aloadN X121.here hx rfl (hb hby d_add_495) rfl rfl k))
  obtain ⟨T123, X123, e123, st123⟩ := getF X121 hx hZ hown (host := "") (Or.inl (hw _ (mi 23 rfl))) Via.refl e121 (W121.fld (i := 0) rfl (j := 3) rfl rfl) (g := K122.g) rfl rfl (hb hby d_add_496)
  have K124 : Rch p e below s₁ F0 T123 (mkF m 508 #[sR r, sR b, sR no, sI (-1), sI 1, sI 2, sI 1, sI 0, sI (Int32.ofNat d), sI 0, sI 0, sI 0, sI 0, sI 1, sI 1] [(kI 3), (kI 2), (kR fch)]) := fun t k => K122 t (st123 t (by
    refine XS.iload X123.here hx rfl (hb hby d_add_499) rfl ?_
    refine XS.iconst X123.here hx rfl (hb hby d_add_501) ?_
    refine XS.iadd X123.here hx rfl (hb hby d_add_502) rfl ?_
    refine XS.iload X123.here hx rfl (hb hby d_add_503) rfl ?_
    refine XS.iload X123.here hx rfl (hb hby d_add_505) rfl ?_
    refine XS.iadd X123.here hx rfl (hb hby d_add_507) rfl ?_
    exact k))
  obtain ⟨T125, h125, L125, X125, e125, N125, W125q, st125⟩ := iasW X123 hx hZ e123 W121 N121 (i := 5) (a := fch) rfl (j := (2 : Int32)) (x := (3 : Int32)) (k := 2) (by decide) (by decide) (by decide) (g := K124.g) rfl rfl (hb hby d_add_508)
  have W125 : Wo n0 h125 ((r, oR Z [(kR ks), (kR rgs), (kR ns), (kR fch), (kR fk), (kR kl), (kR frg), (kR fac), (kR fcm), (kR ftr), (kR acs), (kR cms), (kR sus), (kR prb), (kI 1), .null, (kI 1)]) :: (b, oB Z [.null, (kI 0), .null, (kI 0), (kR fa), (kR ac), (kR fc), (kR cm), (kR ft), (kR su), (kR pr), (kI 1), (kI 0), (kI (Int32.ofNat cq)), (kI 0), .null]) :: (ks, Ar Z .int 0 g_ks) :: (rgs, Ar Z .int 0 (cpy f8 g_rgs 0 0 0)) :: (ns, Ar Z .int 16 (upd g_ns 1 (kI (-1)))) :: (fch, Ar Z .int 17 (upd g_fch 2 (kI 3))) :: (fk, Ar Z .int 17 g_fk) :: (kl, Ar Z .int 16 (upd g_kl 1 (kI (-1)))) :: (frg, Ar Z .int 17 g_frg) :: (fac, Ar Z .int 17 (upd (upd g_fac 2 (kI 0)) 3 (kI 0))) :: (fcm, Ar Z .int 17 (upd (upd g_fcm 2 (kI (Int32.ofNat (d + x0)))) 3 (kI (Int32.ofNat (d + cq))))) :: (ftr, Ar Z .int 17 (upd (upd g_ftr 2 (kI 0)) 3 (kI 0))) :: (acs, Ar Z .int 16 (cpy f4 g_acs 0 0 0)) :: (cms, Ar Z .int 16 (cpy f5 g_cms 0 d cq)) :: (sus, Ar Z .int 64 (cpy f6 g_sus 0 0 0)) :: (prb, Ar Z .double 64 g_prb) :: (fa, Ar Z .int 2 f1) :: (fc, Ar Z .int 2 f2) :: (ft, Ar Z .int 2 f3) :: (ac, Ar Z .int 2 f4) :: (cm, Ar Z .int n f5) :: (su, Ar Z .int 4 f6) :: (pr, Ar Z .double 4 f7) :: (no, Ar Z .int 0 f8) :: Rr) := W125q
  have K126 : Rch p e below s₁ F0 T125 (mkF m 510 #[sR r, sR b, sR no, sI (-1), sI 1, sI 2, sI 1, sI 0, sI (Int32.ofNat d), sI 0, sI 0, sI 0, sI 0, sI 1, sI 1] [(kR r)]) := fun t k => K124 t (st125 t (XS.aloadN X125.here hx rfl (hb hby d_add_509) rfl rfl k))
  obtain ⟨T127, X127, e127, st127⟩ := getF X125 hx hZ hown (host := "") (Or.inl (hw _ (mi 25 rfl))) Via.refl e125 (W125.fld (i := 0) rfl (j := 4) rfl rfl) (g := K126.g) rfl rfl (hb hby d_add_510)
  have K128 : Rch p e below s₁ F0 T127 (mkF m 519 #[sR r, sR b, sR no, sI (-1), sI 1, sI 2, sI 1, sI 0, sI (Int32.ofNat d), sI 0, sI 0, sI 0, sI 0, sI 1, sI 1] [(kI 0), (kI 2), (kR fk)]) := fun t k => K126 t (st127 t (by
    refine XS.iload X127.here hx rfl (hb hby d_add_513) rfl ?_
    refine XS.iconst X127.here hx rfl (hb hby d_add_515) ?_
    refine XS.iadd X127.here hx rfl (hb hby d_add_516) rfl ?_
    refine XS.iload X127.here hx rfl (hb hby d_add_517) rfl ?_
    exact k))
  obtain ⟨T129, h129, L129, X129, e129, N129, W129q, st129⟩ := iasW X127 hx hZ e127 W125 N125 (i := 6) (a := fk) rfl (j := (2 : Int32)) (x := (0 : Int32)) (k := 2) (by decide) (by decide) (by decide) (g := K128.g) rfl rfl (hb hby d_add_519)
  have W129 : Wo n0 h129 ((r, oR Z [(kR ks), (kR rgs), (kR ns), (kR fch), (kR fk), (kR kl), (kR frg), (kR fac), (kR fcm), (kR ftr), (kR acs), (kR cms), (kR sus), (kR prb), (kI 1), .null, (kI 1)]) :: (b, oB Z [.null, (kI 0), .null, (kI 0), (kR fa), (kR ac), (kR fc), (kR cm), (kR ft), (kR su), (kR pr), (kI 1), (kI 0), (kI (Int32.ofNat cq)), (kI 0), .null]) :: (ks, Ar Z .int 0 g_ks) :: (rgs, Ar Z .int 0 (cpy f8 g_rgs 0 0 0)) :: (ns, Ar Z .int 16 (upd g_ns 1 (kI (-1)))) :: (fch, Ar Z .int 17 (upd g_fch 2 (kI 3))) :: (fk, Ar Z .int 17 (upd g_fk 2 (kI 0))) :: (kl, Ar Z .int 16 (upd g_kl 1 (kI (-1)))) :: (frg, Ar Z .int 17 g_frg) :: (fac, Ar Z .int 17 (upd (upd g_fac 2 (kI 0)) 3 (kI 0))) :: (fcm, Ar Z .int 17 (upd (upd g_fcm 2 (kI (Int32.ofNat (d + x0)))) 3 (kI (Int32.ofNat (d + cq))))) :: (ftr, Ar Z .int 17 (upd (upd g_ftr 2 (kI 0)) 3 (kI 0))) :: (acs, Ar Z .int 16 (cpy f4 g_acs 0 0 0)) :: (cms, Ar Z .int 16 (cpy f5 g_cms 0 d cq)) :: (sus, Ar Z .int 64 (cpy f6 g_sus 0 0 0)) :: (prb, Ar Z .double 64 g_prb) :: (fa, Ar Z .int 2 f1) :: (fc, Ar Z .int 2 f2) :: (ft, Ar Z .int 2 f3) :: (ac, Ar Z .int 2 f4) :: (cm, Ar Z .int n f5) :: (su, Ar Z .int 4 f6) :: (pr, Ar Z .double 4 f7) :: (no, Ar Z .int 0 f8) :: Rr) := W129q
  have K130 : Rch p e below s₁ F0 T129 (mkF m 521 #[sR r, sR b, sR no, sI (-1), sI 1, sI 2, sI 1, sI 0, sI (Int32.ofNat d), sI 0, sI 0, sI 0, sI 0, sI 1, sI 1] [(kR r)]) := fun t k => K128 t (st129 t (XS.aloadN X129.here hx rfl (hb hby d_add_520) rfl rfl k))
  obtain ⟨T131, X131, e131, st131⟩ := getF X129 hx hZ hown (host := "") (Or.inl (hw _ (mi 29 rfl))) Via.refl e129 (W129.fld (i := 0) rfl (j := 6) rfl rfl) (g := K130.g) rfl rfl (hb hby d_add_521)
  have K132 : Rch p e below s₁ F0 T131 (mkF m 533 #[sR r, sR b, sR no, sI (-1), sI 1, sI 2, sI 1, sI 0, sI (Int32.ofNat d), sI 0, sI 0, sI 0, sI 0, sI 1, sI 1] [(kI 0), (kI 2), (kR frg)]) := fun t k => K130 t (st131 t (by
    refine XS.iload X131.here hx rfl (hb hby d_add_524) rfl ?_
    refine XS.iconst X131.here hx rfl (hb hby d_add_526) ?_
    refine XS.iadd X131.here hx rfl (hb hby d_add_527) rfl ?_
    refine XS.iload X131.here hx rfl (hb hby d_add_528) rfl ?_
    refine XS.aloadN X131.here hx rfl (hb hby d_add_530) rfl rfl ?_
    refine lenW X131 hx hZ e131 W129 (i := 23) rfl (fun _ q => q) (z := (0 : Int32)) (by decide) (g := (mkF m 531 #[sR r, sR b, sR no, sI (-1), sI 1, sI 2, sI 1, sI 0, sI (Int32.ofNat d), sI 0, sI 0, sI 0, sI 0, sI 1, sI 1] [(kR no), (kI 0), (kI 2), (kR frg)])) rfl rfl (hb hby d_add_531) _ ?_
    show Steps p.tables e below (T131.setTop (mkF m 532 #[sR r, sR b, sR no, sI (-1), sI 1, sI 2, sI 1, sI 0, sI (Int32.ofNat d), sI 0, sI 0, sI 0, sI 0, sI 1, sI 1] [(kI 0), (kI 0), (kI 2), (kR frg)])) _
    refine XS.iadd X131.here hx rfl (hb hby d_add_532) rfl ?_
    exact k))
  obtain ⟨T133, h133, L133, X133, e133, N133, W133q, st133⟩ := iasW X131 hx hZ e131 W129 N129 (i := 8) (a := frg) rfl (j := (2 : Int32)) (x := (0 : Int32)) (k := 2) (by decide) (by decide) (by decide) (g := K132.g) rfl rfl (hb hby d_add_533)
  have W133 : Wo n0 h133 ((r, oR Z [(kR ks), (kR rgs), (kR ns), (kR fch), (kR fk), (kR kl), (kR frg), (kR fac), (kR fcm), (kR ftr), (kR acs), (kR cms), (kR sus), (kR prb), (kI 1), .null, (kI 1)]) :: (b, oB Z [.null, (kI 0), .null, (kI 0), (kR fa), (kR ac), (kR fc), (kR cm), (kR ft), (kR su), (kR pr), (kI 1), (kI 0), (kI (Int32.ofNat cq)), (kI 0), .null]) :: (ks, Ar Z .int 0 g_ks) :: (rgs, Ar Z .int 0 (cpy f8 g_rgs 0 0 0)) :: (ns, Ar Z .int 16 (upd g_ns 1 (kI (-1)))) :: (fch, Ar Z .int 17 (upd g_fch 2 (kI 3))) :: (fk, Ar Z .int 17 (upd g_fk 2 (kI 0))) :: (kl, Ar Z .int 16 (upd g_kl 1 (kI (-1)))) :: (frg, Ar Z .int 17 (upd g_frg 2 (kI 0))) :: (fac, Ar Z .int 17 (upd (upd g_fac 2 (kI 0)) 3 (kI 0))) :: (fcm, Ar Z .int 17 (upd (upd g_fcm 2 (kI (Int32.ofNat (d + x0)))) 3 (kI (Int32.ofNat (d + cq))))) :: (ftr, Ar Z .int 17 (upd (upd g_ftr 2 (kI 0)) 3 (kI 0))) :: (acs, Ar Z .int 16 (cpy f4 g_acs 0 0 0)) :: (cms, Ar Z .int 16 (cpy f5 g_cms 0 d cq)) :: (sus, Ar Z .int 64 (cpy f6 g_sus 0 0 0)) :: (prb, Ar Z .double 64 g_prb) :: (fa, Ar Z .int 2 f1) :: (fc, Ar Z .int 2 f2) :: (ft, Ar Z .int 2 f3) :: (ac, Ar Z .int 2 f4) :: (cm, Ar Z .int n f5) :: (su, Ar Z .int 4 f6) :: (pr, Ar Z .double 4 f7) :: (no, Ar Z .int 0 f8) :: Rr) := W133q
  have K134 : Rch p e below s₁ F0 T133 (mkF m 536 #[sR r, sR b, sR no, sI (-1), sI 1, sI 2, sI 1, sI 0, sI (Int32.ofNat d), sI 0, sI 0, sI 0, sI 0, sI 1, sI 1] [(kR r), (kR r)]) := fun t k => K132 t (st133 t (by
    refine XS.aloadN X133.here hx rfl (hb hby d_add_534) rfl rfl ?_
    refine XS.dup X133.here hx rfl (hb hby d_add_535) rfl rfl ?_
    exact k))
  obtain ⟨T135, X135, e135, st135⟩ := getF X133 hx hZ hown (host := "") (Or.inl (hw _ (mi 108 rfl))) Via.refl e133 (W133.fld (i := 0) rfl (j := 14) rfl rfl) (g := K134.g) rfl rfl (hb hby d_add_536)
  have K136 : Rch p e below s₁ F0 T135 (mkF m 541 #[sR r, sR b, sR no, sI (-1), sI 1, sI 2, sI 1, sI 0, sI (Int32.ofNat d), sI 0, sI 0, sI 0, sI 0, sI 1, sI 1] [(kI 2), (kR r)]) := fun t k => K134 t (st135 t (by
    refine XS.iconst X135.here hx rfl (hb hby d_add_539) ?_
    refine XS.iadd X135.here hx rfl (hb hby d_add_540) rfl ?_
    exact k))
  obtain ⟨T137, h137, L137, X137, e137, N137, W137q, st137⟩ := putW X135 hx hZ hown (host := "") (Or.inl (hw _ (mi 108 rfl))) e135 W133 N133 (own_dR hw) (Or.inl (hw _ (mi 109 rfl))) (hw _ (mi 9 rfl)) (ty := .int) (by decide +kernel) (i := 0) (a := r) rfl (j := 14) rfl rfl (v := (.int (2 : Int32))) rfl rfl (g := K136.g) rfl rfl (hb hby d_add_541)
  have W137 : Wo n0 h137 ((r, oR Z [(kR ks), (kR rgs), (kR ns), (kR fch), (kR fk), (kR kl), (kR frg), (kR fac), (kR fcm), (kR ftr), (kR acs), (kR cms), (kR sus), (kR prb), (kI 2), .null, (kI 1)]) :: (b, oB Z [.null, (kI 0), .null, (kI 0), (kR fa), (kR ac), (kR fc), (kR cm), (kR ft), (kR su), (kR pr), (kI 1), (kI 0), (kI (Int32.ofNat cq)), (kI 0), .null]) :: (ks, Ar Z .int 0 g_ks) :: (rgs, Ar Z .int 0 (cpy f8 g_rgs 0 0 0)) :: (ns, Ar Z .int 16 (upd g_ns 1 (kI (-1)))) :: (fch, Ar Z .int 17 (upd g_fch 2 (kI 3))) :: (fk, Ar Z .int 17 (upd g_fk 2 (kI 0))) :: (kl, Ar Z .int 16 (upd g_kl 1 (kI (-1)))) :: (frg, Ar Z .int 17 (upd g_frg 2 (kI 0))) :: (fac, Ar Z .int 17 (upd (upd g_fac 2 (kI 0)) 3 (kI 0))) :: (fcm, Ar Z .int 17 (upd (upd g_fcm 2 (kI (Int32.ofNat (d + x0)))) 3 (kI (Int32.ofNat (d + cq))))) :: (ftr, Ar Z .int 17 (upd (upd g_ftr 2 (kI 0)) 3 (kI 0))) :: (acs, Ar Z .int 16 (cpy f4 g_acs 0 0 0)) :: (cms, Ar Z .int 16 (cpy f5 g_cms 0 d cq)) :: (sus, Ar Z .int 64 (cpy f6 g_sus 0 0 0)) :: (prb, Ar Z .double 64 g_prb) :: (fa, Ar Z .int 2 f1) :: (fc, Ar Z .int 2 f2) :: (ft, Ar Z .int 2 f3) :: (ac, Ar Z .int 2 f4) :: (cm, Ar Z .int n f5) :: (su, Ar Z .int 4 f6) :: (pr, Ar Z .double 4 f7) :: (no, Ar Z .int 0 f8) :: Rr) := W137q
  have K138 : Rch p e below s₁ F0 T137 (mkF m 550 #[sR r, sR b, sR no, sI (-1), sI 1, sI 2, sI 1, sI 0, sI (Int32.ofNat d), sI 0, sI 0, sI 0, sI 0, sI 1, sI 1] [(kR b)]) := fun t k => K136 t (st137 t (by
    refine XS.iload X137.here hx rfl (hb hby d_add_544) rfl ?_
    refine XS.ifNo X137.here hx rfl (hb hby d_add_546) rfl (by decide) ?_
    refine XS.aloadN X137.here hx rfl (hb hby d_add_549) rfl rfl ?_
    exact k))
  obtain ⟨T139, X139, e139, st139⟩ := getR X137 hx hZ hown (hw _ (mi 128 rfl)) e137 (W137.fld (i := 1) rfl (j := 10) rfl rfl) (g := K138.g) rfl rfl (hb hby d_add_550)
  have K140 : Rch p e below s₁ F0 T139 (mkF m 555 #[sR r, sR b, sR no, sI (-1), sI 1, sI 2, sI 1, sI 0, sI (Int32.ofNat d), sI 0, sI 0, sI 0, sI 0, sI 1, sI 1] [(kR r), (kI 0), (kR pr)]) := fun t k => K138 t (st139 t (by
    refine XS.iconst X139.here hx rfl (hb hby d_add_553) ?_
    refine XS.aloadN X139.here hx rfl (hb hby d_add_554) rfl rfl ?_
    exact k))
  obtain ⟨T141, X141, e141, st141⟩ := getF X139 hx hZ hown (host := "") (Or.inl (hw _ (mi 44 rfl))) Via.refl e139 (W137.fld (i := 0) rfl (j := 13) rfl rfl) (g := K140.g) rfl rfl (hb hby d_add_555)
  have K142 : Rch p e below s₁ F0 T141 (mkF m 561 #[sR r, sR b, sR no, sI (-1), sI 1, sI 2, sI 1, sI 0, sI (Int32.ofNat d), sI 0, sI 0, sI 0, sI 0, sI 1, sI 1] [(kR b), (kI 0), (kR prb), (kI 0), (kR pr)]) := fun t k => K140 t (st141 t (by
    refine XS.iload X141.here hx rfl (hb hby d_add_558) rfl ?_
    refine XS.aloadN X141.here hx rfl (hb hby d_add_560) rfl rfl ?_
    exact k))
  obtain ⟨T143, X143, e143, st143⟩ := getR X141 hx hZ hown (hw _ (mi 117 rfl)) e141 (W137.fld (i := 1) rfl (j := 14) rfl rfl) (g := K142.g) rfl rfl (hb hby d_add_561)
  obtain ⟨T144, h144, L144, X144, e144, N144, W144q, st144⟩ := cpW X143 hx hZ hown (hw _ (mi 122 rfl)) (hw _ (mi 125 rfl)) (hw _ (mi 123 rfl)) (hw _ (mi 124 rfl)) e143 W137 N137 (i := 22) (j := 15) rfl rfl rfl (sp := (0 : Int32)) (dp := (0 : Int32)) (nn := (0 : Int32)) (s' := 0) (d' := 0) (k' := 0) (by decide) (by decide) (by decide) (by decide) (by decide) (by decide) (by decide) (by decide) (g := (mkF m 564 #[sR r, sR b, sR no, sI (-1), sI 1, sI 2, sI 1, sI 0, sI (Int32.ofNat d), sI 0, sI 0, sI 0, sI 0, sI 1, sI 1] [(kI 0), (kI 0), (kR prb), (kI 0), (kR pr)])) rfl (by rw [hml]; rfl) (rest := []) rfl (hb hby d_add_564) (by decide) (W0 := 0) (by show 2 * 0 + _ ≤ _; exact Nat.le_of_eq rfl) (by decide)
  have W144 : Wo n0 h144 ((r, oR Z [(kR ks), (kR rgs), (kR ns), (kR fch), (kR fk), (kR kl), (kR frg), (kR fac), (kR fcm), (kR ftr), (kR acs), (kR cms), (kR sus), (kR prb), (kI 2), .null, (kI 1)]) :: (b, oB Z [.null, (kI 0), .null, (kI 0), (kR fa), (kR ac), (kR fc), (kR cm), (kR ft), (kR su), (kR pr), (kI 1), (kI 0), (kI (Int32.ofNat cq)), (kI 0), .null]) :: (ks, Ar Z .int 0 g_ks) :: (rgs, Ar Z .int 0 (cpy f8 g_rgs 0 0 0)) :: (ns, Ar Z .int 16 (upd g_ns 1 (kI (-1)))) :: (fch, Ar Z .int 17 (upd g_fch 2 (kI 3))) :: (fk, Ar Z .int 17 (upd g_fk 2 (kI 0))) :: (kl, Ar Z .int 16 (upd g_kl 1 (kI (-1)))) :: (frg, Ar Z .int 17 (upd g_frg 2 (kI 0))) :: (fac, Ar Z .int 17 (upd (upd g_fac 2 (kI 0)) 3 (kI 0))) :: (fcm, Ar Z .int 17 (upd (upd g_fcm 2 (kI (Int32.ofNat (d + x0)))) 3 (kI (Int32.ofNat (d + cq))))) :: (ftr, Ar Z .int 17 (upd (upd g_ftr 2 (kI 0)) 3 (kI 0))) :: (acs, Ar Z .int 16 (cpy f4 g_acs 0 0 0)) :: (cms, Ar Z .int 16 (cpy f5 g_cms 0 d cq)) :: (sus, Ar Z .int 64 (cpy f6 g_sus 0 0 0)) :: (prb, Ar Z .double 64 (cpy f7 g_prb 0 0 0)) :: (fa, Ar Z .int 2 f1) :: (fc, Ar Z .int 2 f2) :: (ft, Ar Z .int 2 f3) :: (ac, Ar Z .int 2 f4) :: (cm, Ar Z .int n f5) :: (su, Ar Z .int 4 f6) :: (pr, Ar Z .double 4 f7) :: (no, Ar Z .int 0 f8) :: Rr) := W144q
  have K145 : Rch p e below s₁ F0 T144 (mkF m 569 #[sR r, sR b, sR no, sI (-1), sI 1, sI 2, sI 1, sI 0, sI (Int32.ofNat d), sI 0, sI 0, sI 0, sI 0, sI 1, sI 1] [(kR r), (kR r)]) := fun t k => K142 t (st143 t (st144 t (by
    refine XS.aloadN X144.here hx rfl (hb hby d_add_567) rfl rfl ?_
    refine XS.dup X144.here hx rfl (hb hby d_add_568) rfl rfl ?_
    exact k)))
  obtain ⟨T146, X146, e146, st146⟩ := getF X144 hx hZ hown (host := "") (Or.inl (hw _ (mi 129 rfl))) Via.refl e144 (W144.fld (i := 0) rfl (j := 16) rfl rfl) (g := K145.g) rfl rfl (hb hby d_add_569)
  have K147 : Rch p e below s₁ F0 T146 (mkF m 575 #[sR r, sR b, sR no, sI (-1), sI 1, sI 2, sI 1, sI 0, sI (Int32.ofNat d), sI 0, sI 0, sI 0, sI 0, sI 1, sI 1] [(kI 2), (kR r), (kI 1)]) := fun t k => K145 t (st146 t (by
    refine XS.dupX1 X146.here hx rfl (hb hby d_add_572) rfl rfl rfl ?_
    refine XS.iconst X146.here hx rfl (hb hby d_add_573) ?_
    refine XS.iadd X146.here hx rfl (hb hby d_add_574) rfl ?_
    exact k))
  obtain ⟨T148, h148, L148, X148, e148, N148, W148q, st148⟩ := putW X146 hx hZ hown (host := "") (Or.inl (hw _ (mi 129 rfl))) e146 W144 N144 (own_dR hw) (Or.inl (hw _ (mi 130 rfl))) (hw _ (mi 9 rfl)) (ty := .int) (by decide +kernel) (i := 0) (a := r) rfl (j := 16) rfl rfl (v := (.int (2 : Int32))) rfl rfl (g := K147.g) rfl rfl (hb hby d_add_575)
  have W148 : Wo n0 h148 ((r, oR Z [(kR ks), (kR rgs), (kR ns), (kR fch), (kR fk), (kR kl), (kR frg), (kR fac), (kR fcm), (kR ftr), (kR acs), (kR cms), (kR sus), (kR prb), (kI 2), .null, (kI 2)]) :: (b, oB Z [.null, (kI 0), .null, (kI 0), (kR fa), (kR ac), (kR fc), (kR cm), (kR ft), (kR su), (kR pr), (kI 1), (kI 0), (kI (Int32.ofNat cq)), (kI 0), .null]) :: (ks, Ar Z .int 0 g_ks) :: (rgs, Ar Z .int 0 (cpy f8 g_rgs 0 0 0)) :: (ns, Ar Z .int 16 (upd g_ns 1 (kI (-1)))) :: (fch, Ar Z .int 17 (upd g_fch 2 (kI 3))) :: (fk, Ar Z .int 17 (upd g_fk 2 (kI 0))) :: (kl, Ar Z .int 16 (upd g_kl 1 (kI (-1)))) :: (frg, Ar Z .int 17 (upd g_frg 2 (kI 0))) :: (fac, Ar Z .int 17 (upd (upd g_fac 2 (kI 0)) 3 (kI 0))) :: (fcm, Ar Z .int 17 (upd (upd g_fcm 2 (kI (Int32.ofNat (d + x0)))) 3 (kI (Int32.ofNat (d + cq))))) :: (ftr, Ar Z .int 17 (upd (upd g_ftr 2 (kI 0)) 3 (kI 0))) :: (acs, Ar Z .int 16 (cpy f4 g_acs 0 0 0)) :: (cms, Ar Z .int 16 (cpy f5 g_cms 0 d cq)) :: (sus, Ar Z .int 64 (cpy f6 g_sus 0 0 0)) :: (prb, Ar Z .double 64 (cpy f7 g_prb 0 0 0)) :: (fa, Ar Z .int 2 f1) :: (fc, Ar Z .int 2 f2) :: (ft, Ar Z .int 2 f3) :: (ac, Ar Z .int 2 f4) :: (cm, Ar Z .int n f5) :: (su, Ar Z .int 4 f6) :: (pr, Ar Z .double 4 f7) :: (no, Ar Z .int 0 f8) :: Rr) := W148q
  have K149 : Rch p e below s₁ F0 T148 (mkF m 639 #[sR r, sR b, sR no, sI (-1), sI 1, sI 2, sI 1, sI 0, sI (Int32.ofNat d), sI 0, sI 0, sI 0, sI 0, sI 1, sI 1] [(kI 1)]) := fun t k => K147 t (st148 t (by
    refine XS.istore X148.here hx rfl (hb hby d_add_578) rfl (l' := #[sR r, sR b, sR no, sI (-1), sI 1, sI 2, sI 1, sI 0, sI (Int32.ofNat d), sI 0, sI 0, sI 0, sI 0, sI 1, sI 1]) rfl ?_
    refine XS.goto X148.here hx rfl (pc0 := 580) (pc' := 637) rfl (hb hby d_add_580) (by decide) (by decide) ?_
    refine XS.iload X148.here hx rfl (hb hby d_add_637) rfl ?_
    exact k))
  obtain ⟨fs, hr, hrun, hended, hWm, hsame⟩ := X148.leave (v := some (.int (1 : Int32))) (fun h => by rw [Bd.returns] at h; cases h)
  refine ⟨_, _, pre0 _ (K149 _ (retI X148 hx Bd.returns (hb hby d_add_639) hr)), hrun, hended, _, _, rfl, ?_, ⟨_, rfl⟩, hWm, hsame.mono (by decide) (by decide)⟩
  show QrmADB Z r ks rgs ns fch fk kl frg fac fcm ftr acs cms sus prb b fa ac fc cm ft su pr no cq n d x0 g_ks g_rgs g_ns g_fch g_fk g_kl g_frg g_fac g_fcm g_ftr g_acs g_cms g_sus g_prb f1 f2 f3 f4 f5 f6 f7 f8 Rr n0 _ T148.heap _
  rw [e148]
  exact ⟨rfl, N148, W148⟩
def own_run (q : Nat → Int32) (s z : Nat) : Nat → Nat → Bool → Bool
  | 0, _, b => b
  | k + 1, i, b => if b then own_run q s z k (i + 1) (decide (q (s + i) = q (z + i))) else false
theorem own_bit : own_bi true = 1 := rfl
theorem own_bif : own_bi false = 0 := rfl
def own_fd (b : Bool) (c : Int32) : Int32 := if b then c else -1
theorem d_cn_84 : decode prog_87_method_34_code 84 = .ok (.iload 9, 2) := by decide +kernel
theorem d_cn_86 : decode prog_87_method_34_code 86 = .ok (.iload 4, 2) := by decide +kernel
theorem d_cn_88 : decode prog_87_method_34_code 88 = .ok (.if_icmp .ge 43, 3) := by decide +kernel
set_option maxRecDepth 65536 in
set_option maxHeartbeats 40000000 in
theorem tnO1 {p : Program} {l : Launch} {e : Env} {R : Room} {s : State} {m : MethodId} {args : Array Value} {below : List Frame} {meth : Method} {c : Code} {s₁ : State} {F0 : JFrame} {T0 : State} {locs : List Loc} {cells slots : Nat} {Z : State} {a0 : Array Value} {n0 : Nat} {h0 : Heap} (r ks rgs ns fch fk kl frg fac fcm ftr acs cms sus prb : Addr) (shc rwc : Int32) (gc : Nat → Value) (y z len i : Nat) (l1 l2 l5 l6 : Slot) (j : Int32) (Rr : List (Addr × (Cell → Prop)))
    (X0 : Stand p l e R s m args below meth c T0 locs cells slots) (hx : p.tables.exec = Jvm.exec) (hZ : Z.Warmed39 s.vm) (hw : ∀ d ∈ tables_1, d.before a0 Z = true) (hby : c.code = prog_87_method_34_code) (hml : c.maxLocals = 10) (hown : s.vm.findClass "com/example/sambre/sambre/engine/Rows" = some m.cls) (e0 : T0.heap = h0) (W0 : Wo n0 h0 ((r, oR Z [(kR ks), (kR rgs), (kR ns), (kR fch), (kR fk), (kR kl), (kR frg), (kR fac), (kR fcm), (kR ftr), (kR acs), (kR cms), (kR sus), (kR prb), (kI shc), .null, (kI rwc)]) :: (cms, Ar Z .int 16 gc) :: Rr)) (K0 : Rch p e below s₁ F0 T0 (mkF m 84 #[.val (.ref r), l1, l2, .val (.int (Int32.ofNat z)), .val (.int (Int32.ofNat len)), l5, l6, .val (.int (Int32.ofNat y)), .val (.int j), .val (.int (Int32.ofNat i))] [])) (hi : len ≤ i) (hbd : i ≤ 16) :
    ∃ T', Stand p l e R s m args below meth c T' locs cells slots ∧ T'.heap = h0 ∧ Rch p e below s₁ F0 T' (mkF m 131 #[.val (.ref r), l1, l2, .val (.int (Int32.ofNat z)), .val (.int (Int32.ofNat len)), l5, l6, .val (.int (Int32.ofNat y)), .val (.int j), .val (.int (Int32.ofNat i))] []) := by
  have K1 : Rch p e below s₁ F0 T0 (mkF m 131 #[sR r, l1, l2, sI (Int32.ofNat z), sI (Int32.ofNat len), l5, l6, sI (Int32.ofNat y), sI j, sI (Int32.ofNat i)] []) := fun t k => K0 t (by
    refine XS.iload X0.here hx rfl (hb hby d_cn_84) rfl ?_
    refine XS.iload X0.here hx rfl (hb hby d_cn_86) rfl ?_
    refine XS.icmpYes X0.here hx rfl (pc0 := 88) (pc' := 131) rfl (hb hby d_cn_88) rfl (flt (own_nlt (by omega) (by omega))).2.1 (by decide) (by decide) ?_
    exact k)
  exact ⟨T0, X0, e0, K1⟩
theorem d_cn_91 : decode prog_87_method_34_code 91 = .ok (.iload 8, 2) := by decide +kernel
theorem d_cn_93 : decode prog_87_method_34_code 93 = .ok (.ifCond .eq 38, 3) := by decide +kernel
set_option maxRecDepth 65536 in
set_option maxHeartbeats 40000000 in
theorem tnO2 {p : Program} {l : Launch} {e : Env} {R : Room} {s : State} {m : MethodId} {args : Array Value} {below : List Frame} {meth : Method} {c : Code} {s₁ : State} {F0 : JFrame} {T0 : State} {locs : List Loc} {cells slots : Nat} {Z : State} {a0 : Array Value} {n0 : Nat} {h0 : Heap} (r ks rgs ns fch fk kl frg fac fcm ftr acs cms sus prb : Addr) (shc rwc : Int32) (gc : Nat → Value) (y z len i : Nat) (l1 l2 l5 l6 : Slot) (Rr : List (Addr × (Cell → Prop)))
    (X0 : Stand p l e R s m args below meth c T0 locs cells slots) (hx : p.tables.exec = Jvm.exec) (hZ : Z.Warmed39 s.vm) (hw : ∀ d ∈ tables_1, d.before a0 Z = true) (hby : c.code = prog_87_method_34_code) (hml : c.maxLocals = 10) (hown : s.vm.findClass "com/example/sambre/sambre/engine/Rows" = some m.cls) (e0 : T0.heap = h0) (W0 : Wo n0 h0 ((r, oR Z [(kR ks), (kR rgs), (kR ns), (kR fch), (kR fk), (kR kl), (kR frg), (kR fac), (kR fcm), (kR ftr), (kR acs), (kR cms), (kR sus), (kR prb), (kI shc), .null, (kI rwc)]) :: (cms, Ar Z .int 16 gc) :: Rr)) (K0 : Rch p e below s₁ F0 T0 (mkF m 84 #[.val (.ref r), l1, l2, .val (.int (Int32.ofNat z)), .val (.int (Int32.ofNat len)), l5, l6, .val (.int (Int32.ofNat y)), .val (.int (0 : Int32)), .val (.int (Int32.ofNat i))] [])) (hi : i < len) (hbd : len ≤ 16) :
    ∃ T', Stand p l e R s m args below meth c T' locs cells slots ∧ T'.heap = h0 ∧ Rch p e below s₁ F0 T' (mkF m 131 #[.val (.ref r), l1, l2, .val (.int (Int32.ofNat z)), .val (.int (Int32.ofNat len)), l5, l6, .val (.int (Int32.ofNat y)), .val (.int (0 : Int32)), .val (.int (Int32.ofNat i))] []) := by
  have K1 : Rch p e below s₁ F0 T0 (mkF m 131 #[sR r, l1, l2, sI (Int32.ofNat z), sI (Int32.ofNat len), l5, l6, sI (Int32.ofNat y), sI 0, sI (Int32.ofNat i)] []) := fun t k => K0 t (by
    refine XS.iload X0.here hx rfl (hb hby d_cn_84) rfl ?_
    refine XS.iload X0.here hx rfl (hb hby d_cn_86) rfl ?_
    refine XS.icmpNo X0.here hx rfl (hb hby d_cn_88) rfl (tlt (own_lt (by omega) (by omega))).2.1 ?_
    refine XS.iload X0.here hx rfl (hb hby d_cn_91) rfl ?_
    refine XS.ifYes X0.here hx rfl (pc0 := 93) (pc' := 131) rfl (hb hby d_cn_93) rfl (by decide) (by decide) (by decide) ?_
    exact k)
  exact ⟨T0, X0, e0, K1⟩
theorem d_cn_96 : decode prog_87_method_34_code 96 = .ok (.aload_n 0, 1) := by decide +kernel
theorem d_cn_97 : decode prog_87_method_34_code 97 = .ok (.getfield 43, 3) := by decide +kernel
theorem d_cn_100 : decode prog_87_method_34_code 100 = .ok (.iload 7, 2) := by decide +kernel
theorem d_cn_102 : decode prog_87_method_34_code 102 = .ok (.iload 9, 2) := by decide +kernel
theorem d_cn_104 : decode prog_87_method_34_code 104 = .ok (.iadd, 1) := by decide +kernel
theorem d_cn_105 : decode prog_87_method_34_code 105 = .ok (.iaload, 1) := by decide +kernel
theorem d_cn_106 : decode prog_87_method_34_code 106 = .ok (.aload_n 0, 1) := by decide +kernel
theorem d_cn_107 : decode prog_87_method_34_code 107 = .ok (.getfield 43, 3) := by decide +kernel
theorem d_cn_110 : decode prog_87_method_34_code 110 = .ok (.iload_n 3, 1) := by decide +kernel
theorem d_cn_111 : decode prog_87_method_34_code 111 = .ok (.iload 9, 2) := by decide +kernel
theorem d_cn_113 : decode prog_87_method_34_code 113 = .ok (.iadd, 1) := by decide +kernel
theorem d_cn_114 : decode prog_87_method_34_code 114 = .ok (.iaload, 1) := by decide +kernel
theorem d_cn_115 : decode prog_87_method_34_code 115 = .ok (.if_icmp .ne 7, 3) := by decide +kernel
theorem d_cn_118 : decode prog_87_method_34_code 118 = .ok (.iconst 1, 1) := by decide +kernel
theorem d_cn_119 : decode prog_87_method_34_code 119 = .ok (.goto 4, 3) := by decide +kernel
theorem d_cn_122 : decode prog_87_method_34_code 122 = .ok (.iconst 0, 1) := by decide +kernel
theorem d_cn_123 : decode prog_87_method_34_code 123 = .ok (.istore 8, 2) := by decide +kernel
theorem d_cn_125 : decode prog_87_method_34_code 125 = .ok (.iinc 9 1, 3) := by decide +kernel
theorem d_cn_128 : decode prog_87_method_34_code 128 = .ok (.goto (-44), 3) := by decide +kernel
set_option maxRecDepth 65536 in
set_option maxHeartbeats 40000000 in
theorem tnI {p : Program} {l : Launch} {e : Env} {R : Room} {s : State} {m : MethodId} {args : Array Value} {below : List Frame} {meth : Method} {c : Code} {s₁ : State} {F0 : JFrame} {T0 : State} {locs : List Loc} {cells slots : Nat} {Z : State} {a0 : Array Value} {n0 : Nat} {h0 : Heap} (r ks rgs ns fch fk kl frg fac fcm ftr acs cms sus prb : Addr) (shc rwc : Int32) (gc : Nat → Value) (y z len i : Nat) (l1 l2 l5 l6 : Slot) (Rr : List (Addr × (Cell → Prop)))
    (X0 : Stand p l e R s m args below meth c T0 locs cells slots) (hx : p.tables.exec = Jvm.exec) (hZ : Z.Warmed39 s.vm) (hw : ∀ d ∈ tables_1, d.before a0 Z = true) (hby : c.code = prog_87_method_34_code) (hml : c.maxLocals = 10) (hown : s.vm.findClass "com/example/sambre/sambre/engine/Rows" = some m.cls) (e0 : T0.heap = h0) (W0 : Wo n0 h0 ((r, oR Z [(kR ks), (kR rgs), (kR ns), (kR fch), (kR fk), (kR kl), (kR frg), (kR fac), (kR fcm), (kR ftr), (kR acs), (kR cms), (kR sus), (kR prb), (kI shc), .null, (kI rwc)]) :: (cms, Ar Z .int 16 gc) :: Rr)) (K0 : Rch p e below s₁ F0 T0 (mkF m 84 #[.val (.ref r), l1, l2, .val (.int (Int32.ofNat z)), .val (.int (Int32.ofNat len)), l5, l6, .val (.int (Int32.ofNat y)), .val (.int (1 : Int32)), .val (.int (Int32.ofNat i))] [])) (hi : i < len) (hy : y + len ≤ 16) (hz : z + len ≤ 16) :
    ∃ T', Stand p l e R s m args below meth c T' locs cells slots ∧ T'.heap = h0 ∧ Rch p e below s₁ F0 T' (mkF m 84 #[.val (.ref r), l1, l2, .val (.int (Int32.ofNat z)), .val (.int (Int32.ofNat len)), l5, l6, .val (.int (Int32.ofNat y)), .val (.int (own_bi (decide ((own_iv (gc (y + i))) = (own_iv (gc (z + i))))))), .val (.int (Int32.ofNat (i + 1)))] []) := by
  have K1 : Rch p e below s₁ F0 T0 (mkF m 97 #[sR r, l1, l2, sI (Int32.ofNat z), sI (Int32.ofNat len), l5, l6, sI (Int32.ofNat y), sI 1, sI (Int32.ofNat i)] [(kR r)]) := fun t k => K0 t (by
    refine XS.iload X0.here hx rfl (hb hby d_cn_84) rfl ?_
    refine XS.iload X0.here hx rfl (hb hby d_cn_86) rfl ?_
    refine XS.icmpNo X0.here hx rfl (hb hby d_cn_88) rfl (tlt (own_lt (by omega) (by omega))).2.1 ?_
    refine XS.iload X0.here hx rfl (hb hby d_cn_91) rfl ?_
    refine XS.ifNo X0.here hx rfl (hb hby d_cn_93) rfl (by decide) ?_
    refine XS.aloadN X0.here hx rfl (hb hby d_cn_96) rfl rfl ?_
    exact k)
  obtain ⟨T2, X2, e2, st2⟩ := getF X0 hx hZ hown (host := "") (Or.inl (hw _ (mi 39 rfl))) Via.refl e0 (W0.fld (i := 0) rfl (j := 11) rfl rfl) (g := K1.g) rfl rfl (hb hby d_cn_97)
  have K3 : Rch p e below s₁ F0 T2 (mkF m 107 #[sR r, l1, l2, sI (Int32.ofNat z), sI (Int32.ofNat len), l5, l6, sI (Int32.ofNat y), sI 1, sI (Int32.ofNat i)] [(kR r), (kI (own_iv (gc (y + i))))]) := fun t k => K1 t (st2 t (by
    refine XS.iload X2.here hx rfl (hb hby d_cn_100) rfl ?_
    refine XS.iload X2.here hx rfl (hb hby d_cn_102) rfl ?_
    refine XS.iadd X2.here hx rfl (hb hby d_cn_104) rfl ?_
    show Steps p.tables e below (T2.setTop (mkF m 105 #[sR r, l1, l2, sI (Int32.ofNat z), sI (Int32.ofNat len), l5, l6, sI (Int32.ofNat y), sI 1, sI (Int32.ofNat i)] [(kI ((Int32.ofNat y) + (Int32.ofNat i))), (kR cms)])) _
    rw [own_add y i]
    show Steps p.tables e below (T2.setTop (mkF m 105 #[sR r, l1, l2, sI (Int32.ofNat z), sI (Int32.ofNat len), l5, l6, sI (Int32.ofNat y), sI 1, sI (Int32.ofNat i)] [(kI (Int32.ofNat (y + i))), (kR cms)])) _
    refine ialW X2 hx hZ e2 W0 (i := 1) rfl (j := (Int32.ofNat (y + i))) (k := (y + i)) (own_nn (by omega)) (own_tn (by omega)) (by omega) (v := (.int (own_iv (gc (y + i))))) (own_arI W0 (i := 1) rfl (by omega)) (g := (mkF m 105 #[sR r, l1, l2, sI (Int32.ofNat z), sI (Int32.ofNat len), l5, l6, sI (Int32.ofNat y), sI 1, sI (Int32.ofNat i)] [(kI (Int32.ofNat (y + i))), (kR cms)])) rfl rfl (hb hby d_cn_105) _ ?_
    refine XS.aloadN X2.here hx rfl (hb hby d_cn_106) rfl rfl ?_
    exact k))
  obtain ⟨T4, X4, e4, st4⟩ := getF X2 hx hZ hown (host := "") (Or.inl (hw _ (mi 39 rfl))) Via.refl e2 (W0.fld (i := 0) rfl (j := 11) rfl rfl) (g := K3.g) rfl rfl (hb hby d_cn_107)
  have K5 : Rch p e below s₁ F0 T4 (mkF m 115 #[sR r, l1, l2, sI (Int32.ofNat z), sI (Int32.ofNat len), l5, l6, sI (Int32.ofNat y), sI 1, sI (Int32.ofNat i)] [(kI (own_iv (gc (z + i)))), (kI (own_iv (gc (y + i))))]) := fun t k => K3 t (st4 t (by
    refine XS.iloadN X4.here hx rfl (hb hby d_cn_110) rfl ?_
    refine XS.iload X4.here hx rfl (hb hby d_cn_111) rfl ?_
    refine XS.iadd X4.here hx rfl (hb hby d_cn_113) rfl ?_
    show Steps p.tables e below (T4.setTop (mkF m 114 #[sR r, l1, l2, sI (Int32.ofNat z), sI (Int32.ofNat len), l5, l6, sI (Int32.ofNat y), sI 1, sI (Int32.ofNat i)] [(kI ((Int32.ofNat z) + (Int32.ofNat i))), (kR cms), (kI (own_iv (gc (y + i))))])) _
    rw [own_add z i]
    show Steps p.tables e below (T4.setTop (mkF m 114 #[sR r, l1, l2, sI (Int32.ofNat z), sI (Int32.ofNat len), l5, l6, sI (Int32.ofNat y), sI 1, sI (Int32.ofNat i)] [(kI (Int32.ofNat (z + i))), (kR cms), (kI (own_iv (gc (y + i))))])) _
    refine ialW X4 hx hZ e4 W0 (i := 1) rfl (j := (Int32.ofNat (z + i))) (k := (z + i)) (own_nn (by omega)) (own_tn (by omega)) (by omega) (v := (.int (own_iv (gc (z + i))))) (own_arI W0 (i := 1) rfl (by omega)) (g := (mkF m 114 #[sR r, l1, l2, sI (Int32.ofNat z), sI (Int32.ofNat len), l5, l6, sI (Int32.ofNat y), sI 1, sI (Int32.ofNat i)] [(kI (Int32.ofNat (z + i))), (kR cms), (kI (own_iv (gc (y + i))))])) rfl rfl (hb hby d_cn_114) _ ?_
    exact k))
  have K6 : Rch p e below s₁ F0 T4 (mkF m 123 #[sR r, l1, l2, sI (Int32.ofNat z), sI (Int32.ofNat len), l5, l6, sI (Int32.ofNat y), sI 1, sI (Int32.ofNat i)] [(kI (own_bi (decide ((own_iv (gc (y + i))) = (own_iv (gc (z + i)))))))]) := fun t k => K5 t (by
    by_cases hq : (own_iv (gc (y + i))) = (own_iv (gc (z + i)))
    · rw [show own_bi (decide ((own_iv (gc (y + i))) = (own_iv (gc (z + i))))) = 1 from by rw [decide_eq_true hq]; rfl] at k
      refine XS.icmpNo X4.here hx rfl (hb hby d_cn_115) rfl (teq hq).2 ?_
      refine XS.iconst X4.here hx rfl (hb hby d_cn_118) ?_
      refine XS.goto X4.here hx rfl (pc0 := 119) (pc' := 123) rfl (hb hby d_cn_119) (by decide) (by decide) ?_
      exact k
    · rw [show own_bi (decide ((own_iv (gc (y + i))) = (own_iv (gc (z + i))))) = 0 from by rw [decide_eq_false hq]; rfl] at k
      refine XS.icmpYes X4.here hx rfl (pc0 := 115) (pc' := 122) rfl (hb hby d_cn_115) rfl (feq hq).2 (by decide) (by decide) ?_
      refine XS.iconst X4.here hx rfl (hb hby d_cn_122) ?_
      exact k)
  have K7 : Rch p e below s₁ F0 T4 (mkF m 84 #[sR r, l1, l2, sI (Int32.ofNat z), sI (Int32.ofNat len), l5, l6, sI (Int32.ofNat y), sI (own_bi (decide ((own_iv (gc (y + i))) = (own_iv (gc (z + i)))))), sI (Int32.ofNat (i + 1))] []) := fun t k => K6 t (by
    refine XS.istore X4.here hx rfl (hb hby d_cn_123) rfl (l' := #[sR r, l1, l2, sI (Int32.ofNat z), sI (Int32.ofNat len), l5, l6, sI (Int32.ofNat y), sI (own_bi (decide ((own_iv (gc (y + i))) = (own_iv (gc (z + i)))))), sI (Int32.ofNat i)]) rfl ?_
    refine XS.iinc X4.here hx rfl (hb hby d_cn_125) rfl (l' := #[sR r, l1, l2, sI (Int32.ofNat z), sI (Int32.ofNat len), l5, l6, sI (Int32.ofNat y), sI (own_bi (decide ((own_iv (gc (y + i))) = (own_iv (gc (z + i)))))), sI ((Int32.ofNat i) + (1 : Int32))]) rfl ?_
    show Steps p.tables e below (T4.setTop (mkF m 128 #[sR r, l1, l2, sI (Int32.ofNat z), sI (Int32.ofNat len), l5, l6, sI (Int32.ofNat y), sI (own_bi (decide ((own_iv (gc (y + i))) = (own_iv (gc (z + i)))))), sI ((Int32.ofNat i) + (1 : Int32))] [])) _
    rw [show (Int32.ofNat i) + (1 : Int32) = (Int32.ofNat (i + 1)) from own_add i 1]
    show Steps p.tables e below (T4.setTop (mkF m 128 #[sR r, l1, l2, sI (Int32.ofNat z), sI (Int32.ofNat len), l5, l6, sI (Int32.ofNat y), sI (own_bi (decide ((own_iv (gc (y + i))) = (own_iv (gc (z + i)))))), sI (Int32.ofNat (i + 1))] [])) _
    refine XS.goto X4.here hx rfl (pc0 := 128) (pc' := 84) rfl (hb hby d_cn_128) (by decide) (by decide) ?_
    exact k)
  exact ⟨T4, X4, e4, K7⟩
theorem own_inner {p : Program} {l : Launch} {e : Env} {R : Room} {s : State} {m : MethodId} {args : Array Value} {below : List Frame} {meth : Method} {c : Code} {s₁ : State} {F0 : JFrame} {locs : List Loc} {cells slots : Nat} {Z : State} {a0 : Array Value} {n0 : Nat} {h0 : Heap} (r ks rgs ns fch fk kl frg fac fcm ftr acs cms sus prb : Addr) (shc rwc : Int32) (gc : Nat → Value) (y z len : Nat) (l1 l2 l5 l6 : Slot) (Rr : List (Addr × (Cell → Prop)))
    (hx : p.tables.exec = Jvm.exec) (hZ : Z.Warmed39 s.vm) (hw : ∀ d ∈ tables_1, d.before a0 Z = true) (hby : c.code = prog_87_method_34_code) (hml : c.maxLocals = 10) (hown : s.vm.findClass "com/example/sambre/sambre/engine/Rows" = some m.cls) (W0 : Wo n0 h0 ((r, oR Z [(kR ks), (kR rgs), (kR ns), (kR fch), (kR fk), (kR kl), (kR frg), (kR fac), (kR fcm), (kR ftr), (kR acs), (kR cms), (kR sus), (kR prb), (kI shc), .null, (kI rwc)]) :: (cms, Ar Z .int 16 gc) :: Rr)) (hy : y + len ≤ 16) (hz : z + len ≤ 16) :
    ∀ (k i : Nat) (b : Bool) (T0 : State), i + k = len → Stand p l e R s m args below meth c T0 locs cells slots → T0.heap = h0 → Rch p e below s₁ F0 T0 (mkF m 84 #[.val (.ref r), l1, l2, .val (.int (Int32.ofNat z)), .val (.int (Int32.ofNat len)), l5, l6, .val (.int (Int32.ofNat y)), .val (.int (own_bi b)), .val (.int (Int32.ofNat i))] []) →
      ∃ (T' : State) (i' : Int32), Stand p l e R s m args below meth c T' locs cells slots ∧ T'.heap = h0 ∧ Rch p e below s₁ F0 T' (mkF m 131 #[.val (.ref r), l1, l2, .val (.int (Int32.ofNat z)), .val (.int (Int32.ofNat len)), l5, l6, .val (.int (Int32.ofNat y)), .val (.int (own_bi (own_run (fun j => own_iv (gc j)) y z k i b))), .val (.int i')] []) := by
  intro k
  induction k with
  | zero =>
    intro i b T0 hi X0 e0 K0
    obtain ⟨T1, X1, e1, K1⟩ := tnO1 r ks rgs ns fch fk kl frg fac fcm ftr acs cms sus prb shc rwc gc y z len i l1 l2 l5 l6 (own_bi b) Rr X0 hx hZ hw hby hml hown e0 W0 K0 (by omega) (by omega)
    exact ⟨T1, _, X1, e1, K1⟩
  | succ k ih =>
    intro i b T0 hi X0 e0 K0
    cases b with
    | false =>
      obtain ⟨T1, X1, e1, K1⟩ := tnO2 r ks rgs ns fch fk kl frg fac fcm ftr acs cms sus prb shc rwc gc y z len i l1 l2 l5 l6 Rr X0 hx hZ hw hby hml hown e0 W0 K0 (by omega) (by omega)
      exact ⟨T1, _, X1, e1, K1⟩
    | true =>
      obtain ⟨T1, X1, e1, K1⟩ := tnI r ks rgs ns fch fk kl frg fac fcm ftr acs cms sus prb shc rwc gc y z len i l1 l2 l5 l6 Rr X0 hx hZ hw hby hml hown e0 W0 K0 (by omega) hy hz
      exact ih (i + 1) _ T1 (by omega) X1 e1 K1
def own_nm (gc : Nat → Value) (F : Nat → Nat) (c o : Nat) : Bool := own_run (fun j => own_iv (gc j)) (F c) (F o) (F (o + 1) - F o) 0 (decide (F (c + 1) - F c = F (o + 1) - F o))
theorem pd_cn : parseMethodDescriptor "(II)I" = some ⟨[.int, .int], some .int⟩ := by decide +kernel
theorem d_cn_0 : decode prog_87_method_34_code 0 = .ok (.aload_n 0, 1) := by decide +kernel
theorem d_cn_1 : decode prog_87_method_34_code 1 = .ok (.getfield 34, 3) := by decide +kernel
theorem d_cn_4 : decode prog_87_method_34_code 4 = .ok (.iload_n 2, 1) := by decide +kernel
theorem d_cn_5 : decode prog_87_method_34_code 5 = .ok (.iaload, 1) := by decide +kernel
theorem d_cn_6 : decode prog_87_method_34_code 6 = .ok (.istore_n 3, 1) := by decide +kernel
theorem d_cn_7 : decode prog_87_method_34_code 7 = .ok (.aload_n 0, 1) := by decide +kernel
theorem d_cn_8 : decode prog_87_method_34_code 8 = .ok (.getfield 34, 3) := by decide +kernel
theorem d_cn_11 : decode prog_87_method_34_code 11 = .ok (.iload_n 2, 1) := by decide +kernel
theorem d_cn_12 : decode prog_87_method_34_code 12 = .ok (.iconst 1, 1) := by decide +kernel
theorem d_cn_13 : decode prog_87_method_34_code 13 = .ok (.iadd, 1) := by decide +kernel
theorem d_cn_14 : decode prog_87_method_34_code 14 = .ok (.iaload, 1) := by decide +kernel
theorem d_cn_15 : decode prog_87_method_34_code 15 = .ok (.iload_n 3, 1) := by decide +kernel
theorem d_cn_16 : decode prog_87_method_34_code 16 = .ok (.isub, 1) := by decide +kernel
theorem d_cn_17 : decode prog_87_method_34_code 17 = .ok (.istore 4, 2) := by decide +kernel
theorem d_cn_19 : decode prog_87_method_34_code 19 = .ok (.iconst (-1), 1) := by decide +kernel
theorem d_cn_20 : decode prog_87_method_34_code 20 = .ok (.istore 5, 2) := by decide +kernel
theorem d_cn_22 : decode prog_87_method_34_code 22 = .ok (.aload_n 0, 1) := by decide +kernel
theorem d_cn_23 : decode prog_87_method_34_code 23 = .ok (.getfield 19, 3) := by decide +kernel
theorem d_cn_26 : decode prog_87_method_34_code 26 = .ok (.iload_n 1, 1) := by decide +kernel
theorem d_cn_27 : decode prog_87_method_34_code 27 = .ok (.iaload, 1) := by decide +kernel
theorem d_cn_28 : decode prog_87_method_34_code 28 = .ok (.istore 6, 2) := by decide +kernel
theorem d_cn_30 : decode prog_87_method_34_code 30 = .ok (.iload 6, 2) := by decide +kernel
theorem d_cn_32 : decode prog_87_method_34_code 32 = .ok (.aload_n 0, 1) := by decide +kernel
theorem d_cn_33 : decode prog_87_method_34_code 33 = .ok (.getfield 19, 3) := by decide +kernel
theorem d_cn_36 : decode prog_87_method_34_code 36 = .ok (.iload_n 1, 1) := by decide +kernel
theorem d_cn_37 : decode prog_87_method_34_code 37 = .ok (.iconst 1, 1) := by decide +kernel
theorem d_cn_38 : decode prog_87_method_34_code 38 = .ok (.iadd, 1) := by decide +kernel
theorem d_cn_39 : decode prog_87_method_34_code 39 = .ok (.iaload, 1) := by decide +kernel
theorem d_cn_40 : decode prog_87_method_34_code 40 = .ok (.if_icmp .ge 110, 3) := by decide +kernel
theorem d_cn_43 : decode prog_87_method_34_code 43 = .ok (.iload 5, 2) := by decide +kernel
theorem d_cn_45 : decode prog_87_method_34_code 45 = .ok (.ifCond .ge 105, 3) := by decide +kernel
theorem d_cn_48 : decode prog_87_method_34_code 48 = .ok (.aload_n 0, 1) := by decide +kernel
theorem d_cn_49 : decode prog_87_method_34_code 49 = .ok (.getfield 34, 3) := by decide +kernel
theorem d_cn_52 : decode prog_87_method_34_code 52 = .ok (.iload 6, 2) := by decide +kernel
theorem d_cn_54 : decode prog_87_method_34_code 54 = .ok (.iaload, 1) := by decide +kernel
theorem d_cn_55 : decode prog_87_method_34_code 55 = .ok (.istore 7, 2) := by decide +kernel
theorem d_cn_57 : decode prog_87_method_34_code 57 = .ok (.aload_n 0, 1) := by decide +kernel
theorem d_cn_58 : decode prog_87_method_34_code 58 = .ok (.getfield 34, 3) := by decide +kernel
theorem d_cn_61 : decode prog_87_method_34_code 61 = .ok (.iload 6, 2) := by decide +kernel
theorem d_cn_63 : decode prog_87_method_34_code 63 = .ok (.iconst 1, 1) := by decide +kernel
theorem d_cn_64 : decode prog_87_method_34_code 64 = .ok (.iadd, 1) := by decide +kernel
theorem d_cn_65 : decode prog_87_method_34_code 65 = .ok (.iaload, 1) := by decide +kernel
theorem d_cn_66 : decode prog_87_method_34_code 66 = .ok (.iload 7, 2) := by decide +kernel
theorem d_cn_68 : decode prog_87_method_34_code 68 = .ok (.isub, 1) := by decide +kernel
theorem d_cn_69 : decode prog_87_method_34_code 69 = .ok (.iload 4, 2) := by decide +kernel
theorem d_cn_71 : decode prog_87_method_34_code 71 = .ok (.if_icmp .ne 7, 3) := by decide +kernel
theorem d_cn_74 : decode prog_87_method_34_code 74 = .ok (.iconst 1, 1) := by decide +kernel
theorem d_cn_75 : decode prog_87_method_34_code 75 = .ok (.goto 4, 3) := by decide +kernel
theorem d_cn_78 : decode prog_87_method_34_code 78 = .ok (.iconst 0, 1) := by decide +kernel
theorem d_cn_79 : decode prog_87_method_34_code 79 = .ok (.istore 8, 2) := by decide +kernel
theorem d_cn_81 : decode prog_87_method_34_code 81 = .ok (.iconst 0, 1) := by decide +kernel
theorem d_cn_82 : decode prog_87_method_34_code 82 = .ok (.istore 9, 2) := by decide +kernel
theorem d_cn_131 : decode prog_87_method_34_code 131 = .ok (.iload 8, 2) := by decide +kernel
theorem d_cn_133 : decode prog_87_method_34_code 133 = .ok (.ifCond .eq 8, 3) := by decide +kernel
theorem d_cn_136 : decode prog_87_method_34_code 136 = .ok (.iload 6, 2) := by decide +kernel
theorem d_cn_138 : decode prog_87_method_34_code 138 = .ok (.goto 4, 3) := by decide +kernel
theorem d_cn_141 : decode prog_87_method_34_code 141 = .ok (.iconst (-1), 1) := by decide +kernel
theorem d_cn_142 : decode prog_87_method_34_code 142 = .ok (.istore 5, 2) := by decide +kernel
theorem d_cn_144 : decode prog_87_method_34_code 144 = .ok (.iinc 6 1, 3) := by decide +kernel
theorem d_cn_147 : decode prog_87_method_34_code 147 = .ok (.goto (-117), 3) := by decide +kernel
theorem d_cn_150 : decode prog_87_method_34_code 150 = .ok (.iload 5, 2) := by decide +kernel
theorem d_cn_152 : decode prog_87_method_34_code 152 = .ok (.ireturn, 1) := by decide +kernel
theorem ef_rmCN02 (m : MethodId) (r ks rgs ns fch fk kl frg fac fcm ftr acs cms sus prb : Addr) (shc rwc : Int32) (gh gf gc : Nat → Value) (F : Nat → Nat) : entryFrame m #[(.ref r), (.int (0 : Int32)), (.int (2 : Int32))] 10 = mkF m 0 #[.val (.ref r), .val (.int (0 : Int32)), .val (.int (2 : Int32)), .unset, .unset, .unset, .unset, .unset, .unset, .unset] [] := by first | (simp [entryFrame, mkF, argsToLocals, Value.category]; done) | rfl
def QrmCN02 (Z : State) (r ks rgs ns fch fk kl frg fac fcm ftr acs cms sus prb : Addr) (shc rwc : Int32) (gh gf gc : Nat → Value) (F : Nat → Nat) (Rr : List (Addr × (Cell → Prop))) (n0 : Nat) (v : Option Value) (h : Heap) (L : List Loc) : Prop := v = some (.int (if own_nm gc F 0 2 = true then (0 : Int32) else own_fd (own_nm gc F 1 2) (1 : Int32))) ∧ Fr n0 L ∧ Wo n0 h ((r, oR Z [(kR ks), (kR rgs), (kR ns), (kR fch), (kR fk), (kR kl), (kR frg), (kR fac), (kR fcm), (kR ftr), (kR acs), (kR cms), (kR sus), (kR prb), (kI shc), .null, (kI rwc)]) :: (cms, Ar Z .int 16 gc) :: (fch, Ar Z .int 17 gh) :: (fcm, Ar Z .int 17 gf) :: Rr)
set_option maxRecDepth 65536 in
set_option maxHeartbeats 40000000 in
theorem rmCN02 (l : Launch) (Z : State) (a0 : Array Value) (hw : ∀ d ∈ tables_1, d.before a0 Z = true) (ws : List Jvm.Cond) (r ks rgs ns fch fk kl frg fac fcm ftr acs cms sus prb : Addr) (shc rwc : Int32) (gh gf gc : Nat → Value) (F : Nat → Nat) (Rr : List (Addr × (Cell → Prop))) (h0 : Heap) (n0 : Nat) (W0 : Wo n0 h0 ((r, oR Z [(kR ks), (kR rgs), (kR ns), (kR fch), (kR fk), (kR kl), (kR frg), (kR fac), (kR fcm), (kR ftr), (kR acs), (kR cms), (kR sus), (kR prb), (kI shc), .null, (kI rwc)]) :: (fch, Ar Z .int 17 gh) :: (fcm, Ar Z .int 17 gf) :: (cms, Ar Z .int 16 gc) :: Rr)) (hh0 : gh 0 = .int 0) (hh1 : gh 1 = .int 2) (hF : ∀ k, k ≤ 3 → gf k = .int (Int32.ofNat (F k))) (hB : ∀ k, k ≤ 3 → F k ≤ 6) (hM : ∀ k, k < 3 → F k ≤ F (k + 1)) :
    MetFree l (⟨"com/example/sambre/sambre/engine/Rows", "choiceNamedAs", "(II)I"⟩ : MethodName) (head1 (Jvm.Cond.code (⟨"com/example/sambre/sambre/engine/Rows", "choiceNamedAs", "(II)I"⟩ : MethodName) prog_87_method_34_code 10 (some .int) :: ws) ({ frames := 0, cells := 0, slots := 0, locals := 0 } : Room)) (fun aa U => aa = #[(.ref r), (.int (0 : Int32)), (.int (2 : Int32))] ∧ Z.Warmed39 U.vm ∧ U.heap = h0) (fun _ _ _ _ _ => True) (fun _ U ou U' => ∃ v L, ou = .returned v ∧ QrmCN02 Z r ks rgs ns fch fk kl frg fac fcm ftr acs cms sus prb shc rwc gh gf gc F Rr n0 v U'.heap L ∧ FrameEnd U ou U' L ({ frames := 0, cells := 0, slots := 0, locals := 0 } : Room).cells ({ frames := 0, cells := 0, slots := 0, locals := 0 } : Room).slots) := by
  refine MetFree.of_bodySF (plainFor_of_name pn_Rows) hisR ?_
  intro p e s m args below meth c s₁ Bd hml0 hP hK
  obtain ⟨rfl, hZ, hh⟩ := hP
  have hx := Bd.exec
  have hby := Bd.bytes
  have hml : c.maxLocals = 10 := hml0
  have hown : s.vm.findClass "com/example/sambre/sambre/engine/Rows" = some m.cls := findClass_of_methodNamed Bd.named
  have hnm := (name_of_methodNamed Bd.named Bd.method).1
  have X0 : Stand p l e ({ frames := 0, cells := 0, slots := 0, locals := 0 } : Room) s m #[(.ref r), (.int (0 : Int32)), (.int (2 : Int32))] below meth c s₁ [] 0 0 := Stand.of_body Bd
  have e0 : s₁.heap = h0 := by rw [← hh, Bd.state]; rfl
  have N0 := Fr.nil n0
  obtain ⟨F0, hF0⟩ : ∃ F, F = mkF m 0 #[.val (.ref r), .val (.int (0 : Int32)), .val (.int (2 : Int32)), .unset, .unset, .unset, .unset, .unset, .unset, .unset] [] := ⟨_, rfl⟩
  have pre0 : ∀ t, Steps p.tables e below (s₁.setTop F0) t → Steps p.tables e below (s₁.setTop (entryFrame m #[(.ref r), (.int (0 : Int32)), (.int (2 : Int32))] 10)) t := fun t k => castTop ((ef_rmCN02 m r ks rgs ns fch fk kl frg fac fcm ftr acs cms sus prb shc rwc gh gf gc F).trans hF0.symm) k
  have K0 : Rch p e below s₁ F0 s₁ (mkF m 0 #[.val (.ref r), .val (.int (0 : Int32)), .val (.int (2 : Int32)), .unset, .unset, .unset, .unset, .unset, .unset, .unset] []) := fun t k => castTop hF0 k
  have hb0 := hB 0 (by decide)
  have hb1 := hB 1 (by decide)
  have hb2 := hB 2 (by decide)
  have hb3 := hB 3 (by decide)
  have hm0 := hM 0 (by decide)
  have hm1 := hM 1 (by decide)
  have hm2 := hM 2 (by decide)
  simp only [Nat.zero_add, Nat.reduceAdd] at hm0 hm1 hm2
  have K1 : Rch p e below s₁ F0 s₁ (mkF m 1 #[sR r, sI 0, sI 2, sU, sU, sU, sU, sU, sU, sU] [(kR r)]) := fun t k => K0 t (XS.aloadN X0.here hx rfl (hb hby d_cn_0) rfl rfl k)
  obtain ⟨T2, X2, e2, st2⟩ := getF X0 hx hZ hown (host := "") (Or.inl (hw _ (mi 33 rfl))) Via.refl e0 (W0.fld (i := 0) rfl (j := 8) rfl rfl) (g := K1.g) rfl rfl (hb hby d_cn_1)
  have K3 : Rch p e below s₁ F0 T2 (mkF m 8 #[sR r, sI 0, sI 2, sI (Int32.ofNat (F 2)), sU, sU, sU, sU, sU, sU] [(kR r)]) := fun t k => K1 t (st2 t (by
    refine XS.iloadN X2.here hx rfl (hb hby d_cn_4) rfl ?_
    refine ialW X2 hx hZ e2 W0 (i := 2) rfl (j := (2 : Int32)) (k := 2) (by decide) (by decide) (by decide) (v := (.int (Int32.ofNat (F 2)))) (hF 2 (by decide)) (g := (mkF m 5 #[sR r, sI 0, sI 2, sU, sU, sU, sU, sU, sU, sU] [(kI 2), (kR fcm)])) rfl rfl (hb hby d_cn_5) _ ?_
    refine XS.istoreN X2.here hx rfl (hb hby d_cn_6) rfl (l' := #[sR r, sI 0, sI 2, sI (Int32.ofNat (F 2)), sU, sU, sU, sU, sU, sU]) rfl ?_
    refine XS.aloadN X2.here hx rfl (hb hby d_cn_7) rfl rfl ?_
    exact k))
  obtain ⟨T4, X4, e4, st4⟩ := getF X2 hx hZ hown (host := "") (Or.inl (hw _ (mi 33 rfl))) Via.refl e2 (W0.fld (i := 0) rfl (j := 8) rfl rfl) (g := K3.g) rfl rfl (hb hby d_cn_8)
  have K5 : Rch p e below s₁ F0 T4 (mkF m 23 #[sR r, sI 0, sI 2, sI (Int32.ofNat (F 2)), sI (Int32.ofNat ((F 3) - (F 2))), sI (-1), sU, sU, sU, sU] [(kR r)]) := fun t k => K3 t (st4 t (by
    refine XS.iloadN X4.here hx rfl (hb hby d_cn_11) rfl ?_
    refine XS.iconst X4.here hx rfl (hb hby d_cn_12) ?_
    refine XS.iadd X4.here hx rfl (hb hby d_cn_13) rfl ?_
    refine ialW X4 hx hZ e4 W0 (i := 2) rfl (j := (3 : Int32)) (k := 3) (by decide) (by decide) (by decide) (v := (.int (Int32.ofNat (F 3)))) (hF 3 (by decide)) (g := (mkF m 14 #[sR r, sI 0, sI 2, sI (Int32.ofNat (F 2)), sU, sU, sU, sU, sU, sU] [(kI 3), (kR fcm)])) rfl rfl (hb hby d_cn_14) _ ?_
    refine XS.iloadN X4.here hx rfl (hb hby d_cn_15) rfl ?_
    refine XS.isub X4.here hx rfl (hb hby d_cn_16) rfl ?_
    show Steps p.tables e below (T4.setTop (mkF m 17 #[sR r, sI 0, sI 2, sI (Int32.ofNat (F 2)), sU, sU, sU, sU, sU, sU] [(kI ((Int32.ofNat (F 3)) - (Int32.ofNat (F 2))))])) _
    rw [own_sub (hM 2 (by decide)) (Nat.lt_of_le_of_lt (hB 3 (by decide)) (by decide))]
    show Steps p.tables e below (T4.setTop (mkF m 17 #[sR r, sI 0, sI 2, sI (Int32.ofNat (F 2)), sU, sU, sU, sU, sU, sU] [(kI (Int32.ofNat ((F 3) - (F 2))))])) _
    refine XS.istore X4.here hx rfl (hb hby d_cn_17) rfl (l' := #[sR r, sI 0, sI 2, sI (Int32.ofNat (F 2)), sI (Int32.ofNat ((F 3) - (F 2))), sU, sU, sU, sU, sU]) rfl ?_
    refine XS.iconst X4.here hx rfl (hb hby d_cn_19) ?_
    refine XS.istore X4.here hx rfl (hb hby d_cn_20) rfl (l' := #[sR r, sI 0, sI 2, sI (Int32.ofNat (F 2)), sI (Int32.ofNat ((F 3) - (F 2))), sI (-1), sU, sU, sU, sU]) rfl ?_
    refine XS.aloadN X4.here hx rfl (hb hby d_cn_22) rfl rfl ?_
    exact k))
  obtain ⟨T6, X6, e6, st6⟩ := getF X4 hx hZ hown (host := "") (Or.inl (hw _ (mi 23 rfl))) Via.refl e4 (W0.fld (i := 0) rfl (j := 3) rfl rfl) (g := K5.g) rfl rfl (hb hby d_cn_23)
  have K7 : Rch p e below s₁ F0 T6 (mkF m 30 #[sR r, sI 0, sI 2, sI (Int32.ofNat (F 2)), sI (Int32.ofNat ((F 3) - (F 2))), sI (-1), sI 0, sU, sU, sU] []) := fun t k => K5 t (st6 t (by
    refine XS.iloadN X6.here hx rfl (hb hby d_cn_26) rfl ?_
    refine ialW X6 hx hZ e6 W0 (i := 1) rfl (j := (0 : Int32)) (k := 0) (by decide) (by decide) (by decide) (v := (.int (0 : Int32))) hh0 (g := (mkF m 27 #[sR r, sI 0, sI 2, sI (Int32.ofNat (F 2)), sI (Int32.ofNat ((F 3) - (F 2))), sI (-1), sU, sU, sU, sU] [(kI 0), (kR fch)])) rfl rfl (hb hby d_cn_27) _ ?_
    refine XS.istore X6.here hx rfl (hb hby d_cn_28) rfl (l' := #[sR r, sI 0, sI 2, sI (Int32.ofNat (F 2)), sI (Int32.ofNat ((F 3) - (F 2))), sI (-1), sI 0, sU, sU, sU]) rfl ?_
    exact k))
  have K8 : Rch p e below s₁ F0 T6 (mkF m 33 #[sR r, sI 0, sI 2, sI (Int32.ofNat (F 2)), sI (Int32.ofNat ((F 3) - (F 2))), sI (-1), sI 0, sU, sU, sU] [(kR r), (kI 0)]) := fun t k => K7 t (by
    refine XS.iload X6.here hx rfl (hb hby d_cn_30) rfl ?_
    refine XS.aloadN X6.here hx rfl (hb hby d_cn_32) rfl rfl ?_
    exact k)
  obtain ⟨T9, X9, e9, st9⟩ := getF X6 hx hZ hown (host := "") (Or.inl (hw _ (mi 23 rfl))) Via.refl e6 (W0.fld (i := 0) rfl (j := 3) rfl rfl) (g := K8.g) rfl rfl (hb hby d_cn_33)
  have K10 : Rch p e below s₁ F0 T9 (mkF m 49 #[sR r, sI 0, sI 2, sI (Int32.ofNat (F 2)), sI (Int32.ofNat ((F 3) - (F 2))), sI (-1), sI 0, sU, sU, sU] [(kR r)]) := fun t k => K8 t (st9 t (by
    refine XS.iloadN X9.here hx rfl (hb hby d_cn_36) rfl ?_
    refine XS.iconst X9.here hx rfl (hb hby d_cn_37) ?_
    refine XS.iadd X9.here hx rfl (hb hby d_cn_38) rfl ?_
    refine ialW X9 hx hZ e9 W0 (i := 1) rfl (j := (1 : Int32)) (k := 1) (by decide) (by decide) (by decide) (v := (.int (2 : Int32))) hh1 (g := (mkF m 39 #[sR r, sI 0, sI 2, sI (Int32.ofNat (F 2)), sI (Int32.ofNat ((F 3) - (F 2))), sI (-1), sI 0, sU, sU, sU] [(kI 1), (kR fch), (kI 0)])) rfl rfl (hb hby d_cn_39) _ ?_
    refine XS.icmpNo X9.here hx rfl (hb hby d_cn_40) rfl (by decide) ?_
    refine XS.iload X9.here hx rfl (hb hby d_cn_43) rfl ?_
    show Steps p.tables e below (T9.setTop (mkF m 45 #[sR r, sI 0, sI 2, sI (Int32.ofNat (F 2)), sI (Int32.ofNat ((F 3) - (F 2))), sI (-1), sI 0, sU, sU, sU] [(kI (-1))])) _
    refine XS.ifNo X9.here hx rfl (hb hby d_cn_45) rfl (by decide) ?_
    refine XS.aloadN X9.here hx rfl (hb hby d_cn_48) rfl rfl ?_
    exact k))
  obtain ⟨T11, X11, e11, st11⟩ := getF X9 hx hZ hown (host := "") (Or.inl (hw _ (mi 33 rfl))) Via.refl e9 (W0.fld (i := 0) rfl (j := 8) rfl rfl) (g := K10.g) rfl rfl (hb hby d_cn_49)
  have K12 : Rch p e below s₁ F0 T11 (mkF m 58 #[sR r, sI 0, sI 2, sI (Int32.ofNat (F 2)), sI (Int32.ofNat ((F 3) - (F 2))), sI (-1), sI 0, sI (Int32.ofNat (F 0)), sU, sU] [(kR r)]) := fun t k => K10 t (st11 t (by
    refine XS.iload X11.here hx rfl (hb hby d_cn_52) rfl ?_
    refine ialW X11 hx hZ e11 W0 (i := 2) rfl (j := (0 : Int32)) (k := 0) (by decide) (by decide) (by decide) (v := (.int (Int32.ofNat (F 0)))) (hF 0 (by decide)) (g := (mkF m 54 #[sR r, sI 0, sI 2, sI (Int32.ofNat (F 2)), sI (Int32.ofNat ((F 3) - (F 2))), sI (-1), sI 0, sU, sU, sU] [(kI 0), (kR fcm)])) rfl rfl (hb hby d_cn_54) _ ?_
    refine XS.istore X11.here hx rfl (hb hby d_cn_55) rfl (l' := #[sR r, sI 0, sI 2, sI (Int32.ofNat (F 2)), sI (Int32.ofNat ((F 3) - (F 2))), sI (-1), sI 0, sI (Int32.ofNat (F 0)), sU, sU]) rfl ?_
    refine XS.aloadN X11.here hx rfl (hb hby d_cn_57) rfl rfl ?_
    exact k))
  obtain ⟨T13, X13, e13, st13⟩ := getF X11 hx hZ hown (host := "") (Or.inl (hw _ (mi 33 rfl))) Via.refl e11 (W0.fld (i := 0) rfl (j := 8) rfl rfl) (g := K12.g) rfl rfl (hb hby d_cn_58)
  have K14 : Rch p e below s₁ F0 T13 (mkF m 71 #[sR r, sI 0, sI 2, sI (Int32.ofNat (F 2)), sI (Int32.ofNat ((F 3) - (F 2))), sI (-1), sI 0, sI (Int32.ofNat (F 0)), sU, sU] [(kI (Int32.ofNat ((F 3) - (F 2)))), (kI (Int32.ofNat ((F 1) - (F 0))))]) := fun t k => K12 t (st13 t (by
    refine XS.iload X13.here hx rfl (hb hby d_cn_61) rfl ?_
    refine XS.iconst X13.here hx rfl (hb hby d_cn_63) ?_
    refine XS.iadd X13.here hx rfl (hb hby d_cn_64) rfl ?_
    refine ialW X13 hx hZ e13 W0 (i := 2) rfl (j := (1 : Int32)) (k := 1) (by decide) (by decide) (by decide) (v := (.int (Int32.ofNat (F 1)))) (hF 1 (by decide)) (g := (mkF m 65 #[sR r, sI 0, sI 2, sI (Int32.ofNat (F 2)), sI (Int32.ofNat ((F 3) - (F 2))), sI (-1), sI 0, sI (Int32.ofNat (F 0)), sU, sU] [(kI 1), (kR fcm)])) rfl rfl (hb hby d_cn_65) _ ?_
    refine XS.iload X13.here hx rfl (hb hby d_cn_66) rfl ?_
    refine XS.isub X13.here hx rfl (hb hby d_cn_68) rfl ?_
    show Steps p.tables e below (T13.setTop (mkF m 69 #[sR r, sI 0, sI 2, sI (Int32.ofNat (F 2)), sI (Int32.ofNat ((F 3) - (F 2))), sI (-1), sI 0, sI (Int32.ofNat (F 0)), sU, sU] [(kI ((Int32.ofNat (F 1)) - (Int32.ofNat (F 0))))])) _
    rw [own_sub (hM 0 (by decide)) (Nat.lt_of_le_of_lt (hB 1 (by decide)) (by decide))]
    show Steps p.tables e below (T13.setTop (mkF m 69 #[sR r, sI 0, sI 2, sI (Int32.ofNat (F 2)), sI (Int32.ofNat ((F 3) - (F 2))), sI (-1), sI 0, sI (Int32.ofNat (F 0)), sU, sU] [(kI (Int32.ofNat ((F 1) - (F 0))))])) _
    refine XS.iload X13.here hx rfl (hb hby d_cn_69) rfl ?_
    exact k))
  have K15 : Rch p e below s₁ F0 T13 (mkF m 79 #[sR r, sI 0, sI 2, sI (Int32.ofNat (F 2)), sI (Int32.ofNat ((F 3) - (F 2))), sI (-1), sI 0, sI (Int32.ofNat (F 0)), sU, sU] [(kI (own_bi (decide (F 1 - F 0 = F 3 - F 2))))]) := fun t k => K14 t (by
    by_cases hq : F 1 - F 0 = F 3 - F 2
    · rw [show own_bi (decide (F 1 - F 0 = F 3 - F 2)) = 1 from by rw [decide_eq_true hq]; rfl] at k
      refine XS.icmpNo X13.here hx rfl (hb hby d_cn_71) rfl (teq (congrArg Int32.ofNat hq)).2 ?_
      refine XS.iconst X13.here hx rfl (hb hby d_cn_74) ?_
      refine XS.goto X13.here hx rfl (pc0 := 75) (pc' := 79) rfl (hb hby d_cn_75) (by decide) (by decide) ?_
      exact k
    · rw [show own_bi (decide (F 1 - F 0 = F 3 - F 2)) = 0 from by rw [decide_eq_false hq]; rfl] at k
      refine XS.icmpYes X13.here hx rfl (pc0 := 71) (pc' := 78) rfl (hb hby d_cn_71) rfl (feq (own_ne hq (by omega) (by omega))).2 (by decide) (by decide) ?_
      refine XS.iconst X13.here hx rfl (hb hby d_cn_78) ?_
      exact k)
  have K16 : Rch p e below s₁ F0 T13 (mkF m 84 #[sR r, sI 0, sI 2, sI (Int32.ofNat (F 2)), sI (Int32.ofNat ((F 3) - (F 2))), sI (-1), sI 0, sI (Int32.ofNat (F 0)), sI (own_bi (decide (F 1 - F 0 = F 3 - F 2))), sI 0] []) := fun t k => K15 t (by
    refine XS.istore X13.here hx rfl (hb hby d_cn_79) rfl (l' := #[sR r, sI 0, sI 2, sI (Int32.ofNat (F 2)), sI (Int32.ofNat ((F 3) - (F 2))), sI (-1), sI 0, sI (Int32.ofNat (F 0)), sI (own_bi (decide (F 1 - F 0 = F 3 - F 2))), sU]) rfl ?_
    refine XS.iconst X13.here hx rfl (hb hby d_cn_81) ?_
    refine XS.istore X13.here hx rfl (hb hby d_cn_82) rfl (l' := #[sR r, sI 0, sI 2, sI (Int32.ofNat (F 2)), sI (Int32.ofNat ((F 3) - (F 2))), sI (-1), sI 0, sI (Int32.ofNat (F 0)), sI (own_bi (decide (F 1 - F 0 = F 3 - F 2))), sI 0]) rfl ?_
    exact k)
  have W17 : Wo n0 h0 ((r, oR Z [(kR ks), (kR rgs), (kR ns), (kR fch), (kR fk), (kR kl), (kR frg), (kR fac), (kR fcm), (kR ftr), (kR acs), (kR cms), (kR sus), (kR prb), (kI shc), .null, (kI rwc)]) :: (cms, Ar Z .int 16 gc) :: (fch, Ar Z .int 17 gh) :: (fcm, Ar Z .int 17 gf) :: Rr) := Wo.pick W0 [0, 3, 1, 2] 4 (by decide +kernel) rfl
  obtain ⟨T18, i18, X18, e18, K18⟩ := own_inner r ks rgs ns fch fk kl frg fac fcm ftr acs cms sus prb shc rwc gc (F 0) (F 2) (F 3 - F 2) (.val (.int (0 : Int32))) (.val (.int (2 : Int32))) (.val (.int (-1 : Int32))) (.val (.int (0 : Int32))) ((fch, Ar Z .int 17 gh) :: (fcm, Ar Z .int 17 gf) :: Rr) hx hZ hw hby hml hown W17 (by omega) (by omega) (F 3 - F 2) 0 (decide (F 1 - F 0 = F 3 - F 2)) T13 (by omega) X13 e13 K16
  have K19 : Rch p e below s₁ F0 T18 (mkF m 133 #[sR r, sI 0, sI 2, sI (Int32.ofNat (F 2)), sI (Int32.ofNat ((F 3) - (F 2))), sI (-1), sI 0, sI (Int32.ofNat (F 0)), sI (own_bi (own_nm gc F 0 2)), sI i18] [(kI (own_bi (own_nm gc F 0 2)))]) := fun t k => K18 t (XS.iload X18.here hx rfl (hb hby d_cn_131) rfl k)
  have K20 : Rch p e below s₁ F0 T18 (mkF m 142 #[sR r, sI 0, sI 2, sI (Int32.ofNat (F 2)), sI (Int32.ofNat ((F 3) - (F 2))), sI (-1), sI 0, sI (Int32.ofNat (F 0)), sI (own_bi (own_nm gc F 0 2)), sI i18] [(kI (own_fd (own_nm gc F 0 2) (0 : Int32)))]) := fun t k => K19 t (by
    by_cases hq : (own_nm gc F 0 2) = true
    · rw [show own_fd (own_nm gc F 0 2) (0 : Int32) = (0 : Int32) from by rw [hq]; rfl] at k
      refine XS.ifNo X18.here hx rfl (hb hby d_cn_133) rfl ((if0 _ _).trans (feq (show ¬ (own_bi (own_nm gc F 0 2) = 0) from by rw [hq]; decide)).1) ?_
      refine XS.iload X18.here hx rfl (hb hby d_cn_136) rfl ?_
      refine XS.goto X18.here hx rfl (pc0 := 138) (pc' := 142) rfl (hb hby d_cn_138) (by decide) (by decide) ?_
      exact k
    · rw [show own_fd (own_nm gc F 0 2) (0 : Int32) = (-1 : Int32) from by rw [Bool.eq_false_iff.mpr hq]; rfl] at k
      refine XS.ifYes X18.here hx rfl (pc0 := 133) (pc' := 141) rfl (hb hby d_cn_133) rfl ((if0 _ _).trans (teq (show own_bi (own_nm gc F 0 2) = 0 from by rw [Bool.eq_false_iff.mpr hq]; rfl)).1) (by decide) (by decide) ?_
      refine XS.iconst X18.here hx rfl (hb hby d_cn_141) ?_
      exact k)
  have K21 : Rch p e below s₁ F0 T18 (mkF m 30 #[sR r, sI 0, sI 2, sI (Int32.ofNat (F 2)), sI (Int32.ofNat ((F 3) - (F 2))), sI (own_fd (own_nm gc F 0 2) (0 : Int32)), sI 1, sI (Int32.ofNat (F 0)), sI (own_bi (own_nm gc F 0 2)), sI i18] []) := fun t k => K20 t (by
    refine XS.istore X18.here hx rfl (hb hby d_cn_142) rfl (l' := #[sR r, sI 0, sI 2, sI (Int32.ofNat (F 2)), sI (Int32.ofNat ((F 3) - (F 2))), sI (own_fd (own_nm gc F 0 2) (0 : Int32)), sI 0, sI (Int32.ofNat (F 0)), sI (own_bi (own_nm gc F 0 2)), sI i18]) rfl ?_
    refine XS.iinc X18.here hx rfl (hb hby d_cn_144) rfl (l' := #[sR r, sI 0, sI 2, sI (Int32.ofNat (F 2)), sI (Int32.ofNat ((F 3) - (F 2))), sI (own_fd (own_nm gc F 0 2) (0 : Int32)), sI 1, sI (Int32.ofNat (F 0)), sI (own_bi (own_nm gc F 0 2)), sI i18]) rfl ?_
    refine XS.goto X18.here hx rfl (pc0 := 147) (pc' := 30) rfl (hb hby d_cn_147) (by decide) (by decide) ?_
    exact k)
  by_cases hbb : (own_nm gc F 0 2) = true
  · have hv : own_fd (own_nm gc F 0 2) (0 : Int32) = (0 : Int32) := by rw [hbb]; rfl
    have K22 : Rch p e below s₁ F0 T18 (mkF m 33 #[sR r, sI 0, sI 2, sI (Int32.ofNat (F 2)), sI (Int32.ofNat ((F 3) - (F 2))), sI (own_fd (own_nm gc F 0 2) (0 : Int32)), sI 1, sI (Int32.ofNat (F 0)), sI (own_bi (own_nm gc F 0 2)), sI i18] [(kR r), (kI 1)]) := fun t k => K21 t (by
      refine XS.iload X18.here hx rfl (hb hby d_cn_30) rfl ?_
      refine XS.aloadN X18.here hx rfl (hb hby d_cn_32) rfl rfl ?_
      exact k)
    obtain ⟨T23, X23, e23, st23⟩ := getF X18 hx hZ hown (host := "") (Or.inl (hw _ (mi 23 rfl))) Via.refl e18 (W17.fld (i := 0) rfl (j := 3) rfl rfl) (g := K22.g) rfl rfl (hb hby d_cn_33)
    have K24 : Rch p e below s₁ F0 T23 (mkF m 152 #[sR r, sI 0, sI 2, sI (Int32.ofNat (F 2)), sI (Int32.ofNat ((F 3) - (F 2))), sI (own_fd (own_nm gc F 0 2) (0 : Int32)), sI 1, sI (Int32.ofNat (F 0)), sI (own_bi (own_nm gc F 0 2)), sI i18] [(kI (own_fd (own_nm gc F 0 2) (0 : Int32)))]) := fun t k => K22 t (st23 t (by
      refine XS.iloadN X23.here hx rfl (hb hby d_cn_36) rfl ?_
      refine XS.iconst X23.here hx rfl (hb hby d_cn_37) ?_
      refine XS.iadd X23.here hx rfl (hb hby d_cn_38) rfl ?_
      refine ialW X23 hx hZ e23 W17 (i := 2) rfl (j := (1 : Int32)) (k := 1) (by decide) (by decide) (by decide) (v := (.int (2 : Int32))) hh1 (g := (mkF m 39 #[sR r, sI 0, sI 2, sI (Int32.ofNat (F 2)), sI (Int32.ofNat ((F 3) - (F 2))), sI (own_fd (own_nm gc F 0 2) (0 : Int32)), sI 1, sI (Int32.ofNat (F 0)), sI (own_bi (own_nm gc F 0 2)), sI i18] [(kI 1), (kR fch), (kI 1)])) rfl rfl (hb hby d_cn_39) _ ?_
      refine XS.icmpNo X23.here hx rfl (hb hby d_cn_40) rfl (by decide) ?_
      refine XS.iload X23.here hx rfl (hb hby d_cn_43) rfl ?_
      show Steps p.tables e below (T23.setTop (mkF m 45 #[sR r, sI 0, sI 2, sI (Int32.ofNat (F 2)), sI (Int32.ofNat ((F 3) - (F 2))), sI (own_fd (own_nm gc F 0 2) (0 : Int32)), sI 1, sI (Int32.ofNat (F 0)), sI (own_bi (own_nm gc F 0 2)), sI i18] [(kI (own_fd (own_nm gc F 0 2) (0 : Int32)))])) _
      refine XS.ifYes X23.here hx rfl (pc0 := 45) (pc' := 150) rfl (hb hby d_cn_45) rfl ((if0 _ _).trans (flt (show ¬ (own_fd (own_nm gc F 0 2) (0 : Int32) < 0) from by rw [hv]; decide)).2.1) (by decide) (by decide) ?_
      refine XS.iload X23.here hx rfl (hb hby d_cn_150) rfl ?_
      exact k))
    obtain ⟨fs, hr, hrun, hended, hWm, hsame⟩ := X23.leave (v := some (.int (own_fd (own_nm gc F 0 2) (0 : Int32)))) (fun h => by rw [Bd.returns] at h; cases h)
    refine ⟨_, _, pre0 _ (K24 _ (retI X23 hx Bd.returns (hb hby d_cn_152) hr)), hrun, hended, _, _, rfl, ?_, ⟨_, rfl⟩, hWm, hsame.mono (by decide) (by decide)⟩
    show QrmCN02 Z r ks rgs ns fch fk kl frg fac fcm ftr acs cms sus prb shc rwc gh gf gc F Rr n0 _ T23.heap _
    rw [e23]
    exact ⟨by rw [if_pos hbb, hv], N0, W17⟩
  · have hv : own_fd (own_nm gc F 0 2) (0 : Int32) = (-1 : Int32) := by rw [Bool.eq_false_iff.mpr hbb]; rfl
    rw [hv] at K21
    have K25 : Rch p e below s₁ F0 T18 (mkF m 33 #[sR r, sI 0, sI 2, sI (Int32.ofNat (F 2)), sI (Int32.ofNat ((F 3) - (F 2))), sI (-1), sI 1, sI (Int32.ofNat (F 0)), sI (own_bi (own_nm gc F 0 2)), sI i18] [(kR r), (kI 1)]) := fun t k => K21 t (by
      refine XS.iload X18.here hx rfl (hb hby d_cn_30) rfl ?_
      refine XS.aloadN X18.here hx rfl (hb hby d_cn_32) rfl rfl ?_
      exact k)
    obtain ⟨T26, X26, e26, st26⟩ := getF X18 hx hZ hown (host := "") (Or.inl (hw _ (mi 23 rfl))) Via.refl e18 (W17.fld (i := 0) rfl (j := 3) rfl rfl) (g := K25.g) rfl rfl (hb hby d_cn_33)
    have K27 : Rch p e below s₁ F0 T26 (mkF m 49 #[sR r, sI 0, sI 2, sI (Int32.ofNat (F 2)), sI (Int32.ofNat ((F 3) - (F 2))), sI (-1), sI 1, sI (Int32.ofNat (F 0)), sI (own_bi (own_nm gc F 0 2)), sI i18] [(kR r)]) := fun t k => K25 t (st26 t (by
      refine XS.iloadN X26.here hx rfl (hb hby d_cn_36) rfl ?_
      refine XS.iconst X26.here hx rfl (hb hby d_cn_37) ?_
      refine XS.iadd X26.here hx rfl (hb hby d_cn_38) rfl ?_
      refine ialW X26 hx hZ e26 W17 (i := 2) rfl (j := (1 : Int32)) (k := 1) (by decide) (by decide) (by decide) (v := (.int (2 : Int32))) hh1 (g := (mkF m 39 #[sR r, sI 0, sI 2, sI (Int32.ofNat (F 2)), sI (Int32.ofNat ((F 3) - (F 2))), sI (-1), sI 1, sI (Int32.ofNat (F 0)), sI (own_bi (own_nm gc F 0 2)), sI i18] [(kI 1), (kR fch), (kI 1)])) rfl rfl (hb hby d_cn_39) _ ?_
      refine XS.icmpNo X26.here hx rfl (hb hby d_cn_40) rfl (by decide) ?_
      refine XS.iload X26.here hx rfl (hb hby d_cn_43) rfl ?_
      show Steps p.tables e below (T26.setTop (mkF m 45 #[sR r, sI 0, sI 2, sI (Int32.ofNat (F 2)), sI (Int32.ofNat ((F 3) - (F 2))), sI (-1), sI 1, sI (Int32.ofNat (F 0)), sI (own_bi (own_nm gc F 0 2)), sI i18] [(kI (-1))])) _
      refine XS.ifNo X26.here hx rfl (hb hby d_cn_45) rfl (by decide) ?_
      refine XS.aloadN X26.here hx rfl (hb hby d_cn_48) rfl rfl ?_
      exact k))
    obtain ⟨T28, X28, e28, st28⟩ := getF X26 hx hZ hown (host := "") (Or.inl (hw _ (mi 33 rfl))) Via.refl e26 (W17.fld (i := 0) rfl (j := 8) rfl rfl) (g := K27.g) rfl rfl (hb hby d_cn_49)
    have K29 : Rch p e below s₁ F0 T28 (mkF m 58 #[sR r, sI 0, sI 2, sI (Int32.ofNat (F 2)), sI (Int32.ofNat ((F 3) - (F 2))), sI (-1), sI 1, sI (Int32.ofNat (F 1)), sI (own_bi (own_nm gc F 0 2)), sI i18] [(kR r)]) := fun t k => K27 t (st28 t (by
      refine XS.iload X28.here hx rfl (hb hby d_cn_52) rfl ?_
      refine ialW X28 hx hZ e28 W17 (i := 3) rfl (j := (1 : Int32)) (k := 1) (by decide) (by decide) (by decide) (v := (.int (Int32.ofNat (F 1)))) (hF 1 (by decide)) (g := (mkF m 54 #[sR r, sI 0, sI 2, sI (Int32.ofNat (F 2)), sI (Int32.ofNat ((F 3) - (F 2))), sI (-1), sI 1, sI (Int32.ofNat (F 0)), sI (own_bi (own_nm gc F 0 2)), sI i18] [(kI 1), (kR fcm)])) rfl rfl (hb hby d_cn_54) _ ?_
      refine XS.istore X28.here hx rfl (hb hby d_cn_55) rfl (l' := #[sR r, sI 0, sI 2, sI (Int32.ofNat (F 2)), sI (Int32.ofNat ((F 3) - (F 2))), sI (-1), sI 1, sI (Int32.ofNat (F 1)), sI (own_bi (own_nm gc F 0 2)), sI i18]) rfl ?_
      refine XS.aloadN X28.here hx rfl (hb hby d_cn_57) rfl rfl ?_
      exact k))
    obtain ⟨T30, X30, e30, st30⟩ := getF X28 hx hZ hown (host := "") (Or.inl (hw _ (mi 33 rfl))) Via.refl e28 (W17.fld (i := 0) rfl (j := 8) rfl rfl) (g := K29.g) rfl rfl (hb hby d_cn_58)
    have K31 : Rch p e below s₁ F0 T30 (mkF m 71 #[sR r, sI 0, sI 2, sI (Int32.ofNat (F 2)), sI (Int32.ofNat ((F 3) - (F 2))), sI (-1), sI 1, sI (Int32.ofNat (F 1)), sI (own_bi (own_nm gc F 0 2)), sI i18] [(kI (Int32.ofNat ((F 3) - (F 2)))), (kI (Int32.ofNat ((F 2) - (F 1))))]) := fun t k => K29 t (st30 t (by
      refine XS.iload X30.here hx rfl (hb hby d_cn_61) rfl ?_
      refine XS.iconst X30.here hx rfl (hb hby d_cn_63) ?_
      refine XS.iadd X30.here hx rfl (hb hby d_cn_64) rfl ?_
      refine ialW X30 hx hZ e30 W17 (i := 3) rfl (j := (2 : Int32)) (k := 2) (by decide) (by decide) (by decide) (v := (.int (Int32.ofNat (F 2)))) (hF 2 (by decide)) (g := (mkF m 65 #[sR r, sI 0, sI 2, sI (Int32.ofNat (F 2)), sI (Int32.ofNat ((F 3) - (F 2))), sI (-1), sI 1, sI (Int32.ofNat (F 1)), sI (own_bi (own_nm gc F 0 2)), sI i18] [(kI 2), (kR fcm)])) rfl rfl (hb hby d_cn_65) _ ?_
      refine XS.iload X30.here hx rfl (hb hby d_cn_66) rfl ?_
      refine XS.isub X30.here hx rfl (hb hby d_cn_68) rfl ?_
      show Steps p.tables e below (T30.setTop (mkF m 69 #[sR r, sI 0, sI 2, sI (Int32.ofNat (F 2)), sI (Int32.ofNat ((F 3) - (F 2))), sI (-1), sI 1, sI (Int32.ofNat (F 1)), sI (own_bi (own_nm gc F 0 2)), sI i18] [(kI ((Int32.ofNat (F 2)) - (Int32.ofNat (F 1))))])) _
      rw [own_sub (hM 1 (by decide)) (Nat.lt_of_le_of_lt (hB 2 (by decide)) (by decide))]
      show Steps p.tables e below (T30.setTop (mkF m 69 #[sR r, sI 0, sI 2, sI (Int32.ofNat (F 2)), sI (Int32.ofNat ((F 3) - (F 2))), sI (-1), sI 1, sI (Int32.ofNat (F 1)), sI (own_bi (own_nm gc F 0 2)), sI i18] [(kI (Int32.ofNat ((F 2) - (F 1))))])) _
      refine XS.iload X30.here hx rfl (hb hby d_cn_69) rfl ?_
      exact k))
    have K32 : Rch p e below s₁ F0 T30 (mkF m 79 #[sR r, sI 0, sI 2, sI (Int32.ofNat (F 2)), sI (Int32.ofNat ((F 3) - (F 2))), sI (-1), sI 1, sI (Int32.ofNat (F 1)), sI (own_bi (own_nm gc F 0 2)), sI i18] [(kI (own_bi (decide (F 2 - F 1 = F 3 - F 2))))]) := fun t k => K31 t (by
      by_cases hq : F 2 - F 1 = F 3 - F 2
      · rw [show own_bi (decide (F 2 - F 1 = F 3 - F 2)) = 1 from by rw [decide_eq_true hq]; rfl] at k
        refine XS.icmpNo X30.here hx rfl (hb hby d_cn_71) rfl (teq (congrArg Int32.ofNat hq)).2 ?_
        refine XS.iconst X30.here hx rfl (hb hby d_cn_74) ?_
        refine XS.goto X30.here hx rfl (pc0 := 75) (pc' := 79) rfl (hb hby d_cn_75) (by decide) (by decide) ?_
        exact k
      · rw [show own_bi (decide (F 2 - F 1 = F 3 - F 2)) = 0 from by rw [decide_eq_false hq]; rfl] at k
        refine XS.icmpYes X30.here hx rfl (pc0 := 71) (pc' := 78) rfl (hb hby d_cn_71) rfl (feq (own_ne hq (by omega) (by omega))).2 (by decide) (by decide) ?_
        refine XS.iconst X30.here hx rfl (hb hby d_cn_78) ?_
        exact k)
    have K33 : Rch p e below s₁ F0 T30 (mkF m 84 #[sR r, sI 0, sI 2, sI (Int32.ofNat (F 2)), sI (Int32.ofNat ((F 3) - (F 2))), sI (-1), sI 1, sI (Int32.ofNat (F 1)), sI (own_bi (decide (F 2 - F 1 = F 3 - F 2))), sI 0] []) := fun t k => K32 t (by
      refine XS.istore X30.here hx rfl (hb hby d_cn_79) rfl (l' := #[sR r, sI 0, sI 2, sI (Int32.ofNat (F 2)), sI (Int32.ofNat ((F 3) - (F 2))), sI (-1), sI 1, sI (Int32.ofNat (F 1)), sI (own_bi (decide (F 2 - F 1 = F 3 - F 2))), sI i18]) rfl ?_
      refine XS.iconst X30.here hx rfl (hb hby d_cn_81) ?_
      refine XS.istore X30.here hx rfl (hb hby d_cn_82) rfl (l' := #[sR r, sI 0, sI 2, sI (Int32.ofNat (F 2)), sI (Int32.ofNat ((F 3) - (F 2))), sI (-1), sI 1, sI (Int32.ofNat (F 1)), sI (own_bi (decide (F 2 - F 1 = F 3 - F 2))), sI 0]) rfl ?_
      exact k)
    obtain ⟨T34, i34, X34, e34, K34⟩ := own_inner r ks rgs ns fch fk kl frg fac fcm ftr acs cms sus prb shc rwc gc (F 1) (F 2) (F 3 - F 2) (.val (.int (0 : Int32))) (.val (.int (2 : Int32))) (.val (.int (-1 : Int32))) (.val (.int (1 : Int32))) ((fch, Ar Z .int 17 gh) :: (fcm, Ar Z .int 17 gf) :: Rr) hx hZ hw hby hml hown W17 (by omega) (by omega) (F 3 - F 2) 0 (decide (F 2 - F 1 = F 3 - F 2)) T30 (by omega) X30 e30 K33
    have K35 : Rch p e below s₁ F0 T34 (mkF m 133 #[sR r, sI 0, sI 2, sI (Int32.ofNat (F 2)), sI (Int32.ofNat ((F 3) - (F 2))), sI (-1), sI 1, sI (Int32.ofNat (F 1)), sI (own_bi (own_nm gc F 1 2)), sI i34] [(kI (own_bi (own_nm gc F 1 2)))]) := fun t k => K34 t (XS.iload X34.here hx rfl (hb hby d_cn_131) rfl k)
    have K36 : Rch p e below s₁ F0 T34 (mkF m 142 #[sR r, sI 0, sI 2, sI (Int32.ofNat (F 2)), sI (Int32.ofNat ((F 3) - (F 2))), sI (-1), sI 1, sI (Int32.ofNat (F 1)), sI (own_bi (own_nm gc F 1 2)), sI i34] [(kI (own_fd (own_nm gc F 1 2) (1 : Int32)))]) := fun t k => K35 t (by
      by_cases hq : (own_nm gc F 1 2) = true
      · rw [show own_fd (own_nm gc F 1 2) (1 : Int32) = (1 : Int32) from by rw [hq]; rfl] at k
        refine XS.ifNo X34.here hx rfl (hb hby d_cn_133) rfl ((if0 _ _).trans (feq (show ¬ (own_bi (own_nm gc F 1 2) = 0) from by rw [hq]; decide)).1) ?_
        refine XS.iload X34.here hx rfl (hb hby d_cn_136) rfl ?_
        refine XS.goto X34.here hx rfl (pc0 := 138) (pc' := 142) rfl (hb hby d_cn_138) (by decide) (by decide) ?_
        exact k
      · rw [show own_fd (own_nm gc F 1 2) (1 : Int32) = (-1 : Int32) from by rw [Bool.eq_false_iff.mpr hq]; rfl] at k
        refine XS.ifYes X34.here hx rfl (pc0 := 133) (pc' := 141) rfl (hb hby d_cn_133) rfl ((if0 _ _).trans (teq (show own_bi (own_nm gc F 1 2) = 0 from by rw [Bool.eq_false_iff.mpr hq]; rfl)).1) (by decide) (by decide) ?_
        refine XS.iconst X34.here hx rfl (hb hby d_cn_141) ?_
        exact k)
    have K37 : Rch p e below s₁ F0 T34 (mkF m 30 #[sR r, sI 0, sI 2, sI (Int32.ofNat (F 2)), sI (Int32.ofNat ((F 3) - (F 2))), sI (own_fd (own_nm gc F 1 2) (1 : Int32)), sI 2, sI (Int32.ofNat (F 1)), sI (own_bi (own_nm gc F 1 2)), sI i34] []) := fun t k => K36 t (by
      refine XS.istore X34.here hx rfl (hb hby d_cn_142) rfl (l' := #[sR r, sI 0, sI 2, sI (Int32.ofNat (F 2)), sI (Int32.ofNat ((F 3) - (F 2))), sI (own_fd (own_nm gc F 1 2) (1 : Int32)), sI 1, sI (Int32.ofNat (F 1)), sI (own_bi (own_nm gc F 1 2)), sI i34]) rfl ?_
      refine XS.iinc X34.here hx rfl (hb hby d_cn_144) rfl (l' := #[sR r, sI 0, sI 2, sI (Int32.ofNat (F 2)), sI (Int32.ofNat ((F 3) - (F 2))), sI (own_fd (own_nm gc F 1 2) (1 : Int32)), sI 2, sI (Int32.ofNat (F 1)), sI (own_bi (own_nm gc F 1 2)), sI i34]) rfl ?_
      refine XS.goto X34.here hx rfl (pc0 := 147) (pc' := 30) rfl (hb hby d_cn_147) (by decide) (by decide) ?_
      exact k)
    have K38 : Rch p e below s₁ F0 T34 (mkF m 33 #[sR r, sI 0, sI 2, sI (Int32.ofNat (F 2)), sI (Int32.ofNat ((F 3) - (F 2))), sI (own_fd (own_nm gc F 1 2) (1 : Int32)), sI 2, sI (Int32.ofNat (F 1)), sI (own_bi (own_nm gc F 1 2)), sI i34] [(kR r), (kI 2)]) := fun t k => K37 t (by
      refine XS.iload X34.here hx rfl (hb hby d_cn_30) rfl ?_
      refine XS.aloadN X34.here hx rfl (hb hby d_cn_32) rfl rfl ?_
      exact k)
    obtain ⟨T39, X39, e39, st39⟩ := getF X34 hx hZ hown (host := "") (Or.inl (hw _ (mi 23 rfl))) Via.refl e34 (W17.fld (i := 0) rfl (j := 3) rfl rfl) (g := K38.g) rfl rfl (hb hby d_cn_33)
    have K40 : Rch p e below s₁ F0 T39 (mkF m 152 #[sR r, sI 0, sI 2, sI (Int32.ofNat (F 2)), sI (Int32.ofNat ((F 3) - (F 2))), sI (own_fd (own_nm gc F 1 2) (1 : Int32)), sI 2, sI (Int32.ofNat (F 1)), sI (own_bi (own_nm gc F 1 2)), sI i34] [(kI (own_fd (own_nm gc F 1 2) (1 : Int32)))]) := fun t k => K38 t (st39 t (by
      refine XS.iloadN X39.here hx rfl (hb hby d_cn_36) rfl ?_
      refine XS.iconst X39.here hx rfl (hb hby d_cn_37) ?_
      refine XS.iadd X39.here hx rfl (hb hby d_cn_38) rfl ?_
      refine ialW X39 hx hZ e39 W17 (i := 2) rfl (j := (1 : Int32)) (k := 1) (by decide) (by decide) (by decide) (v := (.int (2 : Int32))) hh1 (g := (mkF m 39 #[sR r, sI 0, sI 2, sI (Int32.ofNat (F 2)), sI (Int32.ofNat ((F 3) - (F 2))), sI (own_fd (own_nm gc F 1 2) (1 : Int32)), sI 2, sI (Int32.ofNat (F 1)), sI (own_bi (own_nm gc F 1 2)), sI i34] [(kI 1), (kR fch), (kI 2)])) rfl rfl (hb hby d_cn_39) _ ?_
      refine XS.icmpYes X39.here hx rfl (pc0 := 40) (pc' := 150) rfl (hb hby d_cn_40) rfl (by decide) (by decide) (by decide) ?_
      refine XS.iload X39.here hx rfl (hb hby d_cn_150) rfl ?_
      exact k))
    obtain ⟨fs, hr, hrun, hended, hWm, hsame⟩ := X39.leave (v := some (.int (own_fd (own_nm gc F 1 2) (1 : Int32)))) (fun h => by rw [Bd.returns] at h; cases h)
    refine ⟨_, _, pre0 _ (K40 _ (retI X39 hx Bd.returns (hb hby d_cn_152) hr)), hrun, hended, _, _, rfl, ?_, ⟨_, rfl⟩, hWm, hsame.mono (by decide) (by decide)⟩
    show QrmCN02 Z r ks rgs ns fch fk kl frg fac fcm ftr acs cms sus prb shc rwc gh gf gc F Rr n0 _ T39.heap _
    rw [e39]
    exact ⟨by rw [if_neg hbb], N0, W17⟩
theorem ef_rmCN10 (m : MethodId) (r ks rgs ns fch fk kl frg fac fcm ftr acs cms sus prb : Addr) (shc rwc : Int32) (gh gf gc : Nat → Value) (F : Nat → Nat) : entryFrame m #[(.ref r), (.int (1 : Int32)), (.int (0 : Int32))] 10 = mkF m 0 #[.val (.ref r), .val (.int (1 : Int32)), .val (.int (0 : Int32)), .unset, .unset, .unset, .unset, .unset, .unset, .unset] [] := by first | (simp [entryFrame, mkF, argsToLocals, Value.category]; done) | rfl
def QrmCN10 (Z : State) (r ks rgs ns fch fk kl frg fac fcm ftr acs cms sus prb : Addr) (shc rwc : Int32) (gh gf gc : Nat → Value) (F : Nat → Nat) (Rr : List (Addr × (Cell → Prop))) (n0 : Nat) (v : Option Value) (h : Heap) (L : List Loc) : Prop := v = some (.int (own_fd (own_nm gc F 2 0) (2 : Int32))) ∧ Fr n0 L ∧ Wo n0 h ((r, oR Z [(kR ks), (kR rgs), (kR ns), (kR fch), (kR fk), (kR kl), (kR frg), (kR fac), (kR fcm), (kR ftr), (kR acs), (kR cms), (kR sus), (kR prb), (kI shc), .null, (kI rwc)]) :: (cms, Ar Z .int 16 gc) :: (fch, Ar Z .int 17 gh) :: (fcm, Ar Z .int 17 gf) :: Rr)
set_option maxRecDepth 65536 in
set_option maxHeartbeats 40000000 in
theorem rmCN10 (l : Launch) (Z : State) (a0 : Array Value) (hw : ∀ d ∈ tables_1, d.before a0 Z = true) (ws : List Jvm.Cond) (r ks rgs ns fch fk kl frg fac fcm ftr acs cms sus prb : Addr) (shc rwc : Int32) (gh gf gc : Nat → Value) (F : Nat → Nat) (Rr : List (Addr × (Cell → Prop))) (h0 : Heap) (n0 : Nat) (W0 : Wo n0 h0 ((r, oR Z [(kR ks), (kR rgs), (kR ns), (kR fch), (kR fk), (kR kl), (kR frg), (kR fac), (kR fcm), (kR ftr), (kR acs), (kR cms), (kR sus), (kR prb), (kI shc), .null, (kI rwc)]) :: (fch, Ar Z .int 17 gh) :: (fcm, Ar Z .int 17 gf) :: (cms, Ar Z .int 16 gc) :: Rr)) (hh0 : gh 1 = .int 2) (hh1 : gh 2 = .int 3) (hF : ∀ k, k ≤ 3 → gf k = .int (Int32.ofNat (F k))) (hB : ∀ k, k ≤ 3 → F k ≤ 6) (hM : ∀ k, k < 3 → F k ≤ F (k + 1)) :
    MetFree l (⟨"com/example/sambre/sambre/engine/Rows", "choiceNamedAs", "(II)I"⟩ : MethodName) (head1 (Jvm.Cond.code (⟨"com/example/sambre/sambre/engine/Rows", "choiceNamedAs", "(II)I"⟩ : MethodName) prog_87_method_34_code 10 (some .int) :: ws) ({ frames := 0, cells := 0, slots := 0, locals := 0 } : Room)) (fun aa U => aa = #[(.ref r), (.int (1 : Int32)), (.int (0 : Int32))] ∧ Z.Warmed39 U.vm ∧ U.heap = h0) (fun _ _ _ _ _ => True) (fun _ U ou U' => ∃ v L, ou = .returned v ∧ QrmCN10 Z r ks rgs ns fch fk kl frg fac fcm ftr acs cms sus prb shc rwc gh gf gc F Rr n0 v U'.heap L ∧ FrameEnd U ou U' L ({ frames := 0, cells := 0, slots := 0, locals := 0 } : Room).cells ({ frames := 0, cells := 0, slots := 0, locals := 0 } : Room).slots) := by
  refine MetFree.of_bodySF (plainFor_of_name pn_Rows) hisR ?_
  intro p e s m args below meth c s₁ Bd hml0 hP hK
  obtain ⟨rfl, hZ, hh⟩ := hP
  have hx := Bd.exec
  have hby := Bd.bytes
  have hml : c.maxLocals = 10 := hml0
  have hown : s.vm.findClass "com/example/sambre/sambre/engine/Rows" = some m.cls := findClass_of_methodNamed Bd.named
  have hnm := (name_of_methodNamed Bd.named Bd.method).1
  have X0 : Stand p l e ({ frames := 0, cells := 0, slots := 0, locals := 0 } : Room) s m #[(.ref r), (.int (1 : Int32)), (.int (0 : Int32))] below meth c s₁ [] 0 0 := Stand.of_body Bd
  have e0 : s₁.heap = h0 := by rw [← hh, Bd.state]; rfl
  have N0 := Fr.nil n0
  obtain ⟨F0, hF0⟩ : ∃ F, F = mkF m 0 #[.val (.ref r), .val (.int (1 : Int32)), .val (.int (0 : Int32)), .unset, .unset, .unset, .unset, .unset, .unset, .unset] [] := ⟨_, rfl⟩
  have pre0 : ∀ t, Steps p.tables e below (s₁.setTop F0) t → Steps p.tables e below (s₁.setTop (entryFrame m #[(.ref r), (.int (1 : Int32)), (.int (0 : Int32))] 10)) t := fun t k => castTop ((ef_rmCN10 m r ks rgs ns fch fk kl frg fac fcm ftr acs cms sus prb shc rwc gh gf gc F).trans hF0.symm) k
  have K0 : Rch p e below s₁ F0 s₁ (mkF m 0 #[.val (.ref r), .val (.int (1 : Int32)), .val (.int (0 : Int32)), .unset, .unset, .unset, .unset, .unset, .unset, .unset] []) := fun t k => castTop hF0 k
  have hb0 := hB 0 (by decide)
  have hb1 := hB 1 (by decide)
  have hb2 := hB 2 (by decide)
  have hb3 := hB 3 (by decide)
  have hm0 := hM 0 (by decide)
  have hm1 := hM 1 (by decide)
  have hm2 := hM 2 (by decide)
  simp only [Nat.zero_add, Nat.reduceAdd] at hm0 hm1 hm2
  have K1 : Rch p e below s₁ F0 s₁ (mkF m 1 #[sR r, sI 1, sI 0, sU, sU, sU, sU, sU, sU, sU] [(kR r)]) := fun t k => K0 t (XS.aloadN X0.here hx rfl (hb hby d_cn_0) rfl rfl k)
  obtain ⟨T2, X2, e2, st2⟩ := getF X0 hx hZ hown (host := "") (Or.inl (hw _ (mi 33 rfl))) Via.refl e0 (W0.fld (i := 0) rfl (j := 8) rfl rfl) (g := K1.g) rfl rfl (hb hby d_cn_1)
  have K3 : Rch p e below s₁ F0 T2 (mkF m 8 #[sR r, sI 1, sI 0, sI (Int32.ofNat (F 0)), sU, sU, sU, sU, sU, sU] [(kR r)]) := fun t k => K1 t (st2 t (by
    refine XS.iloadN X2.here hx rfl (hb hby d_cn_4) rfl ?_
    refine ialW X2 hx hZ e2 W0 (i := 2) rfl (j := (0 : Int32)) (k := 0) (by decide) (by decide) (by decide) (v := (.int (Int32.ofNat (F 0)))) (hF 0 (by decide)) (g := (mkF m 5 #[sR r, sI 1, sI 0, sU, sU, sU, sU, sU, sU, sU] [(kI 0), (kR fcm)])) rfl rfl (hb hby d_cn_5) _ ?_
    refine XS.istoreN X2.here hx rfl (hb hby d_cn_6) rfl (l' := #[sR r, sI 1, sI 0, sI (Int32.ofNat (F 0)), sU, sU, sU, sU, sU, sU]) rfl ?_
    refine XS.aloadN X2.here hx rfl (hb hby d_cn_7) rfl rfl ?_
    exact k))
  obtain ⟨T4, X4, e4, st4⟩ := getF X2 hx hZ hown (host := "") (Or.inl (hw _ (mi 33 rfl))) Via.refl e2 (W0.fld (i := 0) rfl (j := 8) rfl rfl) (g := K3.g) rfl rfl (hb hby d_cn_8)
  have K5 : Rch p e below s₁ F0 T4 (mkF m 23 #[sR r, sI 1, sI 0, sI (Int32.ofNat (F 0)), sI (Int32.ofNat ((F 1) - (F 0))), sI (-1), sU, sU, sU, sU] [(kR r)]) := fun t k => K3 t (st4 t (by
    refine XS.iloadN X4.here hx rfl (hb hby d_cn_11) rfl ?_
    refine XS.iconst X4.here hx rfl (hb hby d_cn_12) ?_
    refine XS.iadd X4.here hx rfl (hb hby d_cn_13) rfl ?_
    refine ialW X4 hx hZ e4 W0 (i := 2) rfl (j := (1 : Int32)) (k := 1) (by decide) (by decide) (by decide) (v := (.int (Int32.ofNat (F 1)))) (hF 1 (by decide)) (g := (mkF m 14 #[sR r, sI 1, sI 0, sI (Int32.ofNat (F 0)), sU, sU, sU, sU, sU, sU] [(kI 1), (kR fcm)])) rfl rfl (hb hby d_cn_14) _ ?_
    refine XS.iloadN X4.here hx rfl (hb hby d_cn_15) rfl ?_
    refine XS.isub X4.here hx rfl (hb hby d_cn_16) rfl ?_
    show Steps p.tables e below (T4.setTop (mkF m 17 #[sR r, sI 1, sI 0, sI (Int32.ofNat (F 0)), sU, sU, sU, sU, sU, sU] [(kI ((Int32.ofNat (F 1)) - (Int32.ofNat (F 0))))])) _
    rw [own_sub (hM 0 (by decide)) (Nat.lt_of_le_of_lt (hB 1 (by decide)) (by decide))]
    show Steps p.tables e below (T4.setTop (mkF m 17 #[sR r, sI 1, sI 0, sI (Int32.ofNat (F 0)), sU, sU, sU, sU, sU, sU] [(kI (Int32.ofNat ((F 1) - (F 0))))])) _
    refine XS.istore X4.here hx rfl (hb hby d_cn_17) rfl (l' := #[sR r, sI 1, sI 0, sI (Int32.ofNat (F 0)), sI (Int32.ofNat ((F 1) - (F 0))), sU, sU, sU, sU, sU]) rfl ?_
    refine XS.iconst X4.here hx rfl (hb hby d_cn_19) ?_
    refine XS.istore X4.here hx rfl (hb hby d_cn_20) rfl (l' := #[sR r, sI 1, sI 0, sI (Int32.ofNat (F 0)), sI (Int32.ofNat ((F 1) - (F 0))), sI (-1), sU, sU, sU, sU]) rfl ?_
    refine XS.aloadN X4.here hx rfl (hb hby d_cn_22) rfl rfl ?_
    exact k))
  obtain ⟨T6, X6, e6, st6⟩ := getF X4 hx hZ hown (host := "") (Or.inl (hw _ (mi 23 rfl))) Via.refl e4 (W0.fld (i := 0) rfl (j := 3) rfl rfl) (g := K5.g) rfl rfl (hb hby d_cn_23)
  have K7 : Rch p e below s₁ F0 T6 (mkF m 30 #[sR r, sI 1, sI 0, sI (Int32.ofNat (F 0)), sI (Int32.ofNat ((F 1) - (F 0))), sI (-1), sI 2, sU, sU, sU] []) := fun t k => K5 t (st6 t (by
    refine XS.iloadN X6.here hx rfl (hb hby d_cn_26) rfl ?_
    refine ialW X6 hx hZ e6 W0 (i := 1) rfl (j := (1 : Int32)) (k := 1) (by decide) (by decide) (by decide) (v := (.int (2 : Int32))) hh0 (g := (mkF m 27 #[sR r, sI 1, sI 0, sI (Int32.ofNat (F 0)), sI (Int32.ofNat ((F 1) - (F 0))), sI (-1), sU, sU, sU, sU] [(kI 1), (kR fch)])) rfl rfl (hb hby d_cn_27) _ ?_
    refine XS.istore X6.here hx rfl (hb hby d_cn_28) rfl (l' := #[sR r, sI 1, sI 0, sI (Int32.ofNat (F 0)), sI (Int32.ofNat ((F 1) - (F 0))), sI (-1), sI 2, sU, sU, sU]) rfl ?_
    exact k))
  have K8 : Rch p e below s₁ F0 T6 (mkF m 33 #[sR r, sI 1, sI 0, sI (Int32.ofNat (F 0)), sI (Int32.ofNat ((F 1) - (F 0))), sI (-1), sI 2, sU, sU, sU] [(kR r), (kI 2)]) := fun t k => K7 t (by
    refine XS.iload X6.here hx rfl (hb hby d_cn_30) rfl ?_
    refine XS.aloadN X6.here hx rfl (hb hby d_cn_32) rfl rfl ?_
    exact k)
  obtain ⟨T9, X9, e9, st9⟩ := getF X6 hx hZ hown (host := "") (Or.inl (hw _ (mi 23 rfl))) Via.refl e6 (W0.fld (i := 0) rfl (j := 3) rfl rfl) (g := K8.g) rfl rfl (hb hby d_cn_33)
  have K10 : Rch p e below s₁ F0 T9 (mkF m 49 #[sR r, sI 1, sI 0, sI (Int32.ofNat (F 0)), sI (Int32.ofNat ((F 1) - (F 0))), sI (-1), sI 2, sU, sU, sU] [(kR r)]) := fun t k => K8 t (st9 t (by
    refine XS.iloadN X9.here hx rfl (hb hby d_cn_36) rfl ?_
    refine XS.iconst X9.here hx rfl (hb hby d_cn_37) ?_
    refine XS.iadd X9.here hx rfl (hb hby d_cn_38) rfl ?_
    refine ialW X9 hx hZ e9 W0 (i := 1) rfl (j := (2 : Int32)) (k := 2) (by decide) (by decide) (by decide) (v := (.int (3 : Int32))) hh1 (g := (mkF m 39 #[sR r, sI 1, sI 0, sI (Int32.ofNat (F 0)), sI (Int32.ofNat ((F 1) - (F 0))), sI (-1), sI 2, sU, sU, sU] [(kI 2), (kR fch), (kI 2)])) rfl rfl (hb hby d_cn_39) _ ?_
    refine XS.icmpNo X9.here hx rfl (hb hby d_cn_40) rfl (by decide) ?_
    refine XS.iload X9.here hx rfl (hb hby d_cn_43) rfl ?_
    show Steps p.tables e below (T9.setTop (mkF m 45 #[sR r, sI 1, sI 0, sI (Int32.ofNat (F 0)), sI (Int32.ofNat ((F 1) - (F 0))), sI (-1), sI 2, sU, sU, sU] [(kI (-1))])) _
    refine XS.ifNo X9.here hx rfl (hb hby d_cn_45) rfl (by decide) ?_
    refine XS.aloadN X9.here hx rfl (hb hby d_cn_48) rfl rfl ?_
    exact k))
  obtain ⟨T11, X11, e11, st11⟩ := getF X9 hx hZ hown (host := "") (Or.inl (hw _ (mi 33 rfl))) Via.refl e9 (W0.fld (i := 0) rfl (j := 8) rfl rfl) (g := K10.g) rfl rfl (hb hby d_cn_49)
  have K12 : Rch p e below s₁ F0 T11 (mkF m 58 #[sR r, sI 1, sI 0, sI (Int32.ofNat (F 0)), sI (Int32.ofNat ((F 1) - (F 0))), sI (-1), sI 2, sI (Int32.ofNat (F 2)), sU, sU] [(kR r)]) := fun t k => K10 t (st11 t (by
    refine XS.iload X11.here hx rfl (hb hby d_cn_52) rfl ?_
    refine ialW X11 hx hZ e11 W0 (i := 2) rfl (j := (2 : Int32)) (k := 2) (by decide) (by decide) (by decide) (v := (.int (Int32.ofNat (F 2)))) (hF 2 (by decide)) (g := (mkF m 54 #[sR r, sI 1, sI 0, sI (Int32.ofNat (F 0)), sI (Int32.ofNat ((F 1) - (F 0))), sI (-1), sI 2, sU, sU, sU] [(kI 2), (kR fcm)])) rfl rfl (hb hby d_cn_54) _ ?_
    refine XS.istore X11.here hx rfl (hb hby d_cn_55) rfl (l' := #[sR r, sI 1, sI 0, sI (Int32.ofNat (F 0)), sI (Int32.ofNat ((F 1) - (F 0))), sI (-1), sI 2, sI (Int32.ofNat (F 2)), sU, sU]) rfl ?_
    refine XS.aloadN X11.here hx rfl (hb hby d_cn_57) rfl rfl ?_
    exact k))
  obtain ⟨T13, X13, e13, st13⟩ := getF X11 hx hZ hown (host := "") (Or.inl (hw _ (mi 33 rfl))) Via.refl e11 (W0.fld (i := 0) rfl (j := 8) rfl rfl) (g := K12.g) rfl rfl (hb hby d_cn_58)
  have K14 : Rch p e below s₁ F0 T13 (mkF m 71 #[sR r, sI 1, sI 0, sI (Int32.ofNat (F 0)), sI (Int32.ofNat ((F 1) - (F 0))), sI (-1), sI 2, sI (Int32.ofNat (F 2)), sU, sU] [(kI (Int32.ofNat ((F 1) - (F 0)))), (kI (Int32.ofNat ((F 3) - (F 2))))]) := fun t k => K12 t (st13 t (by
    refine XS.iload X13.here hx rfl (hb hby d_cn_61) rfl ?_
    refine XS.iconst X13.here hx rfl (hb hby d_cn_63) ?_
    refine XS.iadd X13.here hx rfl (hb hby d_cn_64) rfl ?_
    refine ialW X13 hx hZ e13 W0 (i := 2) rfl (j := (3 : Int32)) (k := 3) (by decide) (by decide) (by decide) (v := (.int (Int32.ofNat (F 3)))) (hF 3 (by decide)) (g := (mkF m 65 #[sR r, sI 1, sI 0, sI (Int32.ofNat (F 0)), sI (Int32.ofNat ((F 1) - (F 0))), sI (-1), sI 2, sI (Int32.ofNat (F 2)), sU, sU] [(kI 3), (kR fcm)])) rfl rfl (hb hby d_cn_65) _ ?_
    refine XS.iload X13.here hx rfl (hb hby d_cn_66) rfl ?_
    refine XS.isub X13.here hx rfl (hb hby d_cn_68) rfl ?_
    show Steps p.tables e below (T13.setTop (mkF m 69 #[sR r, sI 1, sI 0, sI (Int32.ofNat (F 0)), sI (Int32.ofNat ((F 1) - (F 0))), sI (-1), sI 2, sI (Int32.ofNat (F 2)), sU, sU] [(kI ((Int32.ofNat (F 3)) - (Int32.ofNat (F 2))))])) _
    rw [own_sub (hM 2 (by decide)) (Nat.lt_of_le_of_lt (hB 3 (by decide)) (by decide))]
    show Steps p.tables e below (T13.setTop (mkF m 69 #[sR r, sI 1, sI 0, sI (Int32.ofNat (F 0)), sI (Int32.ofNat ((F 1) - (F 0))), sI (-1), sI 2, sI (Int32.ofNat (F 2)), sU, sU] [(kI (Int32.ofNat ((F 3) - (F 2))))])) _
    refine XS.iload X13.here hx rfl (hb hby d_cn_69) rfl ?_
    exact k))
  have K15 : Rch p e below s₁ F0 T13 (mkF m 79 #[sR r, sI 1, sI 0, sI (Int32.ofNat (F 0)), sI (Int32.ofNat ((F 1) - (F 0))), sI (-1), sI 2, sI (Int32.ofNat (F 2)), sU, sU] [(kI (own_bi (decide (F 3 - F 2 = F 1 - F 0))))]) := fun t k => K14 t (by
    by_cases hq : F 3 - F 2 = F 1 - F 0
    · rw [show own_bi (decide (F 3 - F 2 = F 1 - F 0)) = 1 from by rw [decide_eq_true hq]; rfl] at k
      refine XS.icmpNo X13.here hx rfl (hb hby d_cn_71) rfl (teq (congrArg Int32.ofNat hq)).2 ?_
      refine XS.iconst X13.here hx rfl (hb hby d_cn_74) ?_
      refine XS.goto X13.here hx rfl (pc0 := 75) (pc' := 79) rfl (hb hby d_cn_75) (by decide) (by decide) ?_
      exact k
    · rw [show own_bi (decide (F 3 - F 2 = F 1 - F 0)) = 0 from by rw [decide_eq_false hq]; rfl] at k
      refine XS.icmpYes X13.here hx rfl (pc0 := 71) (pc' := 78) rfl (hb hby d_cn_71) rfl (feq (own_ne hq (by omega) (by omega))).2 (by decide) (by decide) ?_
      refine XS.iconst X13.here hx rfl (hb hby d_cn_78) ?_
      exact k)
  have K16 : Rch p e below s₁ F0 T13 (mkF m 84 #[sR r, sI 1, sI 0, sI (Int32.ofNat (F 0)), sI (Int32.ofNat ((F 1) - (F 0))), sI (-1), sI 2, sI (Int32.ofNat (F 2)), sI (own_bi (decide (F 3 - F 2 = F 1 - F 0))), sI 0] []) := fun t k => K15 t (by
    refine XS.istore X13.here hx rfl (hb hby d_cn_79) rfl (l' := #[sR r, sI 1, sI 0, sI (Int32.ofNat (F 0)), sI (Int32.ofNat ((F 1) - (F 0))), sI (-1), sI 2, sI (Int32.ofNat (F 2)), sI (own_bi (decide (F 3 - F 2 = F 1 - F 0))), sU]) rfl ?_
    refine XS.iconst X13.here hx rfl (hb hby d_cn_81) ?_
    refine XS.istore X13.here hx rfl (hb hby d_cn_82) rfl (l' := #[sR r, sI 1, sI 0, sI (Int32.ofNat (F 0)), sI (Int32.ofNat ((F 1) - (F 0))), sI (-1), sI 2, sI (Int32.ofNat (F 2)), sI (own_bi (decide (F 3 - F 2 = F 1 - F 0))), sI 0]) rfl ?_
    exact k)
  have W17 : Wo n0 h0 ((r, oR Z [(kR ks), (kR rgs), (kR ns), (kR fch), (kR fk), (kR kl), (kR frg), (kR fac), (kR fcm), (kR ftr), (kR acs), (kR cms), (kR sus), (kR prb), (kI shc), .null, (kI rwc)]) :: (cms, Ar Z .int 16 gc) :: (fch, Ar Z .int 17 gh) :: (fcm, Ar Z .int 17 gf) :: Rr) := Wo.pick W0 [0, 3, 1, 2] 4 (by decide +kernel) rfl
  obtain ⟨T18, i18, X18, e18, K18⟩ := own_inner r ks rgs ns fch fk kl frg fac fcm ftr acs cms sus prb shc rwc gc (F 2) (F 0) (F 1 - F 0) (.val (.int (1 : Int32))) (.val (.int (0 : Int32))) (.val (.int (-1 : Int32))) (.val (.int (2 : Int32))) ((fch, Ar Z .int 17 gh) :: (fcm, Ar Z .int 17 gf) :: Rr) hx hZ hw hby hml hown W17 (by omega) (by omega) (F 1 - F 0) 0 (decide (F 3 - F 2 = F 1 - F 0)) T13 (by omega) X13 e13 K16
  have K19 : Rch p e below s₁ F0 T18 (mkF m 133 #[sR r, sI 1, sI 0, sI (Int32.ofNat (F 0)), sI (Int32.ofNat ((F 1) - (F 0))), sI (-1), sI 2, sI (Int32.ofNat (F 2)), sI (own_bi (own_nm gc F 2 0)), sI i18] [(kI (own_bi (own_nm gc F 2 0)))]) := fun t k => K18 t (XS.iload X18.here hx rfl (hb hby d_cn_131) rfl k)
  have K20 : Rch p e below s₁ F0 T18 (mkF m 142 #[sR r, sI 1, sI 0, sI (Int32.ofNat (F 0)), sI (Int32.ofNat ((F 1) - (F 0))), sI (-1), sI 2, sI (Int32.ofNat (F 2)), sI (own_bi (own_nm gc F 2 0)), sI i18] [(kI (own_fd (own_nm gc F 2 0) (2 : Int32)))]) := fun t k => K19 t (by
    by_cases hq : (own_nm gc F 2 0) = true
    · rw [show own_fd (own_nm gc F 2 0) (2 : Int32) = (2 : Int32) from by rw [hq]; rfl] at k
      refine XS.ifNo X18.here hx rfl (hb hby d_cn_133) rfl ((if0 _ _).trans (feq (show ¬ (own_bi (own_nm gc F 2 0) = 0) from by rw [hq]; decide)).1) ?_
      refine XS.iload X18.here hx rfl (hb hby d_cn_136) rfl ?_
      refine XS.goto X18.here hx rfl (pc0 := 138) (pc' := 142) rfl (hb hby d_cn_138) (by decide) (by decide) ?_
      exact k
    · rw [show own_fd (own_nm gc F 2 0) (2 : Int32) = (-1 : Int32) from by rw [Bool.eq_false_iff.mpr hq]; rfl] at k
      refine XS.ifYes X18.here hx rfl (pc0 := 133) (pc' := 141) rfl (hb hby d_cn_133) rfl ((if0 _ _).trans (teq (show own_bi (own_nm gc F 2 0) = 0 from by rw [Bool.eq_false_iff.mpr hq]; rfl)).1) (by decide) (by decide) ?_
      refine XS.iconst X18.here hx rfl (hb hby d_cn_141) ?_
      exact k)
  have K21 : Rch p e below s₁ F0 T18 (mkF m 30 #[sR r, sI 1, sI 0, sI (Int32.ofNat (F 0)), sI (Int32.ofNat ((F 1) - (F 0))), sI (own_fd (own_nm gc F 2 0) (2 : Int32)), sI 3, sI (Int32.ofNat (F 2)), sI (own_bi (own_nm gc F 2 0)), sI i18] []) := fun t k => K20 t (by
    refine XS.istore X18.here hx rfl (hb hby d_cn_142) rfl (l' := #[sR r, sI 1, sI 0, sI (Int32.ofNat (F 0)), sI (Int32.ofNat ((F 1) - (F 0))), sI (own_fd (own_nm gc F 2 0) (2 : Int32)), sI 2, sI (Int32.ofNat (F 2)), sI (own_bi (own_nm gc F 2 0)), sI i18]) rfl ?_
    refine XS.iinc X18.here hx rfl (hb hby d_cn_144) rfl (l' := #[sR r, sI 1, sI 0, sI (Int32.ofNat (F 0)), sI (Int32.ofNat ((F 1) - (F 0))), sI (own_fd (own_nm gc F 2 0) (2 : Int32)), sI 3, sI (Int32.ofNat (F 2)), sI (own_bi (own_nm gc F 2 0)), sI i18]) rfl ?_
    refine XS.goto X18.here hx rfl (pc0 := 147) (pc' := 30) rfl (hb hby d_cn_147) (by decide) (by decide) ?_
    exact k)
  have K22 : Rch p e below s₁ F0 T18 (mkF m 33 #[sR r, sI 1, sI 0, sI (Int32.ofNat (F 0)), sI (Int32.ofNat ((F 1) - (F 0))), sI (own_fd (own_nm gc F 2 0) (2 : Int32)), sI 3, sI (Int32.ofNat (F 2)), sI (own_bi (own_nm gc F 2 0)), sI i18] [(kR r), (kI 3)]) := fun t k => K21 t (by
    refine XS.iload X18.here hx rfl (hb hby d_cn_30) rfl ?_
    refine XS.aloadN X18.here hx rfl (hb hby d_cn_32) rfl rfl ?_
    exact k)
  obtain ⟨T23, X23, e23, st23⟩ := getF X18 hx hZ hown (host := "") (Or.inl (hw _ (mi 23 rfl))) Via.refl e18 (W17.fld (i := 0) rfl (j := 3) rfl rfl) (g := K22.g) rfl rfl (hb hby d_cn_33)
  have K24 : Rch p e below s₁ F0 T23 (mkF m 152 #[sR r, sI 1, sI 0, sI (Int32.ofNat (F 0)), sI (Int32.ofNat ((F 1) - (F 0))), sI (own_fd (own_nm gc F 2 0) (2 : Int32)), sI 3, sI (Int32.ofNat (F 2)), sI (own_bi (own_nm gc F 2 0)), sI i18] [(kI (own_fd (own_nm gc F 2 0) (2 : Int32)))]) := fun t k => K22 t (st23 t (by
    refine XS.iloadN X23.here hx rfl (hb hby d_cn_36) rfl ?_
    refine XS.iconst X23.here hx rfl (hb hby d_cn_37) ?_
    refine XS.iadd X23.here hx rfl (hb hby d_cn_38) rfl ?_
    refine ialW X23 hx hZ e23 W17 (i := 2) rfl (j := (2 : Int32)) (k := 2) (by decide) (by decide) (by decide) (v := (.int (3 : Int32))) hh1 (g := (mkF m 39 #[sR r, sI 1, sI 0, sI (Int32.ofNat (F 0)), sI (Int32.ofNat ((F 1) - (F 0))), sI (own_fd (own_nm gc F 2 0) (2 : Int32)), sI 3, sI (Int32.ofNat (F 2)), sI (own_bi (own_nm gc F 2 0)), sI i18] [(kI 2), (kR fch), (kI 3)])) rfl rfl (hb hby d_cn_39) _ ?_
    refine XS.icmpYes X23.here hx rfl (pc0 := 40) (pc' := 150) rfl (hb hby d_cn_40) rfl (by decide) (by decide) (by decide) ?_
    refine XS.iload X23.here hx rfl (hb hby d_cn_150) rfl ?_
    exact k))
  obtain ⟨fs, hr, hrun, hended, hWm, hsame⟩ := X23.leave (v := some (.int (own_fd (own_nm gc F 2 0) (2 : Int32)))) (fun h => by rw [Bd.returns] at h; cases h)
  refine ⟨_, _, pre0 _ (K24 _ (retI X23 hx Bd.returns (hb hby d_cn_152) hr)), hrun, hended, _, _, rfl, ?_, ⟨_, rfl⟩, hWm, hsame.mono (by decide) (by decide)⟩
  show QrmCN10 Z r ks rgs ns fch fk kl frg fac fcm ftr acs cms sus prb shc rwc gh gf gc F Rr n0 _ T23.heap _
  rw [e23]
  exact ⟨rfl, N0, W17⟩
theorem ef_rmCN11 (m : MethodId) (r ks rgs ns fch fk kl frg fac fcm ftr acs cms sus prb : Addr) (shc rwc : Int32) (gh gf gc : Nat → Value) (F : Nat → Nat) : entryFrame m #[(.ref r), (.int (1 : Int32)), (.int (1 : Int32))] 10 = mkF m 0 #[.val (.ref r), .val (.int (1 : Int32)), .val (.int (1 : Int32)), .unset, .unset, .unset, .unset, .unset, .unset, .unset] [] := by first | (simp [entryFrame, mkF, argsToLocals, Value.category]; done) | rfl
def QrmCN11 (Z : State) (r ks rgs ns fch fk kl frg fac fcm ftr acs cms sus prb : Addr) (shc rwc : Int32) (gh gf gc : Nat → Value) (F : Nat → Nat) (Rr : List (Addr × (Cell → Prop))) (n0 : Nat) (v : Option Value) (h : Heap) (L : List Loc) : Prop := v = some (.int (own_fd (own_nm gc F 2 1) (2 : Int32))) ∧ Fr n0 L ∧ Wo n0 h ((r, oR Z [(kR ks), (kR rgs), (kR ns), (kR fch), (kR fk), (kR kl), (kR frg), (kR fac), (kR fcm), (kR ftr), (kR acs), (kR cms), (kR sus), (kR prb), (kI shc), .null, (kI rwc)]) :: (cms, Ar Z .int 16 gc) :: (fch, Ar Z .int 17 gh) :: (fcm, Ar Z .int 17 gf) :: Rr)
set_option maxRecDepth 65536 in
set_option maxHeartbeats 40000000 in
theorem rmCN11 (l : Launch) (Z : State) (a0 : Array Value) (hw : ∀ d ∈ tables_1, d.before a0 Z = true) (ws : List Jvm.Cond) (r ks rgs ns fch fk kl frg fac fcm ftr acs cms sus prb : Addr) (shc rwc : Int32) (gh gf gc : Nat → Value) (F : Nat → Nat) (Rr : List (Addr × (Cell → Prop))) (h0 : Heap) (n0 : Nat) (W0 : Wo n0 h0 ((r, oR Z [(kR ks), (kR rgs), (kR ns), (kR fch), (kR fk), (kR kl), (kR frg), (kR fac), (kR fcm), (kR ftr), (kR acs), (kR cms), (kR sus), (kR prb), (kI shc), .null, (kI rwc)]) :: (fch, Ar Z .int 17 gh) :: (fcm, Ar Z .int 17 gf) :: (cms, Ar Z .int 16 gc) :: Rr)) (hh0 : gh 1 = .int 2) (hh1 : gh 2 = .int 3) (hF : ∀ k, k ≤ 3 → gf k = .int (Int32.ofNat (F k))) (hB : ∀ k, k ≤ 3 → F k ≤ 6) (hM : ∀ k, k < 3 → F k ≤ F (k + 1)) :
    MetFree l (⟨"com/example/sambre/sambre/engine/Rows", "choiceNamedAs", "(II)I"⟩ : MethodName) (head1 (Jvm.Cond.code (⟨"com/example/sambre/sambre/engine/Rows", "choiceNamedAs", "(II)I"⟩ : MethodName) prog_87_method_34_code 10 (some .int) :: ws) ({ frames := 0, cells := 0, slots := 0, locals := 0 } : Room)) (fun aa U => aa = #[(.ref r), (.int (1 : Int32)), (.int (1 : Int32))] ∧ Z.Warmed39 U.vm ∧ U.heap = h0) (fun _ _ _ _ _ => True) (fun _ U ou U' => ∃ v L, ou = .returned v ∧ QrmCN11 Z r ks rgs ns fch fk kl frg fac fcm ftr acs cms sus prb shc rwc gh gf gc F Rr n0 v U'.heap L ∧ FrameEnd U ou U' L ({ frames := 0, cells := 0, slots := 0, locals := 0 } : Room).cells ({ frames := 0, cells := 0, slots := 0, locals := 0 } : Room).slots) := by
  refine MetFree.of_bodySF (plainFor_of_name pn_Rows) hisR ?_
  intro p e s m args below meth c s₁ Bd hml0 hP hK
  obtain ⟨rfl, hZ, hh⟩ := hP
  have hx := Bd.exec
  have hby := Bd.bytes
  have hml : c.maxLocals = 10 := hml0
  have hown : s.vm.findClass "com/example/sambre/sambre/engine/Rows" = some m.cls := findClass_of_methodNamed Bd.named
  have hnm := (name_of_methodNamed Bd.named Bd.method).1
  have X0 : Stand p l e ({ frames := 0, cells := 0, slots := 0, locals := 0 } : Room) s m #[(.ref r), (.int (1 : Int32)), (.int (1 : Int32))] below meth c s₁ [] 0 0 := Stand.of_body Bd
  have e0 : s₁.heap = h0 := by rw [← hh, Bd.state]; rfl
  have N0 := Fr.nil n0
  obtain ⟨F0, hF0⟩ : ∃ F, F = mkF m 0 #[.val (.ref r), .val (.int (1 : Int32)), .val (.int (1 : Int32)), .unset, .unset, .unset, .unset, .unset, .unset, .unset] [] := ⟨_, rfl⟩
  have pre0 : ∀ t, Steps p.tables e below (s₁.setTop F0) t → Steps p.tables e below (s₁.setTop (entryFrame m #[(.ref r), (.int (1 : Int32)), (.int (1 : Int32))] 10)) t := fun t k => castTop ((ef_rmCN11 m r ks rgs ns fch fk kl frg fac fcm ftr acs cms sus prb shc rwc gh gf gc F).trans hF0.symm) k
  have K0 : Rch p e below s₁ F0 s₁ (mkF m 0 #[.val (.ref r), .val (.int (1 : Int32)), .val (.int (1 : Int32)), .unset, .unset, .unset, .unset, .unset, .unset, .unset] []) := fun t k => castTop hF0 k
  have hb0 := hB 0 (by decide)
  have hb1 := hB 1 (by decide)
  have hb2 := hB 2 (by decide)
  have hb3 := hB 3 (by decide)
  have hm0 := hM 0 (by decide)
  have hm1 := hM 1 (by decide)
  have hm2 := hM 2 (by decide)
  simp only [Nat.zero_add, Nat.reduceAdd] at hm0 hm1 hm2
  have K1 : Rch p e below s₁ F0 s₁ (mkF m 1 #[sR r, sI 1, sI 1, sU, sU, sU, sU, sU, sU, sU] [(kR r)]) := fun t k => K0 t (XS.aloadN X0.here hx rfl (hb hby d_cn_0) rfl rfl k)
  obtain ⟨T2, X2, e2, st2⟩ := getF X0 hx hZ hown (host := "") (Or.inl (hw _ (mi 33 rfl))) Via.refl e0 (W0.fld (i := 0) rfl (j := 8) rfl rfl) (g := K1.g) rfl rfl (hb hby d_cn_1)
  have K3 : Rch p e below s₁ F0 T2 (mkF m 8 #[sR r, sI 1, sI 1, sI (Int32.ofNat (F 1)), sU, sU, sU, sU, sU, sU] [(kR r)]) := fun t k => K1 t (st2 t (by
    refine XS.iloadN X2.here hx rfl (hb hby d_cn_4) rfl ?_
    refine ialW X2 hx hZ e2 W0 (i := 2) rfl (j := (1 : Int32)) (k := 1) (by decide) (by decide) (by decide) (v := (.int (Int32.ofNat (F 1)))) (hF 1 (by decide)) (g := (mkF m 5 #[sR r, sI 1, sI 1, sU, sU, sU, sU, sU, sU, sU] [(kI 1), (kR fcm)])) rfl rfl (hb hby d_cn_5) _ ?_
    refine XS.istoreN X2.here hx rfl (hb hby d_cn_6) rfl (l' := #[sR r, sI 1, sI 1, sI (Int32.ofNat (F 1)), sU, sU, sU, sU, sU, sU]) rfl ?_
    refine XS.aloadN X2.here hx rfl (hb hby d_cn_7) rfl rfl ?_
    exact k))
  obtain ⟨T4, X4, e4, st4⟩ := getF X2 hx hZ hown (host := "") (Or.inl (hw _ (mi 33 rfl))) Via.refl e2 (W0.fld (i := 0) rfl (j := 8) rfl rfl) (g := K3.g) rfl rfl (hb hby d_cn_8)
  have K5 : Rch p e below s₁ F0 T4 (mkF m 23 #[sR r, sI 1, sI 1, sI (Int32.ofNat (F 1)), sI (Int32.ofNat ((F 2) - (F 1))), sI (-1), sU, sU, sU, sU] [(kR r)]) := fun t k => K3 t (st4 t (by
    refine XS.iloadN X4.here hx rfl (hb hby d_cn_11) rfl ?_
    refine XS.iconst X4.here hx rfl (hb hby d_cn_12) ?_
    refine XS.iadd X4.here hx rfl (hb hby d_cn_13) rfl ?_
    refine ialW X4 hx hZ e4 W0 (i := 2) rfl (j := (2 : Int32)) (k := 2) (by decide) (by decide) (by decide) (v := (.int (Int32.ofNat (F 2)))) (hF 2 (by decide)) (g := (mkF m 14 #[sR r, sI 1, sI 1, sI (Int32.ofNat (F 1)), sU, sU, sU, sU, sU, sU] [(kI 2), (kR fcm)])) rfl rfl (hb hby d_cn_14) _ ?_
    refine XS.iloadN X4.here hx rfl (hb hby d_cn_15) rfl ?_
    refine XS.isub X4.here hx rfl (hb hby d_cn_16) rfl ?_
    show Steps p.tables e below (T4.setTop (mkF m 17 #[sR r, sI 1, sI 1, sI (Int32.ofNat (F 1)), sU, sU, sU, sU, sU, sU] [(kI ((Int32.ofNat (F 2)) - (Int32.ofNat (F 1))))])) _
    rw [own_sub (hM 1 (by decide)) (Nat.lt_of_le_of_lt (hB 2 (by decide)) (by decide))]
    show Steps p.tables e below (T4.setTop (mkF m 17 #[sR r, sI 1, sI 1, sI (Int32.ofNat (F 1)), sU, sU, sU, sU, sU, sU] [(kI (Int32.ofNat ((F 2) - (F 1))))])) _
    refine XS.istore X4.here hx rfl (hb hby d_cn_17) rfl (l' := #[sR r, sI 1, sI 1, sI (Int32.ofNat (F 1)), sI (Int32.ofNat ((F 2) - (F 1))), sU, sU, sU, sU, sU]) rfl ?_
    refine XS.iconst X4.here hx rfl (hb hby d_cn_19) ?_
    refine XS.istore X4.here hx rfl (hb hby d_cn_20) rfl (l' := #[sR r, sI 1, sI 1, sI (Int32.ofNat (F 1)), sI (Int32.ofNat ((F 2) - (F 1))), sI (-1), sU, sU, sU, sU]) rfl ?_
    refine XS.aloadN X4.here hx rfl (hb hby d_cn_22) rfl rfl ?_
    exact k))
  obtain ⟨T6, X6, e6, st6⟩ := getF X4 hx hZ hown (host := "") (Or.inl (hw _ (mi 23 rfl))) Via.refl e4 (W0.fld (i := 0) rfl (j := 3) rfl rfl) (g := K5.g) rfl rfl (hb hby d_cn_23)
  have K7 : Rch p e below s₁ F0 T6 (mkF m 30 #[sR r, sI 1, sI 1, sI (Int32.ofNat (F 1)), sI (Int32.ofNat ((F 2) - (F 1))), sI (-1), sI 2, sU, sU, sU] []) := fun t k => K5 t (st6 t (by
    refine XS.iloadN X6.here hx rfl (hb hby d_cn_26) rfl ?_
    refine ialW X6 hx hZ e6 W0 (i := 1) rfl (j := (1 : Int32)) (k := 1) (by decide) (by decide) (by decide) (v := (.int (2 : Int32))) hh0 (g := (mkF m 27 #[sR r, sI 1, sI 1, sI (Int32.ofNat (F 1)), sI (Int32.ofNat ((F 2) - (F 1))), sI (-1), sU, sU, sU, sU] [(kI 1), (kR fch)])) rfl rfl (hb hby d_cn_27) _ ?_
    refine XS.istore X6.here hx rfl (hb hby d_cn_28) rfl (l' := #[sR r, sI 1, sI 1, sI (Int32.ofNat (F 1)), sI (Int32.ofNat ((F 2) - (F 1))), sI (-1), sI 2, sU, sU, sU]) rfl ?_
    exact k))
  have K8 : Rch p e below s₁ F0 T6 (mkF m 33 #[sR r, sI 1, sI 1, sI (Int32.ofNat (F 1)), sI (Int32.ofNat ((F 2) - (F 1))), sI (-1), sI 2, sU, sU, sU] [(kR r), (kI 2)]) := fun t k => K7 t (by
    refine XS.iload X6.here hx rfl (hb hby d_cn_30) rfl ?_
    refine XS.aloadN X6.here hx rfl (hb hby d_cn_32) rfl rfl ?_
    exact k)
  obtain ⟨T9, X9, e9, st9⟩ := getF X6 hx hZ hown (host := "") (Or.inl (hw _ (mi 23 rfl))) Via.refl e6 (W0.fld (i := 0) rfl (j := 3) rfl rfl) (g := K8.g) rfl rfl (hb hby d_cn_33)
  have K10 : Rch p e below s₁ F0 T9 (mkF m 49 #[sR r, sI 1, sI 1, sI (Int32.ofNat (F 1)), sI (Int32.ofNat ((F 2) - (F 1))), sI (-1), sI 2, sU, sU, sU] [(kR r)]) := fun t k => K8 t (st9 t (by
    refine XS.iloadN X9.here hx rfl (hb hby d_cn_36) rfl ?_
    refine XS.iconst X9.here hx rfl (hb hby d_cn_37) ?_
    refine XS.iadd X9.here hx rfl (hb hby d_cn_38) rfl ?_
    refine ialW X9 hx hZ e9 W0 (i := 1) rfl (j := (2 : Int32)) (k := 2) (by decide) (by decide) (by decide) (v := (.int (3 : Int32))) hh1 (g := (mkF m 39 #[sR r, sI 1, sI 1, sI (Int32.ofNat (F 1)), sI (Int32.ofNat ((F 2) - (F 1))), sI (-1), sI 2, sU, sU, sU] [(kI 2), (kR fch), (kI 2)])) rfl rfl (hb hby d_cn_39) _ ?_
    refine XS.icmpNo X9.here hx rfl (hb hby d_cn_40) rfl (by decide) ?_
    refine XS.iload X9.here hx rfl (hb hby d_cn_43) rfl ?_
    show Steps p.tables e below (T9.setTop (mkF m 45 #[sR r, sI 1, sI 1, sI (Int32.ofNat (F 1)), sI (Int32.ofNat ((F 2) - (F 1))), sI (-1), sI 2, sU, sU, sU] [(kI (-1))])) _
    refine XS.ifNo X9.here hx rfl (hb hby d_cn_45) rfl (by decide) ?_
    refine XS.aloadN X9.here hx rfl (hb hby d_cn_48) rfl rfl ?_
    exact k))
  obtain ⟨T11, X11, e11, st11⟩ := getF X9 hx hZ hown (host := "") (Or.inl (hw _ (mi 33 rfl))) Via.refl e9 (W0.fld (i := 0) rfl (j := 8) rfl rfl) (g := K10.g) rfl rfl (hb hby d_cn_49)
  have K12 : Rch p e below s₁ F0 T11 (mkF m 58 #[sR r, sI 1, sI 1, sI (Int32.ofNat (F 1)), sI (Int32.ofNat ((F 2) - (F 1))), sI (-1), sI 2, sI (Int32.ofNat (F 2)), sU, sU] [(kR r)]) := fun t k => K10 t (st11 t (by
    refine XS.iload X11.here hx rfl (hb hby d_cn_52) rfl ?_
    refine ialW X11 hx hZ e11 W0 (i := 2) rfl (j := (2 : Int32)) (k := 2) (by decide) (by decide) (by decide) (v := (.int (Int32.ofNat (F 2)))) (hF 2 (by decide)) (g := (mkF m 54 #[sR r, sI 1, sI 1, sI (Int32.ofNat (F 1)), sI (Int32.ofNat ((F 2) - (F 1))), sI (-1), sI 2, sU, sU, sU] [(kI 2), (kR fcm)])) rfl rfl (hb hby d_cn_54) _ ?_
    refine XS.istore X11.here hx rfl (hb hby d_cn_55) rfl (l' := #[sR r, sI 1, sI 1, sI (Int32.ofNat (F 1)), sI (Int32.ofNat ((F 2) - (F 1))), sI (-1), sI 2, sI (Int32.ofNat (F 2)), sU, sU]) rfl ?_
    refine XS.aloadN X11.here hx rfl (hb hby d_cn_57) rfl rfl ?_
    exact k))
  obtain ⟨T13, X13, e13, st13⟩ := getF X11 hx hZ hown (host := "") (Or.inl (hw _ (mi 33 rfl))) Via.refl e11 (W0.fld (i := 0) rfl (j := 8) rfl rfl) (g := K12.g) rfl rfl (hb hby d_cn_58)
  have K14 : Rch p e below s₁ F0 T13 (mkF m 71 #[sR r, sI 1, sI 1, sI (Int32.ofNat (F 1)), sI (Int32.ofNat ((F 2) - (F 1))), sI (-1), sI 2, sI (Int32.ofNat (F 2)), sU, sU] [(kI (Int32.ofNat ((F 2) - (F 1)))), (kI (Int32.ofNat ((F 3) - (F 2))))]) := fun t k => K12 t (st13 t (by
    refine XS.iload X13.here hx rfl (hb hby d_cn_61) rfl ?_
    refine XS.iconst X13.here hx rfl (hb hby d_cn_63) ?_
    refine XS.iadd X13.here hx rfl (hb hby d_cn_64) rfl ?_
    refine ialW X13 hx hZ e13 W0 (i := 2) rfl (j := (3 : Int32)) (k := 3) (by decide) (by decide) (by decide) (v := (.int (Int32.ofNat (F 3)))) (hF 3 (by decide)) (g := (mkF m 65 #[sR r, sI 1, sI 1, sI (Int32.ofNat (F 1)), sI (Int32.ofNat ((F 2) - (F 1))), sI (-1), sI 2, sI (Int32.ofNat (F 2)), sU, sU] [(kI 3), (kR fcm)])) rfl rfl (hb hby d_cn_65) _ ?_
    refine XS.iload X13.here hx rfl (hb hby d_cn_66) rfl ?_
    refine XS.isub X13.here hx rfl (hb hby d_cn_68) rfl ?_
    show Steps p.tables e below (T13.setTop (mkF m 69 #[sR r, sI 1, sI 1, sI (Int32.ofNat (F 1)), sI (Int32.ofNat ((F 2) - (F 1))), sI (-1), sI 2, sI (Int32.ofNat (F 2)), sU, sU] [(kI ((Int32.ofNat (F 3)) - (Int32.ofNat (F 2))))])) _
    rw [own_sub (hM 2 (by decide)) (Nat.lt_of_le_of_lt (hB 3 (by decide)) (by decide))]
    show Steps p.tables e below (T13.setTop (mkF m 69 #[sR r, sI 1, sI 1, sI (Int32.ofNat (F 1)), sI (Int32.ofNat ((F 2) - (F 1))), sI (-1), sI 2, sI (Int32.ofNat (F 2)), sU, sU] [(kI (Int32.ofNat ((F 3) - (F 2))))])) _
    refine XS.iload X13.here hx rfl (hb hby d_cn_69) rfl ?_
    exact k))
  have K15 : Rch p e below s₁ F0 T13 (mkF m 79 #[sR r, sI 1, sI 1, sI (Int32.ofNat (F 1)), sI (Int32.ofNat ((F 2) - (F 1))), sI (-1), sI 2, sI (Int32.ofNat (F 2)), sU, sU] [(kI (own_bi (decide (F 3 - F 2 = F 2 - F 1))))]) := fun t k => K14 t (by
    by_cases hq : F 3 - F 2 = F 2 - F 1
    · rw [show own_bi (decide (F 3 - F 2 = F 2 - F 1)) = 1 from by rw [decide_eq_true hq]; rfl] at k
      refine XS.icmpNo X13.here hx rfl (hb hby d_cn_71) rfl (teq (congrArg Int32.ofNat hq)).2 ?_
      refine XS.iconst X13.here hx rfl (hb hby d_cn_74) ?_
      refine XS.goto X13.here hx rfl (pc0 := 75) (pc' := 79) rfl (hb hby d_cn_75) (by decide) (by decide) ?_
      exact k
    · rw [show own_bi (decide (F 3 - F 2 = F 2 - F 1)) = 0 from by rw [decide_eq_false hq]; rfl] at k
      refine XS.icmpYes X13.here hx rfl (pc0 := 71) (pc' := 78) rfl (hb hby d_cn_71) rfl (feq (own_ne hq (by omega) (by omega))).2 (by decide) (by decide) ?_
      refine XS.iconst X13.here hx rfl (hb hby d_cn_78) ?_
      exact k)
  have K16 : Rch p e below s₁ F0 T13 (mkF m 84 #[sR r, sI 1, sI 1, sI (Int32.ofNat (F 1)), sI (Int32.ofNat ((F 2) - (F 1))), sI (-1), sI 2, sI (Int32.ofNat (F 2)), sI (own_bi (decide (F 3 - F 2 = F 2 - F 1))), sI 0] []) := fun t k => K15 t (by
    refine XS.istore X13.here hx rfl (hb hby d_cn_79) rfl (l' := #[sR r, sI 1, sI 1, sI (Int32.ofNat (F 1)), sI (Int32.ofNat ((F 2) - (F 1))), sI (-1), sI 2, sI (Int32.ofNat (F 2)), sI (own_bi (decide (F 3 - F 2 = F 2 - F 1))), sU]) rfl ?_
    refine XS.iconst X13.here hx rfl (hb hby d_cn_81) ?_
    refine XS.istore X13.here hx rfl (hb hby d_cn_82) rfl (l' := #[sR r, sI 1, sI 1, sI (Int32.ofNat (F 1)), sI (Int32.ofNat ((F 2) - (F 1))), sI (-1), sI 2, sI (Int32.ofNat (F 2)), sI (own_bi (decide (F 3 - F 2 = F 2 - F 1))), sI 0]) rfl ?_
    exact k)
  have W17 : Wo n0 h0 ((r, oR Z [(kR ks), (kR rgs), (kR ns), (kR fch), (kR fk), (kR kl), (kR frg), (kR fac), (kR fcm), (kR ftr), (kR acs), (kR cms), (kR sus), (kR prb), (kI shc), .null, (kI rwc)]) :: (cms, Ar Z .int 16 gc) :: (fch, Ar Z .int 17 gh) :: (fcm, Ar Z .int 17 gf) :: Rr) := Wo.pick W0 [0, 3, 1, 2] 4 (by decide +kernel) rfl
  obtain ⟨T18, i18, X18, e18, K18⟩ := own_inner r ks rgs ns fch fk kl frg fac fcm ftr acs cms sus prb shc rwc gc (F 2) (F 1) (F 2 - F 1) (.val (.int (1 : Int32))) (.val (.int (1 : Int32))) (.val (.int (-1 : Int32))) (.val (.int (2 : Int32))) ((fch, Ar Z .int 17 gh) :: (fcm, Ar Z .int 17 gf) :: Rr) hx hZ hw hby hml hown W17 (by omega) (by omega) (F 2 - F 1) 0 (decide (F 3 - F 2 = F 2 - F 1)) T13 (by omega) X13 e13 K16
  have K19 : Rch p e below s₁ F0 T18 (mkF m 133 #[sR r, sI 1, sI 1, sI (Int32.ofNat (F 1)), sI (Int32.ofNat ((F 2) - (F 1))), sI (-1), sI 2, sI (Int32.ofNat (F 2)), sI (own_bi (own_nm gc F 2 1)), sI i18] [(kI (own_bi (own_nm gc F 2 1)))]) := fun t k => K18 t (XS.iload X18.here hx rfl (hb hby d_cn_131) rfl k)
  have K20 : Rch p e below s₁ F0 T18 (mkF m 142 #[sR r, sI 1, sI 1, sI (Int32.ofNat (F 1)), sI (Int32.ofNat ((F 2) - (F 1))), sI (-1), sI 2, sI (Int32.ofNat (F 2)), sI (own_bi (own_nm gc F 2 1)), sI i18] [(kI (own_fd (own_nm gc F 2 1) (2 : Int32)))]) := fun t k => K19 t (by
    by_cases hq : (own_nm gc F 2 1) = true
    · rw [show own_fd (own_nm gc F 2 1) (2 : Int32) = (2 : Int32) from by rw [hq]; rfl] at k
      refine XS.ifNo X18.here hx rfl (hb hby d_cn_133) rfl ((if0 _ _).trans (feq (show ¬ (own_bi (own_nm gc F 2 1) = 0) from by rw [hq]; decide)).1) ?_
      refine XS.iload X18.here hx rfl (hb hby d_cn_136) rfl ?_
      refine XS.goto X18.here hx rfl (pc0 := 138) (pc' := 142) rfl (hb hby d_cn_138) (by decide) (by decide) ?_
      exact k
    · rw [show own_fd (own_nm gc F 2 1) (2 : Int32) = (-1 : Int32) from by rw [Bool.eq_false_iff.mpr hq]; rfl] at k
      refine XS.ifYes X18.here hx rfl (pc0 := 133) (pc' := 141) rfl (hb hby d_cn_133) rfl ((if0 _ _).trans (teq (show own_bi (own_nm gc F 2 1) = 0 from by rw [Bool.eq_false_iff.mpr hq]; rfl)).1) (by decide) (by decide) ?_
      refine XS.iconst X18.here hx rfl (hb hby d_cn_141) ?_
      exact k)
  have K21 : Rch p e below s₁ F0 T18 (mkF m 30 #[sR r, sI 1, sI 1, sI (Int32.ofNat (F 1)), sI (Int32.ofNat ((F 2) - (F 1))), sI (own_fd (own_nm gc F 2 1) (2 : Int32)), sI 3, sI (Int32.ofNat (F 2)), sI (own_bi (own_nm gc F 2 1)), sI i18] []) := fun t k => K20 t (by
    refine XS.istore X18.here hx rfl (hb hby d_cn_142) rfl (l' := #[sR r, sI 1, sI 1, sI (Int32.ofNat (F 1)), sI (Int32.ofNat ((F 2) - (F 1))), sI (own_fd (own_nm gc F 2 1) (2 : Int32)), sI 2, sI (Int32.ofNat (F 2)), sI (own_bi (own_nm gc F 2 1)), sI i18]) rfl ?_
    refine XS.iinc X18.here hx rfl (hb hby d_cn_144) rfl (l' := #[sR r, sI 1, sI 1, sI (Int32.ofNat (F 1)), sI (Int32.ofNat ((F 2) - (F 1))), sI (own_fd (own_nm gc F 2 1) (2 : Int32)), sI 3, sI (Int32.ofNat (F 2)), sI (own_bi (own_nm gc F 2 1)), sI i18]) rfl ?_
    refine XS.goto X18.here hx rfl (pc0 := 147) (pc' := 30) rfl (hb hby d_cn_147) (by decide) (by decide) ?_
    exact k)
  have K22 : Rch p e below s₁ F0 T18 (mkF m 33 #[sR r, sI 1, sI 1, sI (Int32.ofNat (F 1)), sI (Int32.ofNat ((F 2) - (F 1))), sI (own_fd (own_nm gc F 2 1) (2 : Int32)), sI 3, sI (Int32.ofNat (F 2)), sI (own_bi (own_nm gc F 2 1)), sI i18] [(kR r), (kI 3)]) := fun t k => K21 t (by
    refine XS.iload X18.here hx rfl (hb hby d_cn_30) rfl ?_
    refine XS.aloadN X18.here hx rfl (hb hby d_cn_32) rfl rfl ?_
    exact k)
  obtain ⟨T23, X23, e23, st23⟩ := getF X18 hx hZ hown (host := "") (Or.inl (hw _ (mi 23 rfl))) Via.refl e18 (W17.fld (i := 0) rfl (j := 3) rfl rfl) (g := K22.g) rfl rfl (hb hby d_cn_33)
  have K24 : Rch p e below s₁ F0 T23 (mkF m 152 #[sR r, sI 1, sI 1, sI (Int32.ofNat (F 1)), sI (Int32.ofNat ((F 2) - (F 1))), sI (own_fd (own_nm gc F 2 1) (2 : Int32)), sI 3, sI (Int32.ofNat (F 2)), sI (own_bi (own_nm gc F 2 1)), sI i18] [(kI (own_fd (own_nm gc F 2 1) (2 : Int32)))]) := fun t k => K22 t (st23 t (by
    refine XS.iloadN X23.here hx rfl (hb hby d_cn_36) rfl ?_
    refine XS.iconst X23.here hx rfl (hb hby d_cn_37) ?_
    refine XS.iadd X23.here hx rfl (hb hby d_cn_38) rfl ?_
    refine ialW X23 hx hZ e23 W17 (i := 2) rfl (j := (2 : Int32)) (k := 2) (by decide) (by decide) (by decide) (v := (.int (3 : Int32))) hh1 (g := (mkF m 39 #[sR r, sI 1, sI 1, sI (Int32.ofNat (F 1)), sI (Int32.ofNat ((F 2) - (F 1))), sI (own_fd (own_nm gc F 2 1) (2 : Int32)), sI 3, sI (Int32.ofNat (F 2)), sI (own_bi (own_nm gc F 2 1)), sI i18] [(kI 2), (kR fch), (kI 3)])) rfl rfl (hb hby d_cn_39) _ ?_
    refine XS.icmpYes X23.here hx rfl (pc0 := 40) (pc' := 150) rfl (hb hby d_cn_40) rfl (by decide) (by decide) (by decide) ?_
    refine XS.iload X23.here hx rfl (hb hby d_cn_150) rfl ?_
    exact k))
  obtain ⟨fs, hr, hrun, hended, hWm, hsame⟩ := X23.leave (v := some (.int (own_fd (own_nm gc F 2 1) (2 : Int32)))) (fun h => by rw [Bd.returns] at h; cases h)
  refine ⟨_, _, pre0 _ (K24 _ (retI X23 hx Bd.returns (hb hby d_cn_152) hr)), hrun, hended, _, _, rfl, ?_, ⟨_, rfl⟩, hWm, hsame.mono (by decide) (by decide)⟩
  show QrmCN11 Z r ks rgs ns fch fk kl frg fac fcm ftr acs cms sus prb shc rwc gh gf gc F Rr n0 _ T23.heap _
  rw [e23]
  exact ⟨rfl, N0, W17⟩
theorem ef_rmCN01 (m : MethodId) (r ks rgs ns fch fk kl frg fac fcm ftr acs cms sus prb : Addr) (shc rwc : Int32) (gh gf gc : Nat → Value) (F : Nat → Nat) : entryFrame m #[(.ref r), (.int (0 : Int32)), (.int (1 : Int32))] 10 = mkF m 0 #[.val (.ref r), .val (.int (0 : Int32)), .val (.int (1 : Int32)), .unset, .unset, .unset, .unset, .unset, .unset, .unset] [] := by first | (simp [entryFrame, mkF, argsToLocals, Value.category]; done) | rfl
def QrmCN01 (Z : State) (r ks rgs ns fch fk kl frg fac fcm ftr acs cms sus prb : Addr) (shc rwc : Int32) (gh gf gc : Nat → Value) (F : Nat → Nat) (Rr : List (Addr × (Cell → Prop))) (n0 : Nat) (v : Option Value) (h : Heap) (L : List Loc) : Prop := v = some (.int (if own_nm gc F 0 1 = true then (0 : Int32) else own_fd (own_nm gc F 1 1) (1 : Int32))) ∧ Fr n0 L ∧ Wo n0 h ((r, oR Z [(kR ks), (kR rgs), (kR ns), (kR fch), (kR fk), (kR kl), (kR frg), (kR fac), (kR fcm), (kR ftr), (kR acs), (kR cms), (kR sus), (kR prb), (kI shc), .null, (kI rwc)]) :: (cms, Ar Z .int 16 gc) :: (fch, Ar Z .int 17 gh) :: (fcm, Ar Z .int 17 gf) :: Rr)
set_option maxRecDepth 65536 in
set_option maxHeartbeats 40000000 in
theorem rmCN01 (l : Launch) (Z : State) (a0 : Array Value) (hw : ∀ d ∈ tables_1, d.before a0 Z = true) (ws : List Jvm.Cond) (r ks rgs ns fch fk kl frg fac fcm ftr acs cms sus prb : Addr) (shc rwc : Int32) (gh gf gc : Nat → Value) (F : Nat → Nat) (Rr : List (Addr × (Cell → Prop))) (h0 : Heap) (n0 : Nat) (W0 : Wo n0 h0 ((r, oR Z [(kR ks), (kR rgs), (kR ns), (kR fch), (kR fk), (kR kl), (kR frg), (kR fac), (kR fcm), (kR ftr), (kR acs), (kR cms), (kR sus), (kR prb), (kI shc), .null, (kI rwc)]) :: (fch, Ar Z .int 17 gh) :: (fcm, Ar Z .int 17 gf) :: (cms, Ar Z .int 16 gc) :: Rr)) (hh0 : gh 0 = .int 0) (hh1 : gh 1 = .int 2) (hF : ∀ k, k ≤ 3 → gf k = .int (Int32.ofNat (F k))) (hB : ∀ k, k ≤ 3 → F k ≤ 6) (hM : ∀ k, k < 3 → F k ≤ F (k + 1)) :
    MetFree l (⟨"com/example/sambre/sambre/engine/Rows", "choiceNamedAs", "(II)I"⟩ : MethodName) (head1 (Jvm.Cond.code (⟨"com/example/sambre/sambre/engine/Rows", "choiceNamedAs", "(II)I"⟩ : MethodName) prog_87_method_34_code 10 (some .int) :: ws) ({ frames := 0, cells := 0, slots := 0, locals := 0 } : Room)) (fun aa U => aa = #[(.ref r), (.int (0 : Int32)), (.int (1 : Int32))] ∧ Z.Warmed39 U.vm ∧ U.heap = h0) (fun _ _ _ _ _ => True) (fun _ U ou U' => ∃ v L, ou = .returned v ∧ QrmCN01 Z r ks rgs ns fch fk kl frg fac fcm ftr acs cms sus prb shc rwc gh gf gc F Rr n0 v U'.heap L ∧ FrameEnd U ou U' L ({ frames := 0, cells := 0, slots := 0, locals := 0 } : Room).cells ({ frames := 0, cells := 0, slots := 0, locals := 0 } : Room).slots) := by
  refine MetFree.of_bodySF (plainFor_of_name pn_Rows) hisR ?_
  intro p e s m args below meth c s₁ Bd hml0 hP hK
  obtain ⟨rfl, hZ, hh⟩ := hP
  have hx := Bd.exec
  have hby := Bd.bytes
  have hml : c.maxLocals = 10 := hml0
  have hown : s.vm.findClass "com/example/sambre/sambre/engine/Rows" = some m.cls := findClass_of_methodNamed Bd.named
  have hnm := (name_of_methodNamed Bd.named Bd.method).1
  have X0 : Stand p l e ({ frames := 0, cells := 0, slots := 0, locals := 0 } : Room) s m #[(.ref r), (.int (0 : Int32)), (.int (1 : Int32))] below meth c s₁ [] 0 0 := Stand.of_body Bd
  have e0 : s₁.heap = h0 := by rw [← hh, Bd.state]; rfl
  have N0 := Fr.nil n0
  obtain ⟨F0, hF0⟩ : ∃ F, F = mkF m 0 #[.val (.ref r), .val (.int (0 : Int32)), .val (.int (1 : Int32)), .unset, .unset, .unset, .unset, .unset, .unset, .unset] [] := ⟨_, rfl⟩
  have pre0 : ∀ t, Steps p.tables e below (s₁.setTop F0) t → Steps p.tables e below (s₁.setTop (entryFrame m #[(.ref r), (.int (0 : Int32)), (.int (1 : Int32))] 10)) t := fun t k => castTop ((ef_rmCN01 m r ks rgs ns fch fk kl frg fac fcm ftr acs cms sus prb shc rwc gh gf gc F).trans hF0.symm) k
  have K0 : Rch p e below s₁ F0 s₁ (mkF m 0 #[.val (.ref r), .val (.int (0 : Int32)), .val (.int (1 : Int32)), .unset, .unset, .unset, .unset, .unset, .unset, .unset] []) := fun t k => castTop hF0 k
  have hb0 := hB 0 (by decide)
  have hb1 := hB 1 (by decide)
  have hb2 := hB 2 (by decide)
  have hb3 := hB 3 (by decide)
  have hm0 := hM 0 (by decide)
  have hm1 := hM 1 (by decide)
  have hm2 := hM 2 (by decide)
  simp only [Nat.zero_add, Nat.reduceAdd] at hm0 hm1 hm2
  have K1 : Rch p e below s₁ F0 s₁ (mkF m 1 #[sR r, sI 0, sI 1, sU, sU, sU, sU, sU, sU, sU] [(kR r)]) := fun t k => K0 t (XS.aloadN X0.here hx rfl (hb hby d_cn_0) rfl rfl k)
  obtain ⟨T2, X2, e2, st2⟩ := getF X0 hx hZ hown (host := "") (Or.inl (hw _ (mi 33 rfl))) Via.refl e0 (W0.fld (i := 0) rfl (j := 8) rfl rfl) (g := K1.g) rfl rfl (hb hby d_cn_1)
  have K3 : Rch p e below s₁ F0 T2 (mkF m 8 #[sR r, sI 0, sI 1, sI (Int32.ofNat (F 1)), sU, sU, sU, sU, sU, sU] [(kR r)]) := fun t k => K1 t (st2 t (by
    refine XS.iloadN X2.here hx rfl (hb hby d_cn_4) rfl ?_
    refine ialW X2 hx hZ e2 W0 (i := 2) rfl (j := (1 : Int32)) (k := 1) (by decide) (by decide) (by decide) (v := (.int (Int32.ofNat (F 1)))) (hF 1 (by decide)) (g := (mkF m 5 #[sR r, sI 0, sI 1, sU, sU, sU, sU, sU, sU, sU] [(kI 1), (kR fcm)])) rfl rfl (hb hby d_cn_5) _ ?_
    refine XS.istoreN X2.here hx rfl (hb hby d_cn_6) rfl (l' := #[sR r, sI 0, sI 1, sI (Int32.ofNat (F 1)), sU, sU, sU, sU, sU, sU]) rfl ?_
    refine XS.aloadN X2.here hx rfl (hb hby d_cn_7) rfl rfl ?_
    exact k))
  obtain ⟨T4, X4, e4, st4⟩ := getF X2 hx hZ hown (host := "") (Or.inl (hw _ (mi 33 rfl))) Via.refl e2 (W0.fld (i := 0) rfl (j := 8) rfl rfl) (g := K3.g) rfl rfl (hb hby d_cn_8)
  have K5 : Rch p e below s₁ F0 T4 (mkF m 23 #[sR r, sI 0, sI 1, sI (Int32.ofNat (F 1)), sI (Int32.ofNat ((F 2) - (F 1))), sI (-1), sU, sU, sU, sU] [(kR r)]) := fun t k => K3 t (st4 t (by
    refine XS.iloadN X4.here hx rfl (hb hby d_cn_11) rfl ?_
    refine XS.iconst X4.here hx rfl (hb hby d_cn_12) ?_
    refine XS.iadd X4.here hx rfl (hb hby d_cn_13) rfl ?_
    refine ialW X4 hx hZ e4 W0 (i := 2) rfl (j := (2 : Int32)) (k := 2) (by decide) (by decide) (by decide) (v := (.int (Int32.ofNat (F 2)))) (hF 2 (by decide)) (g := (mkF m 14 #[sR r, sI 0, sI 1, sI (Int32.ofNat (F 1)), sU, sU, sU, sU, sU, sU] [(kI 2), (kR fcm)])) rfl rfl (hb hby d_cn_14) _ ?_
    refine XS.iloadN X4.here hx rfl (hb hby d_cn_15) rfl ?_
    refine XS.isub X4.here hx rfl (hb hby d_cn_16) rfl ?_
    show Steps p.tables e below (T4.setTop (mkF m 17 #[sR r, sI 0, sI 1, sI (Int32.ofNat (F 1)), sU, sU, sU, sU, sU, sU] [(kI ((Int32.ofNat (F 2)) - (Int32.ofNat (F 1))))])) _
    rw [own_sub (hM 1 (by decide)) (Nat.lt_of_le_of_lt (hB 2 (by decide)) (by decide))]
    show Steps p.tables e below (T4.setTop (mkF m 17 #[sR r, sI 0, sI 1, sI (Int32.ofNat (F 1)), sU, sU, sU, sU, sU, sU] [(kI (Int32.ofNat ((F 2) - (F 1))))])) _
    refine XS.istore X4.here hx rfl (hb hby d_cn_17) rfl (l' := #[sR r, sI 0, sI 1, sI (Int32.ofNat (F 1)), sI (Int32.ofNat ((F 2) - (F 1))), sU, sU, sU, sU, sU]) rfl ?_
    refine XS.iconst X4.here hx rfl (hb hby d_cn_19) ?_
    refine XS.istore X4.here hx rfl (hb hby d_cn_20) rfl (l' := #[sR r, sI 0, sI 1, sI (Int32.ofNat (F 1)), sI (Int32.ofNat ((F 2) - (F 1))), sI (-1), sU, sU, sU, sU]) rfl ?_
    refine XS.aloadN X4.here hx rfl (hb hby d_cn_22) rfl rfl ?_
    exact k))
  obtain ⟨T6, X6, e6, st6⟩ := getF X4 hx hZ hown (host := "") (Or.inl (hw _ (mi 23 rfl))) Via.refl e4 (W0.fld (i := 0) rfl (j := 3) rfl rfl) (g := K5.g) rfl rfl (hb hby d_cn_23)
  have K7 : Rch p e below s₁ F0 T6 (mkF m 30 #[sR r, sI 0, sI 1, sI (Int32.ofNat (F 1)), sI (Int32.ofNat ((F 2) - (F 1))), sI (-1), sI 0, sU, sU, sU] []) := fun t k => K5 t (st6 t (by
    refine XS.iloadN X6.here hx rfl (hb hby d_cn_26) rfl ?_
    refine ialW X6 hx hZ e6 W0 (i := 1) rfl (j := (0 : Int32)) (k := 0) (by decide) (by decide) (by decide) (v := (.int (0 : Int32))) hh0 (g := (mkF m 27 #[sR r, sI 0, sI 1, sI (Int32.ofNat (F 1)), sI (Int32.ofNat ((F 2) - (F 1))), sI (-1), sU, sU, sU, sU] [(kI 0), (kR fch)])) rfl rfl (hb hby d_cn_27) _ ?_
    refine XS.istore X6.here hx rfl (hb hby d_cn_28) rfl (l' := #[sR r, sI 0, sI 1, sI (Int32.ofNat (F 1)), sI (Int32.ofNat ((F 2) - (F 1))), sI (-1), sI 0, sU, sU, sU]) rfl ?_
    exact k))
  have K8 : Rch p e below s₁ F0 T6 (mkF m 33 #[sR r, sI 0, sI 1, sI (Int32.ofNat (F 1)), sI (Int32.ofNat ((F 2) - (F 1))), sI (-1), sI 0, sU, sU, sU] [(kR r), (kI 0)]) := fun t k => K7 t (by
    refine XS.iload X6.here hx rfl (hb hby d_cn_30) rfl ?_
    refine XS.aloadN X6.here hx rfl (hb hby d_cn_32) rfl rfl ?_
    exact k)
  obtain ⟨T9, X9, e9, st9⟩ := getF X6 hx hZ hown (host := "") (Or.inl (hw _ (mi 23 rfl))) Via.refl e6 (W0.fld (i := 0) rfl (j := 3) rfl rfl) (g := K8.g) rfl rfl (hb hby d_cn_33)
  have K10 : Rch p e below s₁ F0 T9 (mkF m 49 #[sR r, sI 0, sI 1, sI (Int32.ofNat (F 1)), sI (Int32.ofNat ((F 2) - (F 1))), sI (-1), sI 0, sU, sU, sU] [(kR r)]) := fun t k => K8 t (st9 t (by
    refine XS.iloadN X9.here hx rfl (hb hby d_cn_36) rfl ?_
    refine XS.iconst X9.here hx rfl (hb hby d_cn_37) ?_
    refine XS.iadd X9.here hx rfl (hb hby d_cn_38) rfl ?_
    refine ialW X9 hx hZ e9 W0 (i := 1) rfl (j := (1 : Int32)) (k := 1) (by decide) (by decide) (by decide) (v := (.int (2 : Int32))) hh1 (g := (mkF m 39 #[sR r, sI 0, sI 1, sI (Int32.ofNat (F 1)), sI (Int32.ofNat ((F 2) - (F 1))), sI (-1), sI 0, sU, sU, sU] [(kI 1), (kR fch), (kI 0)])) rfl rfl (hb hby d_cn_39) _ ?_
    refine XS.icmpNo X9.here hx rfl (hb hby d_cn_40) rfl (by decide) ?_
    refine XS.iload X9.here hx rfl (hb hby d_cn_43) rfl ?_
    show Steps p.tables e below (T9.setTop (mkF m 45 #[sR r, sI 0, sI 1, sI (Int32.ofNat (F 1)), sI (Int32.ofNat ((F 2) - (F 1))), sI (-1), sI 0, sU, sU, sU] [(kI (-1))])) _
    refine XS.ifNo X9.here hx rfl (hb hby d_cn_45) rfl (by decide) ?_
    refine XS.aloadN X9.here hx rfl (hb hby d_cn_48) rfl rfl ?_
    exact k))
  obtain ⟨T11, X11, e11, st11⟩ := getF X9 hx hZ hown (host := "") (Or.inl (hw _ (mi 33 rfl))) Via.refl e9 (W0.fld (i := 0) rfl (j := 8) rfl rfl) (g := K10.g) rfl rfl (hb hby d_cn_49)
  have K12 : Rch p e below s₁ F0 T11 (mkF m 58 #[sR r, sI 0, sI 1, sI (Int32.ofNat (F 1)), sI (Int32.ofNat ((F 2) - (F 1))), sI (-1), sI 0, sI (Int32.ofNat (F 0)), sU, sU] [(kR r)]) := fun t k => K10 t (st11 t (by
    refine XS.iload X11.here hx rfl (hb hby d_cn_52) rfl ?_
    refine ialW X11 hx hZ e11 W0 (i := 2) rfl (j := (0 : Int32)) (k := 0) (by decide) (by decide) (by decide) (v := (.int (Int32.ofNat (F 0)))) (hF 0 (by decide)) (g := (mkF m 54 #[sR r, sI 0, sI 1, sI (Int32.ofNat (F 1)), sI (Int32.ofNat ((F 2) - (F 1))), sI (-1), sI 0, sU, sU, sU] [(kI 0), (kR fcm)])) rfl rfl (hb hby d_cn_54) _ ?_
    refine XS.istore X11.here hx rfl (hb hby d_cn_55) rfl (l' := #[sR r, sI 0, sI 1, sI (Int32.ofNat (F 1)), sI (Int32.ofNat ((F 2) - (F 1))), sI (-1), sI 0, sI (Int32.ofNat (F 0)), sU, sU]) rfl ?_
    refine XS.aloadN X11.here hx rfl (hb hby d_cn_57) rfl rfl ?_
    exact k))
  obtain ⟨T13, X13, e13, st13⟩ := getF X11 hx hZ hown (host := "") (Or.inl (hw _ (mi 33 rfl))) Via.refl e11 (W0.fld (i := 0) rfl (j := 8) rfl rfl) (g := K12.g) rfl rfl (hb hby d_cn_58)
  have K14 : Rch p e below s₁ F0 T13 (mkF m 71 #[sR r, sI 0, sI 1, sI (Int32.ofNat (F 1)), sI (Int32.ofNat ((F 2) - (F 1))), sI (-1), sI 0, sI (Int32.ofNat (F 0)), sU, sU] [(kI (Int32.ofNat ((F 2) - (F 1)))), (kI (Int32.ofNat ((F 1) - (F 0))))]) := fun t k => K12 t (st13 t (by
    refine XS.iload X13.here hx rfl (hb hby d_cn_61) rfl ?_
    refine XS.iconst X13.here hx rfl (hb hby d_cn_63) ?_
    refine XS.iadd X13.here hx rfl (hb hby d_cn_64) rfl ?_
    refine ialW X13 hx hZ e13 W0 (i := 2) rfl (j := (1 : Int32)) (k := 1) (by decide) (by decide) (by decide) (v := (.int (Int32.ofNat (F 1)))) (hF 1 (by decide)) (g := (mkF m 65 #[sR r, sI 0, sI 1, sI (Int32.ofNat (F 1)), sI (Int32.ofNat ((F 2) - (F 1))), sI (-1), sI 0, sI (Int32.ofNat (F 0)), sU, sU] [(kI 1), (kR fcm)])) rfl rfl (hb hby d_cn_65) _ ?_
    refine XS.iload X13.here hx rfl (hb hby d_cn_66) rfl ?_
    refine XS.isub X13.here hx rfl (hb hby d_cn_68) rfl ?_
    show Steps p.tables e below (T13.setTop (mkF m 69 #[sR r, sI 0, sI 1, sI (Int32.ofNat (F 1)), sI (Int32.ofNat ((F 2) - (F 1))), sI (-1), sI 0, sI (Int32.ofNat (F 0)), sU, sU] [(kI ((Int32.ofNat (F 1)) - (Int32.ofNat (F 0))))])) _
    rw [own_sub (hM 0 (by decide)) (Nat.lt_of_le_of_lt (hB 1 (by decide)) (by decide))]
    show Steps p.tables e below (T13.setTop (mkF m 69 #[sR r, sI 0, sI 1, sI (Int32.ofNat (F 1)), sI (Int32.ofNat ((F 2) - (F 1))), sI (-1), sI 0, sI (Int32.ofNat (F 0)), sU, sU] [(kI (Int32.ofNat ((F 1) - (F 0))))])) _
    refine XS.iload X13.here hx rfl (hb hby d_cn_69) rfl ?_
    exact k))
  have K15 : Rch p e below s₁ F0 T13 (mkF m 79 #[sR r, sI 0, sI 1, sI (Int32.ofNat (F 1)), sI (Int32.ofNat ((F 2) - (F 1))), sI (-1), sI 0, sI (Int32.ofNat (F 0)), sU, sU] [(kI (own_bi (decide (F 1 - F 0 = F 2 - F 1))))]) := fun t k => K14 t (by
    by_cases hq : F 1 - F 0 = F 2 - F 1
    · rw [show own_bi (decide (F 1 - F 0 = F 2 - F 1)) = 1 from by rw [decide_eq_true hq]; rfl] at k
      refine XS.icmpNo X13.here hx rfl (hb hby d_cn_71) rfl (teq (congrArg Int32.ofNat hq)).2 ?_
      refine XS.iconst X13.here hx rfl (hb hby d_cn_74) ?_
      refine XS.goto X13.here hx rfl (pc0 := 75) (pc' := 79) rfl (hb hby d_cn_75) (by decide) (by decide) ?_
      exact k
    · rw [show own_bi (decide (F 1 - F 0 = F 2 - F 1)) = 0 from by rw [decide_eq_false hq]; rfl] at k
      refine XS.icmpYes X13.here hx rfl (pc0 := 71) (pc' := 78) rfl (hb hby d_cn_71) rfl (feq (own_ne hq (by omega) (by omega))).2 (by decide) (by decide) ?_
      refine XS.iconst X13.here hx rfl (hb hby d_cn_78) ?_
      exact k)
  have K16 : Rch p e below s₁ F0 T13 (mkF m 84 #[sR r, sI 0, sI 1, sI (Int32.ofNat (F 1)), sI (Int32.ofNat ((F 2) - (F 1))), sI (-1), sI 0, sI (Int32.ofNat (F 0)), sI (own_bi (decide (F 1 - F 0 = F 2 - F 1))), sI 0] []) := fun t k => K15 t (by
    refine XS.istore X13.here hx rfl (hb hby d_cn_79) rfl (l' := #[sR r, sI 0, sI 1, sI (Int32.ofNat (F 1)), sI (Int32.ofNat ((F 2) - (F 1))), sI (-1), sI 0, sI (Int32.ofNat (F 0)), sI (own_bi (decide (F 1 - F 0 = F 2 - F 1))), sU]) rfl ?_
    refine XS.iconst X13.here hx rfl (hb hby d_cn_81) ?_
    refine XS.istore X13.here hx rfl (hb hby d_cn_82) rfl (l' := #[sR r, sI 0, sI 1, sI (Int32.ofNat (F 1)), sI (Int32.ofNat ((F 2) - (F 1))), sI (-1), sI 0, sI (Int32.ofNat (F 0)), sI (own_bi (decide (F 1 - F 0 = F 2 - F 1))), sI 0]) rfl ?_
    exact k)
  have W17 : Wo n0 h0 ((r, oR Z [(kR ks), (kR rgs), (kR ns), (kR fch), (kR fk), (kR kl), (kR frg), (kR fac), (kR fcm), (kR ftr), (kR acs), (kR cms), (kR sus), (kR prb), (kI shc), .null, (kI rwc)]) :: (cms, Ar Z .int 16 gc) :: (fch, Ar Z .int 17 gh) :: (fcm, Ar Z .int 17 gf) :: Rr) := Wo.pick W0 [0, 3, 1, 2] 4 (by decide +kernel) rfl
  obtain ⟨T18, i18, X18, e18, K18⟩ := own_inner r ks rgs ns fch fk kl frg fac fcm ftr acs cms sus prb shc rwc gc (F 0) (F 1) (F 2 - F 1) (.val (.int (0 : Int32))) (.val (.int (1 : Int32))) (.val (.int (-1 : Int32))) (.val (.int (0 : Int32))) ((fch, Ar Z .int 17 gh) :: (fcm, Ar Z .int 17 gf) :: Rr) hx hZ hw hby hml hown W17 (by omega) (by omega) (F 2 - F 1) 0 (decide (F 1 - F 0 = F 2 - F 1)) T13 (by omega) X13 e13 K16
  have K19 : Rch p e below s₁ F0 T18 (mkF m 133 #[sR r, sI 0, sI 1, sI (Int32.ofNat (F 1)), sI (Int32.ofNat ((F 2) - (F 1))), sI (-1), sI 0, sI (Int32.ofNat (F 0)), sI (own_bi (own_nm gc F 0 1)), sI i18] [(kI (own_bi (own_nm gc F 0 1)))]) := fun t k => K18 t (XS.iload X18.here hx rfl (hb hby d_cn_131) rfl k)
  have K20 : Rch p e below s₁ F0 T18 (mkF m 142 #[sR r, sI 0, sI 1, sI (Int32.ofNat (F 1)), sI (Int32.ofNat ((F 2) - (F 1))), sI (-1), sI 0, sI (Int32.ofNat (F 0)), sI (own_bi (own_nm gc F 0 1)), sI i18] [(kI (own_fd (own_nm gc F 0 1) (0 : Int32)))]) := fun t k => K19 t (by
    by_cases hq : (own_nm gc F 0 1) = true
    · rw [show own_fd (own_nm gc F 0 1) (0 : Int32) = (0 : Int32) from by rw [hq]; rfl] at k
      refine XS.ifNo X18.here hx rfl (hb hby d_cn_133) rfl ((if0 _ _).trans (feq (show ¬ (own_bi (own_nm gc F 0 1) = 0) from by rw [hq]; decide)).1) ?_
      refine XS.iload X18.here hx rfl (hb hby d_cn_136) rfl ?_
      refine XS.goto X18.here hx rfl (pc0 := 138) (pc' := 142) rfl (hb hby d_cn_138) (by decide) (by decide) ?_
      exact k
    · rw [show own_fd (own_nm gc F 0 1) (0 : Int32) = (-1 : Int32) from by rw [Bool.eq_false_iff.mpr hq]; rfl] at k
      refine XS.ifYes X18.here hx rfl (pc0 := 133) (pc' := 141) rfl (hb hby d_cn_133) rfl ((if0 _ _).trans (teq (show own_bi (own_nm gc F 0 1) = 0 from by rw [Bool.eq_false_iff.mpr hq]; rfl)).1) (by decide) (by decide) ?_
      refine XS.iconst X18.here hx rfl (hb hby d_cn_141) ?_
      exact k)
  have K21 : Rch p e below s₁ F0 T18 (mkF m 30 #[sR r, sI 0, sI 1, sI (Int32.ofNat (F 1)), sI (Int32.ofNat ((F 2) - (F 1))), sI (own_fd (own_nm gc F 0 1) (0 : Int32)), sI 1, sI (Int32.ofNat (F 0)), sI (own_bi (own_nm gc F 0 1)), sI i18] []) := fun t k => K20 t (by
    refine XS.istore X18.here hx rfl (hb hby d_cn_142) rfl (l' := #[sR r, sI 0, sI 1, sI (Int32.ofNat (F 1)), sI (Int32.ofNat ((F 2) - (F 1))), sI (own_fd (own_nm gc F 0 1) (0 : Int32)), sI 0, sI (Int32.ofNat (F 0)), sI (own_bi (own_nm gc F 0 1)), sI i18]) rfl ?_
    refine XS.iinc X18.here hx rfl (hb hby d_cn_144) rfl (l' := #[sR r, sI 0, sI 1, sI (Int32.ofNat (F 1)), sI (Int32.ofNat ((F 2) - (F 1))), sI (own_fd (own_nm gc F 0 1) (0 : Int32)), sI 1, sI (Int32.ofNat (F 0)), sI (own_bi (own_nm gc F 0 1)), sI i18]) rfl ?_
    refine XS.goto X18.here hx rfl (pc0 := 147) (pc' := 30) rfl (hb hby d_cn_147) (by decide) (by decide) ?_
    exact k)
  by_cases hbb : (own_nm gc F 0 1) = true
  · have hv : own_fd (own_nm gc F 0 1) (0 : Int32) = (0 : Int32) := by rw [hbb]; rfl
    have K22 : Rch p e below s₁ F0 T18 (mkF m 33 #[sR r, sI 0, sI 1, sI (Int32.ofNat (F 1)), sI (Int32.ofNat ((F 2) - (F 1))), sI (own_fd (own_nm gc F 0 1) (0 : Int32)), sI 1, sI (Int32.ofNat (F 0)), sI (own_bi (own_nm gc F 0 1)), sI i18] [(kR r), (kI 1)]) := fun t k => K21 t (by
      refine XS.iload X18.here hx rfl (hb hby d_cn_30) rfl ?_
      refine XS.aloadN X18.here hx rfl (hb hby d_cn_32) rfl rfl ?_
      exact k)
    obtain ⟨T23, X23, e23, st23⟩ := getF X18 hx hZ hown (host := "") (Or.inl (hw _ (mi 23 rfl))) Via.refl e18 (W17.fld (i := 0) rfl (j := 3) rfl rfl) (g := K22.g) rfl rfl (hb hby d_cn_33)
    have K24 : Rch p e below s₁ F0 T23 (mkF m 152 #[sR r, sI 0, sI 1, sI (Int32.ofNat (F 1)), sI (Int32.ofNat ((F 2) - (F 1))), sI (own_fd (own_nm gc F 0 1) (0 : Int32)), sI 1, sI (Int32.ofNat (F 0)), sI (own_bi (own_nm gc F 0 1)), sI i18] [(kI (own_fd (own_nm gc F 0 1) (0 : Int32)))]) := fun t k => K22 t (st23 t (by
      refine XS.iloadN X23.here hx rfl (hb hby d_cn_36) rfl ?_
      refine XS.iconst X23.here hx rfl (hb hby d_cn_37) ?_
      refine XS.iadd X23.here hx rfl (hb hby d_cn_38) rfl ?_
      refine ialW X23 hx hZ e23 W17 (i := 2) rfl (j := (1 : Int32)) (k := 1) (by decide) (by decide) (by decide) (v := (.int (2 : Int32))) hh1 (g := (mkF m 39 #[sR r, sI 0, sI 1, sI (Int32.ofNat (F 1)), sI (Int32.ofNat ((F 2) - (F 1))), sI (own_fd (own_nm gc F 0 1) (0 : Int32)), sI 1, sI (Int32.ofNat (F 0)), sI (own_bi (own_nm gc F 0 1)), sI i18] [(kI 1), (kR fch), (kI 1)])) rfl rfl (hb hby d_cn_39) _ ?_
      refine XS.icmpNo X23.here hx rfl (hb hby d_cn_40) rfl (by decide) ?_
      refine XS.iload X23.here hx rfl (hb hby d_cn_43) rfl ?_
      show Steps p.tables e below (T23.setTop (mkF m 45 #[sR r, sI 0, sI 1, sI (Int32.ofNat (F 1)), sI (Int32.ofNat ((F 2) - (F 1))), sI (own_fd (own_nm gc F 0 1) (0 : Int32)), sI 1, sI (Int32.ofNat (F 0)), sI (own_bi (own_nm gc F 0 1)), sI i18] [(kI (own_fd (own_nm gc F 0 1) (0 : Int32)))])) _
      refine XS.ifYes X23.here hx rfl (pc0 := 45) (pc' := 150) rfl (hb hby d_cn_45) rfl ((if0 _ _).trans (flt (show ¬ (own_fd (own_nm gc F 0 1) (0 : Int32) < 0) from by rw [hv]; decide)).2.1) (by decide) (by decide) ?_
      refine XS.iload X23.here hx rfl (hb hby d_cn_150) rfl ?_
      exact k))
    obtain ⟨fs, hr, hrun, hended, hWm, hsame⟩ := X23.leave (v := some (.int (own_fd (own_nm gc F 0 1) (0 : Int32)))) (fun h => by rw [Bd.returns] at h; cases h)
    refine ⟨_, _, pre0 _ (K24 _ (retI X23 hx Bd.returns (hb hby d_cn_152) hr)), hrun, hended, _, _, rfl, ?_, ⟨_, rfl⟩, hWm, hsame.mono (by decide) (by decide)⟩
    show QrmCN01 Z r ks rgs ns fch fk kl frg fac fcm ftr acs cms sus prb shc rwc gh gf gc F Rr n0 _ T23.heap _
    rw [e23]
    exact ⟨by rw [if_pos hbb, hv], N0, W17⟩
  · have hv : own_fd (own_nm gc F 0 1) (0 : Int32) = (-1 : Int32) := by rw [Bool.eq_false_iff.mpr hbb]; rfl
    rw [hv] at K21
    have K25 : Rch p e below s₁ F0 T18 (mkF m 33 #[sR r, sI 0, sI 1, sI (Int32.ofNat (F 1)), sI (Int32.ofNat ((F 2) - (F 1))), sI (-1), sI 1, sI (Int32.ofNat (F 0)), sI (own_bi (own_nm gc F 0 1)), sI i18] [(kR r), (kI 1)]) := fun t k => K21 t (by
      refine XS.iload X18.here hx rfl (hb hby d_cn_30) rfl ?_
      refine XS.aloadN X18.here hx rfl (hb hby d_cn_32) rfl rfl ?_
      exact k)
    obtain ⟨T26, X26, e26, st26⟩ := getF X18 hx hZ hown (host := "") (Or.inl (hw _ (mi 23 rfl))) Via.refl e18 (W17.fld (i := 0) rfl (j := 3) rfl rfl) (g := K25.g) rfl rfl (hb hby d_cn_33)
    have K27 : Rch p e below s₁ F0 T26 (mkF m 49 #[sR r, sI 0, sI 1, sI (Int32.ofNat (F 1)), sI (Int32.ofNat ((F 2) - (F 1))), sI (-1), sI 1, sI (Int32.ofNat (F 0)), sI (own_bi (own_nm gc F 0 1)), sI i18] [(kR r)]) := fun t k => K25 t (st26 t (by
      refine XS.iloadN X26.here hx rfl (hb hby d_cn_36) rfl ?_
      refine XS.iconst X26.here hx rfl (hb hby d_cn_37) ?_
      refine XS.iadd X26.here hx rfl (hb hby d_cn_38) rfl ?_
      refine ialW X26 hx hZ e26 W17 (i := 2) rfl (j := (1 : Int32)) (k := 1) (by decide) (by decide) (by decide) (v := (.int (2 : Int32))) hh1 (g := (mkF m 39 #[sR r, sI 0, sI 1, sI (Int32.ofNat (F 1)), sI (Int32.ofNat ((F 2) - (F 1))), sI (-1), sI 1, sI (Int32.ofNat (F 0)), sI (own_bi (own_nm gc F 0 1)), sI i18] [(kI 1), (kR fch), (kI 1)])) rfl rfl (hb hby d_cn_39) _ ?_
      refine XS.icmpNo X26.here hx rfl (hb hby d_cn_40) rfl (by decide) ?_
      refine XS.iload X26.here hx rfl (hb hby d_cn_43) rfl ?_
      show Steps p.tables e below (T26.setTop (mkF m 45 #[sR r, sI 0, sI 1, sI (Int32.ofNat (F 1)), sI (Int32.ofNat ((F 2) - (F 1))), sI (-1), sI 1, sI (Int32.ofNat (F 0)), sI (own_bi (own_nm gc F 0 1)), sI i18] [(kI (-1))])) _
      refine XS.ifNo X26.here hx rfl (hb hby d_cn_45) rfl (by decide) ?_
      refine XS.aloadN X26.here hx rfl (hb hby d_cn_48) rfl rfl ?_
      exact k))
    obtain ⟨T28, X28, e28, st28⟩ := getF X26 hx hZ hown (host := "") (Or.inl (hw _ (mi 33 rfl))) Via.refl e26 (W17.fld (i := 0) rfl (j := 8) rfl rfl) (g := K27.g) rfl rfl (hb hby d_cn_49)
    have K29 : Rch p e below s₁ F0 T28 (mkF m 58 #[sR r, sI 0, sI 1, sI (Int32.ofNat (F 1)), sI (Int32.ofNat ((F 2) - (F 1))), sI (-1), sI 1, sI (Int32.ofNat (F 1)), sI (own_bi (own_nm gc F 0 1)), sI i18] [(kR r)]) := fun t k => K27 t (st28 t (by
      refine XS.iload X28.here hx rfl (hb hby d_cn_52) rfl ?_
      refine ialW X28 hx hZ e28 W17 (i := 3) rfl (j := (1 : Int32)) (k := 1) (by decide) (by decide) (by decide) (v := (.int (Int32.ofNat (F 1)))) (hF 1 (by decide)) (g := (mkF m 54 #[sR r, sI 0, sI 1, sI (Int32.ofNat (F 1)), sI (Int32.ofNat ((F 2) - (F 1))), sI (-1), sI 1, sI (Int32.ofNat (F 0)), sI (own_bi (own_nm gc F 0 1)), sI i18] [(kI 1), (kR fcm)])) rfl rfl (hb hby d_cn_54) _ ?_
      refine XS.istore X28.here hx rfl (hb hby d_cn_55) rfl (l' := #[sR r, sI 0, sI 1, sI (Int32.ofNat (F 1)), sI (Int32.ofNat ((F 2) - (F 1))), sI (-1), sI 1, sI (Int32.ofNat (F 1)), sI (own_bi (own_nm gc F 0 1)), sI i18]) rfl ?_
      refine XS.aloadN X28.here hx rfl (hb hby d_cn_57) rfl rfl ?_
      exact k))
    obtain ⟨T30, X30, e30, st30⟩ := getF X28 hx hZ hown (host := "") (Or.inl (hw _ (mi 33 rfl))) Via.refl e28 (W17.fld (i := 0) rfl (j := 8) rfl rfl) (g := K29.g) rfl rfl (hb hby d_cn_58)
    have K31 : Rch p e below s₁ F0 T30 (mkF m 71 #[sR r, sI 0, sI 1, sI (Int32.ofNat (F 1)), sI (Int32.ofNat ((F 2) - (F 1))), sI (-1), sI 1, sI (Int32.ofNat (F 1)), sI (own_bi (own_nm gc F 0 1)), sI i18] [(kI (Int32.ofNat ((F 2) - (F 1)))), (kI (Int32.ofNat ((F 2) - (F 1))))]) := fun t k => K29 t (st30 t (by
      refine XS.iload X30.here hx rfl (hb hby d_cn_61) rfl ?_
      refine XS.iconst X30.here hx rfl (hb hby d_cn_63) ?_
      refine XS.iadd X30.here hx rfl (hb hby d_cn_64) rfl ?_
      refine ialW X30 hx hZ e30 W17 (i := 3) rfl (j := (2 : Int32)) (k := 2) (by decide) (by decide) (by decide) (v := (.int (Int32.ofNat (F 2)))) (hF 2 (by decide)) (g := (mkF m 65 #[sR r, sI 0, sI 1, sI (Int32.ofNat (F 1)), sI (Int32.ofNat ((F 2) - (F 1))), sI (-1), sI 1, sI (Int32.ofNat (F 1)), sI (own_bi (own_nm gc F 0 1)), sI i18] [(kI 2), (kR fcm)])) rfl rfl (hb hby d_cn_65) _ ?_
      refine XS.iload X30.here hx rfl (hb hby d_cn_66) rfl ?_
      refine XS.isub X30.here hx rfl (hb hby d_cn_68) rfl ?_
      show Steps p.tables e below (T30.setTop (mkF m 69 #[sR r, sI 0, sI 1, sI (Int32.ofNat (F 1)), sI (Int32.ofNat ((F 2) - (F 1))), sI (-1), sI 1, sI (Int32.ofNat (F 1)), sI (own_bi (own_nm gc F 0 1)), sI i18] [(kI ((Int32.ofNat (F 2)) - (Int32.ofNat (F 1))))])) _
      rw [own_sub (hM 1 (by decide)) (Nat.lt_of_le_of_lt (hB 2 (by decide)) (by decide))]
      show Steps p.tables e below (T30.setTop (mkF m 69 #[sR r, sI 0, sI 1, sI (Int32.ofNat (F 1)), sI (Int32.ofNat ((F 2) - (F 1))), sI (-1), sI 1, sI (Int32.ofNat (F 1)), sI (own_bi (own_nm gc F 0 1)), sI i18] [(kI (Int32.ofNat ((F 2) - (F 1))))])) _
      refine XS.iload X30.here hx rfl (hb hby d_cn_69) rfl ?_
      exact k))
    have K32 : Rch p e below s₁ F0 T30 (mkF m 79 #[sR r, sI 0, sI 1, sI (Int32.ofNat (F 1)), sI (Int32.ofNat ((F 2) - (F 1))), sI (-1), sI 1, sI (Int32.ofNat (F 1)), sI (own_bi (own_nm gc F 0 1)), sI i18] [(kI (own_bi (decide (F 2 - F 1 = F 2 - F 1))))]) := fun t k => K31 t (by
      by_cases hq : F 2 - F 1 = F 2 - F 1
      · rw [show own_bi (decide (F 2 - F 1 = F 2 - F 1)) = 1 from by rw [decide_eq_true hq]; rfl] at k
        refine XS.icmpNo X30.here hx rfl (hb hby d_cn_71) rfl (teq (congrArg Int32.ofNat hq)).2 ?_
        refine XS.iconst X30.here hx rfl (hb hby d_cn_74) ?_
        refine XS.goto X30.here hx rfl (pc0 := 75) (pc' := 79) rfl (hb hby d_cn_75) (by decide) (by decide) ?_
        exact k
      · rw [show own_bi (decide (F 2 - F 1 = F 2 - F 1)) = 0 from by rw [decide_eq_false hq]; rfl] at k
        refine XS.icmpYes X30.here hx rfl (pc0 := 71) (pc' := 78) rfl (hb hby d_cn_71) rfl (feq (own_ne hq (by omega) (by omega))).2 (by decide) (by decide) ?_
        refine XS.iconst X30.here hx rfl (hb hby d_cn_78) ?_
        exact k)
    have K33 : Rch p e below s₁ F0 T30 (mkF m 84 #[sR r, sI 0, sI 1, sI (Int32.ofNat (F 1)), sI (Int32.ofNat ((F 2) - (F 1))), sI (-1), sI 1, sI (Int32.ofNat (F 1)), sI (own_bi (decide (F 2 - F 1 = F 2 - F 1))), sI 0] []) := fun t k => K32 t (by
      refine XS.istore X30.here hx rfl (hb hby d_cn_79) rfl (l' := #[sR r, sI 0, sI 1, sI (Int32.ofNat (F 1)), sI (Int32.ofNat ((F 2) - (F 1))), sI (-1), sI 1, sI (Int32.ofNat (F 1)), sI (own_bi (decide (F 2 - F 1 = F 2 - F 1))), sI i18]) rfl ?_
      refine XS.iconst X30.here hx rfl (hb hby d_cn_81) ?_
      refine XS.istore X30.here hx rfl (hb hby d_cn_82) rfl (l' := #[sR r, sI 0, sI 1, sI (Int32.ofNat (F 1)), sI (Int32.ofNat ((F 2) - (F 1))), sI (-1), sI 1, sI (Int32.ofNat (F 1)), sI (own_bi (decide (F 2 - F 1 = F 2 - F 1))), sI 0]) rfl ?_
      exact k)
    obtain ⟨T34, i34, X34, e34, K34⟩ := own_inner r ks rgs ns fch fk kl frg fac fcm ftr acs cms sus prb shc rwc gc (F 1) (F 1) (F 2 - F 1) (.val (.int (0 : Int32))) (.val (.int (1 : Int32))) (.val (.int (-1 : Int32))) (.val (.int (1 : Int32))) ((fch, Ar Z .int 17 gh) :: (fcm, Ar Z .int 17 gf) :: Rr) hx hZ hw hby hml hown W17 (by omega) (by omega) (F 2 - F 1) 0 (decide (F 2 - F 1 = F 2 - F 1)) T30 (by omega) X30 e30 K33
    have K35 : Rch p e below s₁ F0 T34 (mkF m 133 #[sR r, sI 0, sI 1, sI (Int32.ofNat (F 1)), sI (Int32.ofNat ((F 2) - (F 1))), sI (-1), sI 1, sI (Int32.ofNat (F 1)), sI (own_bi (own_nm gc F 1 1)), sI i34] [(kI (own_bi (own_nm gc F 1 1)))]) := fun t k => K34 t (XS.iload X34.here hx rfl (hb hby d_cn_131) rfl k)
    have K36 : Rch p e below s₁ F0 T34 (mkF m 142 #[sR r, sI 0, sI 1, sI (Int32.ofNat (F 1)), sI (Int32.ofNat ((F 2) - (F 1))), sI (-1), sI 1, sI (Int32.ofNat (F 1)), sI (own_bi (own_nm gc F 1 1)), sI i34] [(kI (own_fd (own_nm gc F 1 1) (1 : Int32)))]) := fun t k => K35 t (by
      by_cases hq : (own_nm gc F 1 1) = true
      · rw [show own_fd (own_nm gc F 1 1) (1 : Int32) = (1 : Int32) from by rw [hq]; rfl] at k
        refine XS.ifNo X34.here hx rfl (hb hby d_cn_133) rfl ((if0 _ _).trans (feq (show ¬ (own_bi (own_nm gc F 1 1) = 0) from by rw [hq]; decide)).1) ?_
        refine XS.iload X34.here hx rfl (hb hby d_cn_136) rfl ?_
        refine XS.goto X34.here hx rfl (pc0 := 138) (pc' := 142) rfl (hb hby d_cn_138) (by decide) (by decide) ?_
        exact k
      · rw [show own_fd (own_nm gc F 1 1) (1 : Int32) = (-1 : Int32) from by rw [Bool.eq_false_iff.mpr hq]; rfl] at k
        refine XS.ifYes X34.here hx rfl (pc0 := 133) (pc' := 141) rfl (hb hby d_cn_133) rfl ((if0 _ _).trans (teq (show own_bi (own_nm gc F 1 1) = 0 from by rw [Bool.eq_false_iff.mpr hq]; rfl)).1) (by decide) (by decide) ?_
        refine XS.iconst X34.here hx rfl (hb hby d_cn_141) ?_
        exact k)
    have K37 : Rch p e below s₁ F0 T34 (mkF m 30 #[sR r, sI 0, sI 1, sI (Int32.ofNat (F 1)), sI (Int32.ofNat ((F 2) - (F 1))), sI (own_fd (own_nm gc F 1 1) (1 : Int32)), sI 2, sI (Int32.ofNat (F 1)), sI (own_bi (own_nm gc F 1 1)), sI i34] []) := fun t k => K36 t (by
      refine XS.istore X34.here hx rfl (hb hby d_cn_142) rfl (l' := #[sR r, sI 0, sI 1, sI (Int32.ofNat (F 1)), sI (Int32.ofNat ((F 2) - (F 1))), sI (own_fd (own_nm gc F 1 1) (1 : Int32)), sI 1, sI (Int32.ofNat (F 1)), sI (own_bi (own_nm gc F 1 1)), sI i34]) rfl ?_
      refine XS.iinc X34.here hx rfl (hb hby d_cn_144) rfl (l' := #[sR r, sI 0, sI 1, sI (Int32.ofNat (F 1)), sI (Int32.ofNat ((F 2) - (F 1))), sI (own_fd (own_nm gc F 1 1) (1 : Int32)), sI 2, sI (Int32.ofNat (F 1)), sI (own_bi (own_nm gc F 1 1)), sI i34]) rfl ?_
      refine XS.goto X34.here hx rfl (pc0 := 147) (pc' := 30) rfl (hb hby d_cn_147) (by decide) (by decide) ?_
      exact k)
    have K38 : Rch p e below s₁ F0 T34 (mkF m 33 #[sR r, sI 0, sI 1, sI (Int32.ofNat (F 1)), sI (Int32.ofNat ((F 2) - (F 1))), sI (own_fd (own_nm gc F 1 1) (1 : Int32)), sI 2, sI (Int32.ofNat (F 1)), sI (own_bi (own_nm gc F 1 1)), sI i34] [(kR r), (kI 2)]) := fun t k => K37 t (by
      refine XS.iload X34.here hx rfl (hb hby d_cn_30) rfl ?_
      refine XS.aloadN X34.here hx rfl (hb hby d_cn_32) rfl rfl ?_
      exact k)
    obtain ⟨T39, X39, e39, st39⟩ := getF X34 hx hZ hown (host := "") (Or.inl (hw _ (mi 23 rfl))) Via.refl e34 (W17.fld (i := 0) rfl (j := 3) rfl rfl) (g := K38.g) rfl rfl (hb hby d_cn_33)
    have K40 : Rch p e below s₁ F0 T39 (mkF m 152 #[sR r, sI 0, sI 1, sI (Int32.ofNat (F 1)), sI (Int32.ofNat ((F 2) - (F 1))), sI (own_fd (own_nm gc F 1 1) (1 : Int32)), sI 2, sI (Int32.ofNat (F 1)), sI (own_bi (own_nm gc F 1 1)), sI i34] [(kI (own_fd (own_nm gc F 1 1) (1 : Int32)))]) := fun t k => K38 t (st39 t (by
      refine XS.iloadN X39.here hx rfl (hb hby d_cn_36) rfl ?_
      refine XS.iconst X39.here hx rfl (hb hby d_cn_37) ?_
      refine XS.iadd X39.here hx rfl (hb hby d_cn_38) rfl ?_
      refine ialW X39 hx hZ e39 W17 (i := 2) rfl (j := (1 : Int32)) (k := 1) (by decide) (by decide) (by decide) (v := (.int (2 : Int32))) hh1 (g := (mkF m 39 #[sR r, sI 0, sI 1, sI (Int32.ofNat (F 1)), sI (Int32.ofNat ((F 2) - (F 1))), sI (own_fd (own_nm gc F 1 1) (1 : Int32)), sI 2, sI (Int32.ofNat (F 1)), sI (own_bi (own_nm gc F 1 1)), sI i34] [(kI 1), (kR fch), (kI 2)])) rfl rfl (hb hby d_cn_39) _ ?_
      refine XS.icmpYes X39.here hx rfl (pc0 := 40) (pc' := 150) rfl (hb hby d_cn_40) rfl (by decide) (by decide) (by decide) ?_
      refine XS.iload X39.here hx rfl (hb hby d_cn_150) rfl ?_
      exact k))
    obtain ⟨fs, hr, hrun, hended, hWm, hsame⟩ := X39.leave (v := some (.int (own_fd (own_nm gc F 1 1) (1 : Int32)))) (fun h => by rw [Bd.returns] at h; cases h)
    refine ⟨_, _, pre0 _ (K40 _ (retI X39 hx Bd.returns (hb hby d_cn_152) hr)), hrun, hended, _, _, rfl, ?_, ⟨_, rfl⟩, hWm, hsame.mono (by decide) (by decide)⟩
    show QrmCN01 Z r ks rgs ns fch fk kl frg fac fcm ftr acs cms sus prb shc rwc gh gf gc F Rr n0 _ T39.heap _
    rw [e39]
    exact ⟨by rw [if_neg hbb], N0, W17⟩
theorem pd_pk : parseMethodDescriptor "(IIII)I" = some ⟨[.int, .int, .int, .int], some .int⟩ := by decide +kernel
theorem d_pk_0 : decode method_2_code 0 = .ok (.iload_n 0, 1) := by decide +kernel
theorem d_pk_1 : decode method_2_code 1 = .ok (.iload_n 1, 1) := by decide +kernel
theorem d_pk_2 : decode method_2_code 2 = .ok (.iushr, 1) := by decide +kernel
theorem d_pk_3 : decode method_2_code 3 = .ok (.iconst 1, 1) := by decide +kernel
theorem d_pk_4 : decode method_2_code 4 = .ok (.iand, 1) := by decide +kernel
theorem d_pk_5 : decode method_2_code 5 = .ok (.ifCond .ne 7, 3) := by decide +kernel
theorem d_pk_8 : decode method_2_code 8 = .ok (.iload_n 2, 1) := by decide +kernel
theorem d_pk_9 : decode method_2_code 9 = .ok (.goto 4, 3) := by decide +kernel
theorem d_pk_12 : decode method_2_code 12 = .ok (.iload_n 3, 1) := by decide +kernel
theorem d_pk_13 : decode method_2_code 13 = .ok (.ireturn, 1) := by decide +kernel
theorem ef_rmPK (m : MethodId) (q kk x y : Int32) : entryFrame m #[(.int q), (.int kk), (.int x), (.int y)] 4 = mkF m 0 #[.val (.int q), .val (.int kk), .val (.int x), .val (.int y)] [] := by first | (simp [entryFrame, mkF, argsToLocals, Value.category]; done) | rfl
def QrmPK (Z : State) (q kk x y : Int32) (Rr : List (Addr × (Cell → Prop))) (n0 : Nat) (v : Option Value) (h : Heap) (L : List Loc) : Prop := ∃ z : Int32, v = some (.int z) ∧ Fr n0 L ∧ Wo n0 h Rr
set_option maxRecDepth 65536 in
set_option maxHeartbeats 40000000 in
theorem rmPK (l : Launch) (Z : State) (a0 : Array Value) (hw : ∀ d ∈ tables_1, d.before a0 Z = true) (ws : List Jvm.Cond) (q kk x y : Int32) (Rr : List (Addr × (Cell → Prop))) (h0 : Heap) (n0 : Nat) (W0 : Wo n0 h0 (Rr)) :
    MetFree l (⟨"com/example/sambre/sambre/engine/RowsChoiceNamedAsPinLaw", "pick", "(IIII)I"⟩ : MethodName) (head1 (Jvm.Cond.code (⟨"com/example/sambre/sambre/engine/RowsChoiceNamedAsPinLaw", "pick", "(IIII)I"⟩ : MethodName) method_2_code 4 (some .int) :: ws) ({ frames := 0, cells := 0, slots := 0, locals := 0 } : Room)) (fun aa U => aa = #[(.int q), (.int kk), (.int x), (.int y)] ∧ Z.Warmed39 U.vm ∧ U.heap = h0) (fun _ _ _ _ _ => True) (fun _ U ou U' => ∃ v L, ou = .returned v ∧ QrmPK Z q kk x y Rr n0 v U'.heap L ∧ FrameEnd U ou U' L ({ frames := 0, cells := 0, slots := 0, locals := 0 } : Room).cells ({ frames := 0, cells := 0, slots := 0, locals := 0 } : Room).slots) := by
  refine MetFree.of_bodySF (plainFor_of_name pn_RowsChoiceNamedAsPinLaw) hisR ?_
  intro p e s m args below meth c s₁ Bd hml0 hP hK
  obtain ⟨rfl, hZ, hh⟩ := hP
  have hx := Bd.exec
  have hby := Bd.bytes
  have hml : c.maxLocals = 4 := hml0
  have hown : s.vm.findClass "com/example/sambre/sambre/engine/RowsChoiceNamedAsPinLaw" = some m.cls := findClass_of_methodNamed Bd.named
  have hnm := (name_of_methodNamed Bd.named Bd.method).1
  have X0 : Stand p l e ({ frames := 0, cells := 0, slots := 0, locals := 0 } : Room) s m #[(.int q), (.int kk), (.int x), (.int y)] below meth c s₁ [] 0 0 := Stand.of_body Bd
  have e0 : s₁.heap = h0 := by rw [← hh, Bd.state]; rfl
  have N0 := Fr.nil n0
  obtain ⟨F0, hF0⟩ : ∃ F, F = mkF m 0 #[.val (.int q), .val (.int kk), .val (.int x), .val (.int y)] [] := ⟨_, rfl⟩
  have pre0 : ∀ t, Steps p.tables e below (s₁.setTop F0) t → Steps p.tables e below (s₁.setTop (entryFrame m #[(.int q), (.int kk), (.int x), (.int y)] 4)) t := fun t k => castTop ((ef_rmPK m q kk x y).trans hF0.symm) k
  have K0 : Rch p e below s₁ F0 s₁ (mkF m 0 #[.val (.int q), .val (.int kk), .val (.int x), .val (.int y)] []) := fun t k => castTop hF0 k
  have K1 : Rch p e below s₁ F0 s₁ (mkF m 5 #[sI q, sI kk, sI x, sI y] [(kI (((q).toUInt32 >>> (kk &&& 31).toUInt32).toInt32 &&& (1 : Int32)))]) := fun t k => K0 t (by
    refine XS.iloadN X0.here hx rfl (hb hby d_pk_0) rfl ?_
    refine XS.iloadN X0.here hx rfl (hb hby d_pk_1) rfl ?_
    refine XS.iushr X0.here hx rfl (hb hby d_pk_2) rfl ?_
    refine XS.iconst X0.here hx rfl (hb hby d_pk_3) ?_
    refine XS.iand X0.here hx rfl (hb hby d_pk_4) rfl ?_
    exact k)
  by_cases hq : (((q).toUInt32 >>> (kk &&& 31).toUInt32).toInt32 &&& (1 : Int32)) = (0 : Int32)
  · have hz := hZ
    have K2 : Rch p e below s₁ F0 s₁ (mkF m 13 #[sI q, sI kk, sI x, sI y] [(kI x)]) := fun t k => K1 t (by
      refine XS.ifNo X0.here hx rfl (hb hby d_pk_5) rfl ((if0 _ _).trans (teq hq).2) ?_
      refine XS.iloadN X0.here hx rfl (hb hby d_pk_8) rfl ?_
      refine XS.goto X0.here hx rfl (pc0 := 9) (pc' := 13) rfl (hb hby d_pk_9) (by decide) (by decide) ?_
      exact k)
    obtain ⟨fs, hr, hrun, hended, hWm, hsame⟩ := X0.leave (v := some (.int x)) (fun h => by rw [Bd.returns] at h; cases h)
    refine ⟨_, _, pre0 _ (K2 _ (retI X0 hx Bd.returns (hb hby d_pk_13) hr)), hrun, hended, _, _, rfl, ?_, ⟨_, rfl⟩, hWm, hsame.mono (by decide) (by decide)⟩
    show QrmPK Z q kk x y Rr n0 _ s₁.heap _
    rw [e0]
    exact ⟨x, rfl, N0, W0⟩
  · have hz := hZ
    have K3 : Rch p e below s₁ F0 s₁ (mkF m 13 #[sI q, sI kk, sI x, sI y] [(kI y)]) := fun t k => K1 t (by
      refine XS.ifYes X0.here hx rfl (pc0 := 5) (pc' := 12) rfl (hb hby d_pk_5) rfl ((if0 _ _).trans (feq hq).2) (by decide) (by decide) ?_
      refine XS.iloadN X0.here hx rfl (hb hby d_pk_12) rfl ?_
      exact k)
    obtain ⟨fs, hr, hrun, hended, hWm, hsame⟩ := X0.leave (v := some (.int y)) (fun h => by rw [Bd.returns] at h; cases h)
    refine ⟨_, _, pre0 _ (K3 _ (retI X0 hx Bd.returns (hb hby d_pk_13) hr)), hrun, hended, _, _, rfl, ?_, ⟨_, rfl⟩, hWm, hsame.mono (by decide) (by decide)⟩
    show QrmPK Z q kk x y Rr n0 _ s₁.heap _
    rw [e0]
    exact ⟨y, rfl, N0, W0⟩
theorem pd_sm : parseMethodDescriptor "(IIIIII)Z" = some ⟨[.int, .int, .int, .int, .int, .int], some .boolean⟩ := by decide +kernel
def own_sm (u : Nat) (a b : Int32) (u' : Nat) (a' b' : Int32) : Bool := decide (u = u' ∧ (u < 1 ∨ a = a') ∧ (u < 2 ∨ b = b'))
theorem d_sm_0 : decode method_3_code 0 = .ok (.iload_n 0, 1) := by decide +kernel
theorem d_sm_1 : decode method_3_code 1 = .ok (.iload_n 3, 1) := by decide +kernel
theorem d_sm_2 : decode method_3_code 2 = .ok (.if_icmp .ne 29, 3) := by decide +kernel
theorem d_sm_5 : decode method_3_code 5 = .ok (.iload_n 0, 1) := by decide +kernel
theorem d_sm_6 : decode method_3_code 6 = .ok (.iconst 1, 1) := by decide +kernel
theorem d_sm_7 : decode method_3_code 7 = .ok (.if_icmp .lt 9, 3) := by decide +kernel
theorem d_sm_10 : decode method_3_code 10 = .ok (.iload_n 1, 1) := by decide +kernel
theorem d_sm_11 : decode method_3_code 11 = .ok (.iload 4, 2) := by decide +kernel
theorem d_sm_13 : decode method_3_code 13 = .ok (.if_icmp .ne 18, 3) := by decide +kernel
theorem d_sm_16 : decode method_3_code 16 = .ok (.iload_n 0, 1) := by decide +kernel
theorem d_sm_17 : decode method_3_code 17 = .ok (.iconst 2, 1) := by decide +kernel
theorem d_sm_18 : decode method_3_code 18 = .ok (.if_icmp .lt 9, 3) := by decide +kernel
theorem d_sm_21 : decode method_3_code 21 = .ok (.iload_n 2, 1) := by decide +kernel
theorem d_sm_22 : decode method_3_code 22 = .ok (.iload 5, 2) := by decide +kernel
theorem d_sm_24 : decode method_3_code 24 = .ok (.if_icmp .ne 7, 3) := by decide +kernel
theorem d_sm_27 : decode method_3_code 27 = .ok (.iconst 1, 1) := by decide +kernel
theorem d_sm_28 : decode method_3_code 28 = .ok (.goto 4, 3) := by decide +kernel
theorem d_sm_31 : decode method_3_code 31 = .ok (.iconst 0, 1) := by decide +kernel
theorem d_sm_32 : decode method_3_code 32 = .ok (.ireturn, 1) := by decide +kernel
theorem ef_rmSM (m : MethodId) (u : Nat) (a b : Int32) (u' : Nat) (a' b' : Int32) : entryFrame m #[(.int (Int32.ofNat u)), (.int a), (.int b), (.int (Int32.ofNat u')), (.int a'), (.int b')] 6 = mkF m 0 #[.val (.int (Int32.ofNat u)), .val (.int a), .val (.int b), .val (.int (Int32.ofNat u')), .val (.int a'), .val (.int b')] [] := by first | (simp [entryFrame, mkF, argsToLocals, Value.category]; done) | rfl
def QrmSM (Z : State) (u : Nat) (a b : Int32) (u' : Nat) (a' b' : Int32) (Rr : List (Addr × (Cell → Prop))) (n0 : Nat) (v : Option Value) (h : Heap) (L : List Loc) : Prop := v = some (.int (own_bi (own_sm u a b u' a' b'))) ∧ Fr n0 L ∧ Wo n0 h Rr
set_option maxRecDepth 65536 in
set_option maxHeartbeats 40000000 in
theorem rmSM (l : Launch) (Z : State) (a0 : Array Value) (hw : ∀ d ∈ tables_1, d.before a0 Z = true) (ws : List Jvm.Cond) (u : Nat) (a b : Int32) (u' : Nat) (a' b' : Int32) (Rr : List (Addr × (Cell → Prop))) (h0 : Heap) (n0 : Nat) (W0 : Wo n0 h0 (Rr)) (hu : u ≤ 2) (hu' : u' ≤ 2) :
    MetFree l (⟨"com/example/sambre/sambre/engine/RowsChoiceNamedAsPinLaw", "same", "(IIIIII)Z"⟩ : MethodName) (head1 (Jvm.Cond.code (⟨"com/example/sambre/sambre/engine/RowsChoiceNamedAsPinLaw", "same", "(IIIIII)Z"⟩ : MethodName) method_3_code 6 (some .boolean) :: ws) ({ frames := 0, cells := 0, slots := 0, locals := 0 } : Room)) (fun aa U => aa = #[(.int (Int32.ofNat u)), (.int a), (.int b), (.int (Int32.ofNat u')), (.int a'), (.int b')] ∧ Z.Warmed39 U.vm ∧ U.heap = h0) (fun _ _ _ _ _ => True) (fun _ U ou U' => ∃ v L, ou = .returned v ∧ QrmSM Z u a b u' a' b' Rr n0 v U'.heap L ∧ FrameEnd U ou U' L ({ frames := 0, cells := 0, slots := 0, locals := 0 } : Room).cells ({ frames := 0, cells := 0, slots := 0, locals := 0 } : Room).slots) := by
  refine MetFree.of_bodySF (plainFor_of_name pn_RowsChoiceNamedAsPinLaw) hisR ?_
  intro p e s m args below meth c s₁ Bd hml0 hP hK
  obtain ⟨rfl, hZ, hh⟩ := hP
  have hx := Bd.exec
  have hby := Bd.bytes
  have hml : c.maxLocals = 6 := hml0
  have hown : s.vm.findClass "com/example/sambre/sambre/engine/RowsChoiceNamedAsPinLaw" = some m.cls := findClass_of_methodNamed Bd.named
  have hnm := (name_of_methodNamed Bd.named Bd.method).1
  have X0 : Stand p l e ({ frames := 0, cells := 0, slots := 0, locals := 0 } : Room) s m #[(.int (Int32.ofNat u)), (.int a), (.int b), (.int (Int32.ofNat u')), (.int a'), (.int b')] below meth c s₁ [] 0 0 := Stand.of_body Bd
  have e0 : s₁.heap = h0 := by rw [← hh, Bd.state]; rfl
  have N0 := Fr.nil n0
  obtain ⟨F0, hF0⟩ : ∃ F, F = mkF m 0 #[.val (.int (Int32.ofNat u)), .val (.int a), .val (.int b), .val (.int (Int32.ofNat u')), .val (.int a'), .val (.int b')] [] := ⟨_, rfl⟩
  have pre0 : ∀ t, Steps p.tables e below (s₁.setTop F0) t → Steps p.tables e below (s₁.setTop (entryFrame m #[(.int (Int32.ofNat u)), (.int a), (.int b), (.int (Int32.ofNat u')), (.int a'), (.int b')] 6)) t := fun t k => castTop ((ef_rmSM m u a b u' a' b').trans hF0.symm) k
  have K0 : Rch p e below s₁ F0 s₁ (mkF m 0 #[.val (.int (Int32.ofNat u)), .val (.int a), .val (.int b), .val (.int (Int32.ofNat u')), .val (.int a'), .val (.int b')] []) := fun t k => castTop hF0 k
  have K1 : Rch p e below s₁ F0 s₁ (mkF m 2 #[sI (Int32.ofNat u), sI a, sI b, sI (Int32.ofNat u'), sI a', sI b'] [(kI (Int32.ofNat u')), (kI (Int32.ofNat u))]) := fun t k => K0 t (by
    refine XS.iloadN X0.here hx rfl (hb hby d_sm_0) rfl ?_
    refine XS.iloadN X0.here hx rfl (hb hby d_sm_1) rfl ?_
    exact k)
  by_cases h1 : u = u'
  · have e1 := congrArg Int32.ofNat h1
    have K2 : Rch p e below s₁ F0 s₁ (mkF m 7 #[sI (Int32.ofNat u), sI a, sI b, sI (Int32.ofNat u'), sI a', sI b'] [(kI 1), (kI (Int32.ofNat u))]) := fun t k => K1 t (by
      refine XS.icmpNo X0.here hx rfl (hb hby d_sm_2) rfl (teq e1).2 ?_
      refine XS.iloadN X0.here hx rfl (hb hby d_sm_5) rfl ?_
      refine XS.iconst X0.here hx rfl (hb hby d_sm_6) ?_
      exact k)
    by_cases h2 : u < 1
    · have e2 := own_lt (b := 1) h2 (by decide)
      have K3 : Rch p e below s₁ F0 s₁ (mkF m 32 #[sI (Int32.ofNat u), sI a, sI b, sI (Int32.ofNat u'), sI a', sI b'] [(kI 1)]) := fun t k => K2 t (by
        refine XS.icmpYes X0.here hx rfl (pc0 := 7) (pc' := 16) rfl (hb hby d_sm_7) rfl (tlt e2).1 (by decide) (by decide) ?_
        refine XS.iloadN X0.here hx rfl (hb hby d_sm_16) rfl ?_
        refine XS.iconst X0.here hx rfl (hb hby d_sm_17) ?_
        refine XS.icmpYes X0.here hx rfl (pc0 := 18) (pc' := 27) rfl (hb hby d_sm_18) rfl (tlt (own_lt (b := 2) (show u < 2 by omega) (by decide))).1 (by decide) (by decide) ?_
        refine XS.iconst X0.here hx rfl (hb hby d_sm_27) ?_
        refine XS.goto X0.here hx rfl (pc0 := 28) (pc' := 32) rfl (hb hby d_sm_28) (by decide) (by decide) ?_
        exact k)
      obtain ⟨fs, hr, hrun, hended, hWm, hsame⟩ := X0.leave (v := some (.int (1 : Int32))) (fun h => by rw [Bd.returns] at h; cases h)
      refine ⟨_, _, pre0 _ (K3 _ (retN X0 hx (t := .boolean) Bd.returns (by simp) (hb hby d_sm_32) hr)), hrun, hended, _, _, rfl, ?_, ⟨_, rfl⟩, hWm, hsame.mono (by decide) (by decide)⟩
      show QrmSM Z u a b u' a' b' Rr n0 _ s₁.heap _
      rw [e0]
      exact ⟨by rw [show own_sm u a b u' a' b' = true from decide_eq_true ⟨h1, Or.inl h2, Or.inl (by omega)⟩]; rfl, N0, W0⟩
    · have e2 := own_nlt (a := u) (b := 1) (by omega) (by omega)
      have K4 : Rch p e below s₁ F0 s₁ (mkF m 13 #[sI (Int32.ofNat u), sI a, sI b, sI (Int32.ofNat u'), sI a', sI b'] [(kI a'), (kI a)]) := fun t k => K2 t (by
        refine XS.icmpNo X0.here hx rfl (hb hby d_sm_7) rfl (flt e2).1 ?_
        refine XS.iloadN X0.here hx rfl (hb hby d_sm_10) rfl ?_
        refine XS.iload X0.here hx rfl (hb hby d_sm_11) rfl ?_
        exact k)
      by_cases h3 : a = a'
      · have e3 := h3
        have K5 : Rch p e below s₁ F0 s₁ (mkF m 18 #[sI (Int32.ofNat u), sI a, sI b, sI (Int32.ofNat u'), sI a', sI b'] [(kI 2), (kI (Int32.ofNat u))]) := fun t k => K4 t (by
          refine XS.icmpNo X0.here hx rfl (hb hby d_sm_13) rfl (teq h3).2 ?_
          refine XS.iloadN X0.here hx rfl (hb hby d_sm_16) rfl ?_
          refine XS.iconst X0.here hx rfl (hb hby d_sm_17) ?_
          exact k)
        by_cases h4 : u < 2
        · have e4 := own_lt (b := 2) h4 (by decide)
          have K6 : Rch p e below s₁ F0 s₁ (mkF m 32 #[sI (Int32.ofNat u), sI a, sI b, sI (Int32.ofNat u'), sI a', sI b'] [(kI 1)]) := fun t k => K5 t (by
            refine XS.icmpYes X0.here hx rfl (pc0 := 18) (pc' := 27) rfl (hb hby d_sm_18) rfl (tlt e4).1 (by decide) (by decide) ?_
            refine XS.iconst X0.here hx rfl (hb hby d_sm_27) ?_
            refine XS.goto X0.here hx rfl (pc0 := 28) (pc' := 32) rfl (hb hby d_sm_28) (by decide) (by decide) ?_
            exact k)
          obtain ⟨fs, hr, hrun, hended, hWm, hsame⟩ := X0.leave (v := some (.int (1 : Int32))) (fun h => by rw [Bd.returns] at h; cases h)
          refine ⟨_, _, pre0 _ (K6 _ (retN X0 hx (t := .boolean) Bd.returns (by simp) (hb hby d_sm_32) hr)), hrun, hended, _, _, rfl, ?_, ⟨_, rfl⟩, hWm, hsame.mono (by decide) (by decide)⟩
          show QrmSM Z u a b u' a' b' Rr n0 _ s₁.heap _
          rw [e0]
          exact ⟨by rw [show own_sm u a b u' a' b' = true from decide_eq_true ⟨h1, Or.inr h3, Or.inl h4⟩]; rfl, N0, W0⟩
        · have e4 := own_nlt (a := u) (b := 2) (by omega) (by omega)
          have K7 : Rch p e below s₁ F0 s₁ (mkF m 24 #[sI (Int32.ofNat u), sI a, sI b, sI (Int32.ofNat u'), sI a', sI b'] [(kI b'), (kI b)]) := fun t k => K5 t (by
            refine XS.icmpNo X0.here hx rfl (hb hby d_sm_18) rfl (flt e4).1 ?_
            refine XS.iloadN X0.here hx rfl (hb hby d_sm_21) rfl ?_
            refine XS.iload X0.here hx rfl (hb hby d_sm_22) rfl ?_
            exact k)
          by_cases h5 : b = b'
          · have e5 := h5
            have K8 : Rch p e below s₁ F0 s₁ (mkF m 32 #[sI (Int32.ofNat u), sI a, sI b, sI (Int32.ofNat u'), sI a', sI b'] [(kI 1)]) := fun t k => K7 t (by
              refine XS.icmpNo X0.here hx rfl (hb hby d_sm_24) rfl (teq h5).2 ?_
              refine XS.iconst X0.here hx rfl (hb hby d_sm_27) ?_
              refine XS.goto X0.here hx rfl (pc0 := 28) (pc' := 32) rfl (hb hby d_sm_28) (by decide) (by decide) ?_
              exact k)
            obtain ⟨fs, hr, hrun, hended, hWm, hsame⟩ := X0.leave (v := some (.int (1 : Int32))) (fun h => by rw [Bd.returns] at h; cases h)
            refine ⟨_, _, pre0 _ (K8 _ (retN X0 hx (t := .boolean) Bd.returns (by simp) (hb hby d_sm_32) hr)), hrun, hended, _, _, rfl, ?_, ⟨_, rfl⟩, hWm, hsame.mono (by decide) (by decide)⟩
            show QrmSM Z u a b u' a' b' Rr n0 _ s₁.heap _
            rw [e0]
            exact ⟨by rw [show own_sm u a b u' a' b' = true from decide_eq_true ⟨h1, Or.inr h3, Or.inr h5⟩]; rfl, N0, W0⟩
          · have e5 := h5
            have K9 : Rch p e below s₁ F0 s₁ (mkF m 32 #[sI (Int32.ofNat u), sI a, sI b, sI (Int32.ofNat u'), sI a', sI b'] [(kI 0)]) := fun t k => K7 t (by
              refine XS.icmpYes X0.here hx rfl (pc0 := 24) (pc' := 31) rfl (hb hby d_sm_24) rfl (feq h5).2 (by decide) (by decide) ?_
              refine XS.iconst X0.here hx rfl (hb hby d_sm_31) ?_
              exact k)
            obtain ⟨fs, hr, hrun, hended, hWm, hsame⟩ := X0.leave (v := some (.int (0 : Int32))) (fun h => by rw [Bd.returns] at h; cases h)
            refine ⟨_, _, pre0 _ (K9 _ (retN X0 hx (t := .boolean) Bd.returns (by simp) (hb hby d_sm_32) hr)), hrun, hended, _, _, rfl, ?_, ⟨_, rfl⟩, hWm, hsame.mono (by decide) (by decide)⟩
            show QrmSM Z u a b u' a' b' Rr n0 _ s₁.heap _
            rw [e0]
            exact ⟨by rw [show own_sm u a b u' a' b' = false from decide_eq_false (fun q => h5 (q.2.2.resolve_left h4))]; rfl, N0, W0⟩
      · have e3 := h3
        have K10 : Rch p e below s₁ F0 s₁ (mkF m 32 #[sI (Int32.ofNat u), sI a, sI b, sI (Int32.ofNat u'), sI a', sI b'] [(kI 0)]) := fun t k => K4 t (by
          refine XS.icmpYes X0.here hx rfl (pc0 := 13) (pc' := 31) rfl (hb hby d_sm_13) rfl (feq h3).2 (by decide) (by decide) ?_
          refine XS.iconst X0.here hx rfl (hb hby d_sm_31) ?_
          exact k)
        obtain ⟨fs, hr, hrun, hended, hWm, hsame⟩ := X0.leave (v := some (.int (0 : Int32))) (fun h => by rw [Bd.returns] at h; cases h)
        refine ⟨_, _, pre0 _ (K10 _ (retN X0 hx (t := .boolean) Bd.returns (by simp) (hb hby d_sm_32) hr)), hrun, hended, _, _, rfl, ?_, ⟨_, rfl⟩, hWm, hsame.mono (by decide) (by decide)⟩
        show QrmSM Z u a b u' a' b' Rr n0 _ s₁.heap _
        rw [e0]
        exact ⟨by rw [show own_sm u a b u' a' b' = false from decide_eq_false (fun q => h3 (q.2.1.resolve_left h2))]; rfl, N0, W0⟩
  · have e1 := own_ne h1 (by omega) (by omega)
    have K11 : Rch p e below s₁ F0 s₁ (mkF m 32 #[sI (Int32.ofNat u), sI a, sI b, sI (Int32.ofNat u'), sI a', sI b'] [(kI 0)]) := fun t k => K1 t (by
      refine XS.icmpYes X0.here hx rfl (pc0 := 2) (pc' := 31) rfl (hb hby d_sm_2) rfl (feq e1).2 (by decide) (by decide) ?_
      refine XS.iconst X0.here hx rfl (hb hby d_sm_31) ?_
      exact k)
    obtain ⟨fs, hr, hrun, hended, hWm, hsame⟩ := X0.leave (v := some (.int (0 : Int32))) (fun h => by rw [Bd.returns] at h; cases h)
    refine ⟨_, _, pre0 _ (K11 _ (retN X0 hx (t := .boolean) Bd.returns (by simp) (hb hby d_sm_32) hr)), hrun, hended, _, _, rfl, ?_, ⟨_, rfl⟩, hWm, hsame.mono (by decide) (by decide)⟩
    show QrmSM Z u a b u' a' b' Rr n0 _ s₁.heap _
    rw [e0]
    exact ⟨by rw [show own_sm u a b u' a' b' = false from decide_eq_false (fun q => h1 q.1)]; rfl, N0, W0⟩
def own_F (u0 u1 u2 : Nat) : Nat → Nat
  | 0 => 0
  | 1 => 0 + u0
  | 2 => 0 + u0 + u1
  | _ => 0 + u0 + u1 + (0 + u2)
theorem own_Fb {u0 u1 u2 : Nat} (h0 : u0 ≤ 2) (h1 : u1 ≤ 2) (h2 : u2 ≤ 2) : ∀ k, k ≤ 3 → own_F u0 u1 u2 k ≤ 6 := fun k hk => by
  rcases (by omega : k = 0 ∨ k = 1 ∨ k = 2 ∨ k = 3) with rfl | rfl | rfl | rfl <;> simp only [own_F] <;> omega
theorem own_Fm {u0 u1 u2 : Nat} : ∀ k, k < 3 → own_F u0 u1 u2 k ≤ own_F u0 u1 u2 (k + 1) := fun k hk => by
  rcases (by omega : k = 0 ∨ k = 1 ∨ k = 2) with rfl | rfl | rfl <;> simp only [own_F] <;> omega
theorem own_runf (q : Nat → Int32) (s z : Nat) : ∀ k i, own_run q s z k i false = false
  | 0, _ => rfl
  | _ + 1, _ => rfl
theorem own_nm_sm {gc : Nat → Value} {F : Nat → Nat} {c o uc uo : Nat} {x y x' y' : Int32} (h1 : F (c + 1) - F c = uc) (h2 : F (o + 1) - F o = uo) (hu : uo ≤ 2) (hx : 1 ≤ uc → gc (F c) = .int x) (hy : 2 ≤ uc → gc (F c + 1) = .int y) (hx' : 1 ≤ uo → gc (F o) = .int x') (hy' : 2 ≤ uo → gc (F o + 1) = .int y') : own_nm gc F c o = own_sm uc x y uo x' y' := by
  unfold own_nm own_sm
  rw [h1, h2]
  by_cases e : uc = uo
  · subst e
    rcases (by omega : uc = 0 ∨ uc = 1 ∨ uc = 2) with rfl | rfl | rfl
    · simp [own_run]
    · have a1 := hx (by decide)
      have a2 := hx' (by decide)
      simp [own_run, a1, a2, own_iv]
    · have a1 := hx (by decide)
      have a2 := hx' (by decide)
      have b1 := hy (by decide)
      have b2 := hy' (by decide)
      by_cases q : x = x'
      · simp [own_run, a1, a2, b1, b2, own_iv, q]
      · simp [own_run, a1, a2, b1, b2, own_iv, q]
  · rw [decide_eq_false e, own_runf, decide_eq_false (fun q => e q.1)]
theorem own_sm_comm (u : Nat) (a b : Int32) (u' : Nat) (a' b' : Int32) : own_sm u a b u' a' b' = own_sm u' a' b' u a b := by
  unfold own_sm
  apply decide_eq_decide.mpr
  constructor
  · rintro ⟨rfl, h2, h3⟩; exact ⟨rfl, h2.imp id Eq.symm, h3.imp id Eq.symm⟩
  · rintro ⟨rfl, h2, h3⟩; exact ⟨rfl, h2.imp id Eq.symm, h3.imp id Eq.symm⟩
theorem own_sm_self (u : Nat) (a b : Int32) : own_sm u a b u a b = true := decide_eq_true ⟨rfl, Or.inr rfl, Or.inr rfl⟩
theorem own_clo {g2 g3 : Nat → Value} {d e k : Nat} (hk : k < d) : cpy g3 (cpy g2 zI 0 0 d) 0 d e k = g2 k := by
  unfold cpy
  rw [if_neg (by omega), if_pos (by omega), show 0 + (k - 0) = k by omega]
theorem own_chi {g2 g3 : Nat → Value} {d e k : Nat} (hk : k < e) : cpy g3 (cpy g2 zI 0 0 d) 0 d e (d + k) = g3 k := by
  unfold cpy
  rw [if_pos (by omega), show 0 + (d + k - d) = k by omega]
theorem ef_rm0 (m : MethodId) (p1 p2 p3 p4 p5 : Int32) : entryFrame m #[(.int p1), (.int p2), (.int p3), (.int p4), (.int p5)] maxLocals = mkF m 0 #[.val (.int p1), .val (.int p2), .val (.int p3), .val (.int p4), .val (.int p5), .unset, .unset, .unset, .unset, .unset, .unset, .unset, .unset, .unset, .unset, .unset, .unset, .unset, .unset, .unset, .unset, .unset, .unset] [] := by first | (simp [entryFrame, mkF, argsToLocals, Value.category, maxLocals]; done) | rfl
def Qrm0 (Z : State) (p1 p2 p3 p4 p5 : Int32) (n0 : Nat) (v : Option Value) (h : Heap) (L : List Loc) : Prop := v = some (.int (1 : Int32)) ∧ Fr n0 L
set_option maxRecDepth 65536 in
set_option maxHeartbeats 40000000 in
theorem rm0 (l : Launch) (Z : State) (a0 : Array Value) (hw : ∀ d ∈ tables_1, d.before a0 Z = true) (ws : List Jvm.Cond) (p1 p2 p3 p4 p5 : Int32) (h0 : Heap) (n0 : Nat) (W0 : Wo n0 h0 []) :
    MetFree l x (head1 (Jvm.Cond.code x code maxLocals ret :: ws) room_1) (fun aa U => aa = #[(.int p1), (.int p2), (.int p3), (.int p4), (.int p5)] ∧ Z.Warmed39 U.vm ∧ U.heap = h0) (fun _ _ _ _ _ => True) (fun _ U ou U' => ∃ v L, ou = .returned v ∧ Qrm0 Z p1 p2 p3 p4 p5 n0 v U'.heap L ∧ FrameEnd U ou U' L room_1.cells room_1.slots) := by
  refine MetFree.of_bodySF (plainFor_of_name pn_RowsChoiceNamedAsPinLaw) hisR ?_
  intro p e s m args below meth c s₁ Bd hml0 hP hK
  obtain ⟨rfl, hZ, hh⟩ := hP
  have hx := Bd.exec
  have hby := Bd.bytes
  have hml : c.maxLocals = 23 := hml0
  have hown : s.vm.findClass "com/example/sambre/sambre/engine/RowsChoiceNamedAsPinLaw" = some m.cls := findClass_of_methodNamed Bd.named
  have hnm := (name_of_methodNamed Bd.named Bd.method).1
  have X0 : Stand p l e room_1 s m #[(.int p1), (.int p2), (.int p3), (.int p4), (.int p5)] below meth c s₁ [] 0 0 := Stand.of_body Bd
  have e0 : s₁.heap = h0 := by rw [← hh, Bd.state]; rfl
  have N0 := Fr.nil n0
  obtain ⟨F0, hF0⟩ : ∃ F, F = mkF m 0 #[.val (.int p1), .val (.int p2), .val (.int p3), .val (.int p4), .val (.int p5), .unset, .unset, .unset, .unset, .unset, .unset, .unset, .unset, .unset, .unset, .unset, .unset, .unset, .unset, .unset, .unset, .unset, .unset] [] := ⟨_, rfl⟩
  have pre0 : ∀ t, Steps p.tables e below (s₁.setTop F0) t → Steps p.tables e below (s₁.setTop (entryFrame m #[(.int p1), (.int p2), (.int p3), (.int p4), (.int p5)] maxLocals)) t := fun t k => castTop ((ef_rm0 m p1 p2 p3 p4 p5).trans hF0.symm) k
  have K0 : Rch p e below s₁ F0 s₁ (mkF m 0 #[.val (.int p1), .val (.int p2), .val (.int p3), .val (.int p4), .val (.int p5), .unset, .unset, .unset, .unset, .unset, .unset, .unset, .unset, .unset, .unset, .unset, .unset, .unset, .unset, .unset, .unset, .unset, .unset] []) := fun t k => castTop hF0 k
  have K1 : Rch p e below s₁ F0 s₁ (mkF m 6 #[sI p1, sI p2, sI p3, sI p4, sI p5, sU, sU, sU, sU, sU, sU, sU, sU, sU, sU, sU, sU, sU, sU, sU, sU, sU, sU] [(kI ((p3 &&& (15 : Int32)) - ((p3 &&& (15 : Int32)) / (3 : Int32)) * (3 : Int32)))]) := fun t k => K0 t (by
    refine XS.iloadN X0.here hx rfl (hb hby at_0) rfl ?_
    refine XS.bipush X0.here hx rfl (hb hby at_1) ?_
    refine XS.iand X0.here hx rfl (hb hby at_3) rfl ?_
    refine XS.iconst X0.here hx rfl (hb hby at_4) ?_
    refine XS.irem X0.here hx rfl (hb hby at_5) rfl (by decide) ?_
    exact k)
  obtain ⟨u0, hu0, eu0⟩ := own_rem (p3 &&& (15 : Int32)) (3 : Int32) 3 (by decide) (by decide) (by decide) (c_and p3 (15 : Int32) (by decide)).1
  rw [eu0] at K1
  have K2 : Rch p e below s₁ F0 s₁ (mkF m 16 #[sI p1, sI p2, sI p3, sI p4, sI p5, sI (Int32.ofNat u0), sU, sU, sU, sU, sU, sU, sU, sU, sU, sU, sU, sU, sU, sU, sU, sU, sU] [(kI (((p3 >>> ((4 : Int32) &&& 31)) &&& (15 : Int32)) - (((p3 >>> ((4 : Int32) &&& 31)) &&& (15 : Int32)) / (3 : Int32)) * (3 : Int32)))]) := fun t k => K1 t (by
    refine XS.istore X0.here hx rfl (hb hby at_6) rfl (l' := #[sI p1, sI p2, sI p3, sI p4, sI p5, sI (Int32.ofNat u0), sU, sU, sU, sU, sU, sU, sU, sU, sU, sU, sU, sU, sU, sU, sU, sU, sU]) rfl ?_
    refine XS.iloadN X0.here hx rfl (hb hby at_8) rfl ?_
    refine XS.iconst X0.here hx rfl (hb hby at_9) ?_
    refine XS.ishr X0.here hx rfl (hb hby at_10) rfl ?_
    refine XS.bipush X0.here hx rfl (hb hby at_11) ?_
    refine XS.iand X0.here hx rfl (hb hby at_13) rfl ?_
    show Steps p.tables e below (s₁.setTop (mkF m 14 #[sI p1, sI p2, sI p3, sI p4, sI p5, sI (Int32.ofNat u0), sU, sU, sU, sU, sU, sU, sU, sU, sU, sU, sU, sU, sU, sU, sU, sU, sU] [(kI ((p3 >>> ((4 : Int32) &&& 31)) &&& (15 : Int32)))])) _
    refine XS.iconst X0.here hx rfl (hb hby at_14) ?_
    refine XS.irem X0.here hx rfl (hb hby at_15) rfl (by decide) ?_
    exact k)
  obtain ⟨u1, hu1, eu1⟩ := own_rem ((p3 >>> ((4 : Int32) &&& 31)) &&& (15 : Int32)) (3 : Int32) 3 (by decide) (by decide) (by decide) (c_and (p3 >>> ((4 : Int32) &&& 31)) (15 : Int32) (by decide)).1
  rw [eu1] at K2
  have K3 : Rch p e below s₁ F0 s₁ (mkF m 27 #[sI p1, sI p2, sI p3, sI p4, sI p5, sI (Int32.ofNat u0), sI (Int32.ofNat u1), sU, sU, sU, sU, sU, sU, sU, sU, sU, sU, sU, sU, sU, sU, sU, sU] [(kI (((p3 >>> ((8 : Int32) &&& 31)) &&& (15 : Int32)) - (((p3 >>> ((8 : Int32) &&& 31)) &&& (15 : Int32)) / (3 : Int32)) * (3 : Int32)))]) := fun t k => K2 t (by
    refine XS.istore X0.here hx rfl (hb hby at_16) rfl (l' := #[sI p1, sI p2, sI p3, sI p4, sI p5, sI (Int32.ofNat u0), sI (Int32.ofNat u1), sU, sU, sU, sU, sU, sU, sU, sU, sU, sU, sU, sU, sU, sU, sU, sU]) rfl ?_
    refine XS.iloadN X0.here hx rfl (hb hby at_18) rfl ?_
    refine XS.bipush X0.here hx rfl (hb hby at_19) ?_
    refine XS.ishr X0.here hx rfl (hb hby at_21) rfl ?_
    refine XS.bipush X0.here hx rfl (hb hby at_22) ?_
    refine XS.iand X0.here hx rfl (hb hby at_24) rfl ?_
    show Steps p.tables e below (s₁.setTop (mkF m 25 #[sI p1, sI p2, sI p3, sI p4, sI p5, sI (Int32.ofNat u0), sI (Int32.ofNat u1), sU, sU, sU, sU, sU, sU, sU, sU, sU, sU, sU, sU, sU, sU, sU, sU] [(kI ((p3 >>> ((8 : Int32) &&& 31)) &&& (15 : Int32)))])) _
    refine XS.iconst X0.here hx rfl (hb hby at_25) ?_
    refine XS.irem X0.here hx rfl (hb hby at_26) rfl (by decide) ?_
    exact k)
  obtain ⟨u2, hu2, eu2⟩ := own_rem ((p3 >>> ((8 : Int32) &&& 31)) &&& (15 : Int32)) (3 : Int32) 3 (by decide) (by decide) (by decide) (c_and (p3 >>> ((8 : Int32) &&& 31)) (15 : Int32) (by decide)).1
  rw [eu2] at K3
  have K4 : Rch p e below s₁ F0 s₁ (mkF m 33 #[sI p1, sI p2, sI p3, sI p4, sI p5, sI (Int32.ofNat u0), sI (Int32.ofNat u1), sI (Int32.ofNat u2), sU, sU, sU, sU, sU, sU, sU, sU, sU, sU, sU, sU, sU, sU, sU] [(kI p2), (kI p1), (kI 0), (kI p4)]) := fun t k => K3 t (by
    refine XS.istore X0.here hx rfl (hb hby at_27) rfl (l' := #[sI p1, sI p2, sI p3, sI p4, sI p5, sI (Int32.ofNat u0), sI (Int32.ofNat u1), sI (Int32.ofNat u2), sU, sU, sU, sU, sU, sU, sU, sU, sU, sU, sU, sU, sU, sU, sU]) rfl ?_
    refine XS.iloadN X0.here hx rfl (hb hby at_29) rfl ?_
    refine XS.iconst X0.here hx rfl (hb hby at_30) ?_
    refine XS.iloadN X0.here hx rfl (hb hby at_31) rfl ?_
    refine XS.iloadN X0.here hx rfl (hb hby at_32) rfl ?_
    exact k)
  obtain ⟨_, _, ⟨T5, L5, k5, n5⟩, -, X5, ⟨Lc5, hQ5, l5, y5, z5⟩, st5⟩ := Jvm.LawKit.callS X0 hx (y := (⟨"com/example/sambre/sambre/engine/RowsChoiceNamedAsPinLaw", "pick", "(IIII)I"⟩ : MethodName)) hown (mvT hZ (hw _ (mi 0 rfl))) (mvT hZ (hw _ (mi 1 rfl))) (mvT hZ (hw _ (mi 2 rfl))) (mvT hZ (hw _ (mi 3 rfl))) (by decide) (backOf (W := 0) (rmPK l Z a0 hw [] p4 (0 : Int32) p1 p2 ([]) h0 n0 W0) hZ (hw _ (mi 3 rfl)) (hw _ (mi 2 rfl)) (by decide) (by decide)) (g := K4.g) rfl (by rw [hml]; rfl) (argsL := [(.int p4), (.int (0 : Int32)), (.int p1), (.int p2)]) (rest := []) (lenOf pd_pk rfl) rfl (by show 2 * 0 + _ ≤ _; exact Nat.le_of_eq rfl) (hb hby at_33) (fun _ _ => ⟨rfl, e0, (by decide : 0 + 0 ≤ _), (by decide : 0 + 0 ≤ _)⟩)
  dsimp only [Pt.U, Pt.locs, Pt.cells, Pt.slots] at X5 l5 y5 z5 st5 hQ5
  subst l5 y5 z5
  obtain ⟨pv5, rfl, N5q, W5⟩ := hQ5
  have N5 := Fr.app N0 N5q
  have K6 : Rch p e below s₁ F0 T5 (mkF m 42 #[sI p1, sI p2, sI p3, sI p4, sI p5, sI (Int32.ofNat u0), sI (Int32.ofNat u1), sI (Int32.ofNat u2), sI pv5, sU, sU, sU, sU, sU, sU, sU, sU, sU, sU, sU, sU, sU, sU] [(kI p2), (kI p1), (kI 1), (kI p4)]) := fun t k => K4 t (st5 t (by
    refine XS.istore X5.here hx rfl (hb hby at_36) rfl (l' := #[sI p1, sI p2, sI p3, sI p4, sI p5, sI (Int32.ofNat u0), sI (Int32.ofNat u1), sI (Int32.ofNat u2), sI pv5, sU, sU, sU, sU, sU, sU, sU, sU, sU, sU, sU, sU, sU, sU]) rfl ?_
    refine XS.iloadN X5.here hx rfl (hb hby at_38) rfl ?_
    refine XS.iconst X5.here hx rfl (hb hby at_39) ?_
    refine XS.iloadN X5.here hx rfl (hb hby at_40) rfl ?_
    refine XS.iloadN X5.here hx rfl (hb hby at_41) rfl ?_
    exact k))
  obtain ⟨_, _, ⟨T7, L7, k7, n7⟩, -, X7, ⟨Lc7, hQ7, l7, y7, z7⟩, st7⟩ := Jvm.LawKit.callS X5 hx (y := (⟨"com/example/sambre/sambre/engine/RowsChoiceNamedAsPinLaw", "pick", "(IIII)I"⟩ : MethodName)) hown (mvT hZ (hw _ (mi 0 rfl))) (mvT hZ (hw _ (mi 1 rfl))) (mvT hZ (hw _ (mi 2 rfl))) (mvT hZ (hw _ (mi 3 rfl))) (by decide) (backOf (W := 0) (rmPK l Z a0 hw [] p4 (1 : Int32) p1 p2 ([]) T5.heap n0 W5) hZ (hw _ (mi 3 rfl)) (hw _ (mi 2 rfl)) (by decide) (by decide)) (g := K6.g) rfl (by rw [hml]; rfl) (argsL := [(.int p4), (.int (1 : Int32)), (.int p1), (.int p2)]) (rest := []) (lenOf pd_pk rfl) rfl (by show 2 * 0 + _ ≤ _; exact Nat.le_of_eq rfl) (hb hby at_42) (fun _ _ => ⟨rfl, (rfl : T5.heap = T5.heap), (by decide : 0 + 0 ≤ _), (by decide : 0 + 0 ≤ _)⟩)
  dsimp only [Pt.U, Pt.locs, Pt.cells, Pt.slots] at X7 l7 y7 z7 st7 hQ7
  subst l7 y7 z7
  obtain ⟨pv7, rfl, N7q, W7⟩ := hQ7
  have N7 := Fr.app N5 N7q
  have K8 : Rch p e below s₁ F0 T7 (mkF m 51 #[sI p1, sI p2, sI p3, sI p4, sI p5, sI (Int32.ofNat u0), sI (Int32.ofNat u1), sI (Int32.ofNat u2), sI pv5, sI pv7, sU, sU, sU, sU, sU, sU, sU, sU, sU, sU, sU, sU, sU] [(kI p2), (kI p1), (kI 2), (kI p4)]) := fun t k => K6 t (st7 t (by
    refine XS.istore X7.here hx rfl (hb hby at_45) rfl (l' := #[sI p1, sI p2, sI p3, sI p4, sI p5, sI (Int32.ofNat u0), sI (Int32.ofNat u1), sI (Int32.ofNat u2), sI pv5, sI pv7, sU, sU, sU, sU, sU, sU, sU, sU, sU, sU, sU, sU, sU]) rfl ?_
    refine XS.iloadN X7.here hx rfl (hb hby at_47) rfl ?_
    refine XS.iconst X7.here hx rfl (hb hby at_48) ?_
    refine XS.iloadN X7.here hx rfl (hb hby at_49) rfl ?_
    refine XS.iloadN X7.here hx rfl (hb hby at_50) rfl ?_
    exact k))
  obtain ⟨_, _, ⟨T9, L9, k9, n9⟩, -, X9, ⟨Lc9, hQ9, l9, y9, z9⟩, st9⟩ := Jvm.LawKit.callS X7 hx (y := (⟨"com/example/sambre/sambre/engine/RowsChoiceNamedAsPinLaw", "pick", "(IIII)I"⟩ : MethodName)) hown (mvT hZ (hw _ (mi 0 rfl))) (mvT hZ (hw _ (mi 1 rfl))) (mvT hZ (hw _ (mi 2 rfl))) (mvT hZ (hw _ (mi 3 rfl))) (by decide) (backOf (W := 0) (rmPK l Z a0 hw [] p4 (2 : Int32) p1 p2 ([]) T7.heap n0 W7) hZ (hw _ (mi 3 rfl)) (hw _ (mi 2 rfl)) (by decide) (by decide)) (g := K8.g) rfl (by rw [hml]; rfl) (argsL := [(.int p4), (.int (2 : Int32)), (.int p1), (.int p2)]) (rest := []) (lenOf pd_pk rfl) rfl (by show 2 * 0 + _ ≤ _; exact Nat.le_of_eq rfl) (hb hby at_51) (fun _ _ => ⟨rfl, (rfl : T7.heap = T7.heap), (by decide : 0 + 0 ≤ _), (by decide : 0 + 0 ≤ _)⟩)
  dsimp only [Pt.U, Pt.locs, Pt.cells, Pt.slots] at X9 l9 y9 z9 st9 hQ9
  subst l9 y9 z9
  obtain ⟨pv9, rfl, N9q, W9⟩ := hQ9
  have N9 := Fr.app N7 N9q
  have K10 : Rch p e below s₁ F0 T9 (mkF m 60 #[sI p1, sI p2, sI p3, sI p4, sI p5, sI (Int32.ofNat u0), sI (Int32.ofNat u1), sI (Int32.ofNat u2), sI pv5, sI pv7, sI pv9, sU, sU, sU, sU, sU, sU, sU, sU, sU, sU, sU, sU] [(kI p2), (kI p1), (kI 3), (kI p4)]) := fun t k => K8 t (st9 t (by
    refine XS.istore X9.here hx rfl (hb hby at_54) rfl (l' := #[sI p1, sI p2, sI p3, sI p4, sI p5, sI (Int32.ofNat u0), sI (Int32.ofNat u1), sI (Int32.ofNat u2), sI pv5, sI pv7, sI pv9, sU, sU, sU, sU, sU, sU, sU, sU, sU, sU, sU, sU]) rfl ?_
    refine XS.iloadN X9.here hx rfl (hb hby at_56) rfl ?_
    refine XS.iconst X9.here hx rfl (hb hby at_57) ?_
    refine XS.iloadN X9.here hx rfl (hb hby at_58) rfl ?_
    refine XS.iloadN X9.here hx rfl (hb hby at_59) rfl ?_
    exact k))
  obtain ⟨_, _, ⟨T11, L11, k11, n11⟩, -, X11, ⟨Lc11, hQ11, l11, y11, z11⟩, st11⟩ := Jvm.LawKit.callS X9 hx (y := (⟨"com/example/sambre/sambre/engine/RowsChoiceNamedAsPinLaw", "pick", "(IIII)I"⟩ : MethodName)) hown (mvT hZ (hw _ (mi 0 rfl))) (mvT hZ (hw _ (mi 1 rfl))) (mvT hZ (hw _ (mi 2 rfl))) (mvT hZ (hw _ (mi 3 rfl))) (by decide) (backOf (W := 0) (rmPK l Z a0 hw [] p4 (3 : Int32) p1 p2 ([]) T9.heap n0 W9) hZ (hw _ (mi 3 rfl)) (hw _ (mi 2 rfl)) (by decide) (by decide)) (g := K10.g) rfl (by rw [hml]; rfl) (argsL := [(.int p4), (.int (3 : Int32)), (.int p1), (.int p2)]) (rest := []) (lenOf pd_pk rfl) rfl (by show 2 * 0 + _ ≤ _; exact Nat.le_of_eq rfl) (hb hby at_60) (fun _ _ => ⟨rfl, (rfl : T9.heap = T9.heap), (by decide : 0 + 0 ≤ _), (by decide : 0 + 0 ≤ _)⟩)
  dsimp only [Pt.U, Pt.locs, Pt.cells, Pt.slots] at X11 l11 y11 z11 st11 hQ11
  subst l11 y11 z11
  obtain ⟨pv11, rfl, N11q, W11⟩ := hQ11
  have N11 := Fr.app N9 N11q
  have K12 : Rch p e below s₁ F0 T11 (mkF m 69 #[sI p1, sI p2, sI p3, sI p4, sI p5, sI (Int32.ofNat u0), sI (Int32.ofNat u1), sI (Int32.ofNat u2), sI pv5, sI pv7, sI pv9, sI pv11, sU, sU, sU, sU, sU, sU, sU, sU, sU, sU, sU] [(kI p2), (kI p1), (kI 4), (kI p4)]) := fun t k => K10 t (st11 t (by
    refine XS.istore X11.here hx rfl (hb hby at_63) rfl (l' := #[sI p1, sI p2, sI p3, sI p4, sI p5, sI (Int32.ofNat u0), sI (Int32.ofNat u1), sI (Int32.ofNat u2), sI pv5, sI pv7, sI pv9, sI pv11, sU, sU, sU, sU, sU, sU, sU, sU, sU, sU, sU]) rfl ?_
    refine XS.iloadN X11.here hx rfl (hb hby at_65) rfl ?_
    refine XS.iconst X11.here hx rfl (hb hby at_66) ?_
    refine XS.iloadN X11.here hx rfl (hb hby at_67) rfl ?_
    refine XS.iloadN X11.here hx rfl (hb hby at_68) rfl ?_
    exact k))
  obtain ⟨_, _, ⟨T13, L13, k13, n13⟩, -, X13, ⟨Lc13, hQ13, l13, y13, z13⟩, st13⟩ := Jvm.LawKit.callS X11 hx (y := (⟨"com/example/sambre/sambre/engine/RowsChoiceNamedAsPinLaw", "pick", "(IIII)I"⟩ : MethodName)) hown (mvT hZ (hw _ (mi 0 rfl))) (mvT hZ (hw _ (mi 1 rfl))) (mvT hZ (hw _ (mi 2 rfl))) (mvT hZ (hw _ (mi 3 rfl))) (by decide) (backOf (W := 0) (rmPK l Z a0 hw [] p4 (4 : Int32) p1 p2 ([]) T11.heap n0 W11) hZ (hw _ (mi 3 rfl)) (hw _ (mi 2 rfl)) (by decide) (by decide)) (g := K12.g) rfl (by rw [hml]; rfl) (argsL := [(.int p4), (.int (4 : Int32)), (.int p1), (.int p2)]) (rest := []) (lenOf pd_pk rfl) rfl (by show 2 * 0 + _ ≤ _; exact Nat.le_of_eq rfl) (hb hby at_69) (fun _ _ => ⟨rfl, (rfl : T11.heap = T11.heap), (by decide : 0 + 0 ≤ _), (by decide : 0 + 0 ≤ _)⟩)
  dsimp only [Pt.U, Pt.locs, Pt.cells, Pt.slots] at X13 l13 y13 z13 st13 hQ13
  subst l13 y13 z13
  obtain ⟨pv13, rfl, N13q, W13⟩ := hQ13
  have N13 := Fr.app N11 N13q
  have K14 : Rch p e below s₁ F0 T13 (mkF m 78 #[sI p1, sI p2, sI p3, sI p4, sI p5, sI (Int32.ofNat u0), sI (Int32.ofNat u1), sI (Int32.ofNat u2), sI pv5, sI pv7, sI pv9, sI pv11, sI pv13, sU, sU, sU, sU, sU, sU, sU, sU, sU, sU] [(kI p2), (kI p1), (kI 5), (kI p4)]) := fun t k => K12 t (st13 t (by
    refine XS.istore X13.here hx rfl (hb hby at_72) rfl (l' := #[sI p1, sI p2, sI p3, sI p4, sI p5, sI (Int32.ofNat u0), sI (Int32.ofNat u1), sI (Int32.ofNat u2), sI pv5, sI pv7, sI pv9, sI pv11, sI pv13, sU, sU, sU, sU, sU, sU, sU, sU, sU, sU]) rfl ?_
    refine XS.iloadN X13.here hx rfl (hb hby at_74) rfl ?_
    refine XS.iconst X13.here hx rfl (hb hby at_75) ?_
    refine XS.iloadN X13.here hx rfl (hb hby at_76) rfl ?_
    refine XS.iloadN X13.here hx rfl (hb hby at_77) rfl ?_
    exact k))
  obtain ⟨_, _, ⟨T15, L15, k15, n15⟩, -, X15, ⟨Lc15, hQ15, l15, y15, z15⟩, st15⟩ := Jvm.LawKit.callS X13 hx (y := (⟨"com/example/sambre/sambre/engine/RowsChoiceNamedAsPinLaw", "pick", "(IIII)I"⟩ : MethodName)) hown (mvT hZ (hw _ (mi 0 rfl))) (mvT hZ (hw _ (mi 1 rfl))) (mvT hZ (hw _ (mi 2 rfl))) (mvT hZ (hw _ (mi 3 rfl))) (by decide) (backOf (W := 0) (rmPK l Z a0 hw [] p4 (5 : Int32) p1 p2 ([]) T13.heap n0 W13) hZ (hw _ (mi 3 rfl)) (hw _ (mi 2 rfl)) (by decide) (by decide)) (g := K14.g) rfl (by rw [hml]; rfl) (argsL := [(.int p4), (.int (5 : Int32)), (.int p1), (.int p2)]) (rest := []) (lenOf pd_pk rfl) rfl (by show 2 * 0 + _ ≤ _; exact Nat.le_of_eq rfl) (hb hby at_78) (fun _ _ => ⟨rfl, (rfl : T13.heap = T13.heap), (by decide : 0 + 0 ≤ _), (by decide : 0 + 0 ≤ _)⟩)
  dsimp only [Pt.U, Pt.locs, Pt.cells, Pt.slots] at X15 l15 y15 z15 st15 hQ15
  subst l15 y15 z15
  obtain ⟨pv15, rfl, N15q, W15⟩ := hQ15
  have N15 := Fr.app N13 N15q
  have K16 : Rch p e below s₁ F0 T15 (mkF m 95 #[sI p1, sI p2, sI p3, sI p4, sI p5, sI (Int32.ofNat u0), sI (Int32.ofNat u1), sI (Int32.ofNat u2), sI pv5, sI pv7, sI pv9, sI pv11, sI pv13, sI pv15, sU, sU, sU, sU, sU, sU, sU, sU, sU] [(kI pv11), (kI pv9), (kI (Int32.ofNat u1)), (kI pv7), (kI pv5), (kI (Int32.ofNat u0))]) := fun t k => K14 t (st15 t (by
    refine XS.istore X15.here hx rfl (hb hby at_81) rfl (l' := #[sI p1, sI p2, sI p3, sI p4, sI p5, sI (Int32.ofNat u0), sI (Int32.ofNat u1), sI (Int32.ofNat u2), sI pv5, sI pv7, sI pv9, sI pv11, sI pv13, sI pv15, sU, sU, sU, sU, sU, sU, sU, sU, sU]) rfl ?_
    refine XS.iload X15.here hx rfl (hb hby at_83) rfl ?_
    refine XS.iload X15.here hx rfl (hb hby at_85) rfl ?_
    refine XS.iload X15.here hx rfl (hb hby at_87) rfl ?_
    refine XS.iload X15.here hx rfl (hb hby at_89) rfl ?_
    refine XS.iload X15.here hx rfl (hb hby at_91) rfl ?_
    show Steps p.tables e below (T15.setTop (mkF m 93 #[sI p1, sI p2, sI p3, sI p4, sI p5, sI (Int32.ofNat u0), sI (Int32.ofNat u1), sI (Int32.ofNat u2), sI pv5, sI pv7, sI pv9, sI pv11, sI pv13, sI pv15, sU, sU, sU, sU, sU, sU, sU, sU, sU] [(kI pv9), (kI (Int32.ofNat u1)), (kI pv7), (kI pv5), (kI (Int32.ofNat u0))])) _
    refine XS.iload X15.here hx rfl (hb hby at_93) rfl ?_
    exact k))
  obtain ⟨_, _, ⟨T17, L17, k17, n17⟩, -, X17, ⟨Lc17, hQ17, l17, y17, z17⟩, st17⟩ := Jvm.LawKit.callS X15 hx (y := (⟨"com/example/sambre/sambre/engine/RowsChoiceNamedAsPinLaw", "same", "(IIIIII)Z"⟩ : MethodName)) hown (mvT hZ (hw _ (mi 4 rfl))) (mvT hZ (hw _ (mi 5 rfl))) (mvT hZ (hw _ (mi 2 rfl))) (mvT hZ (hw _ (mi 6 rfl))) (by decide) (backOf (W := 0) (rmSM l Z a0 hw [] u0 pv5 pv7 u1 pv9 pv11 ([]) T15.heap n0 W15 (by omega) (by omega)) hZ (hw _ (mi 6 rfl)) (hw _ (mi 2 rfl)) (by decide) (by decide)) (g := K16.g) rfl (by rw [hml]; rfl) (argsL := [(.int (Int32.ofNat u0)), (.int pv5), (.int pv7), (.int (Int32.ofNat u1)), (.int pv9), (.int pv11)]) (rest := []) (lenOf pd_sm rfl) rfl (by show 2 * 0 + _ ≤ _; exact Nat.le_of_eq rfl) (hb hby at_95) (fun _ _ => ⟨rfl, (rfl : T15.heap = T15.heap), (by decide : 0 + 0 ≤ _), (by decide : 0 + 0 ≤ _)⟩)
  dsimp only [Pt.U, Pt.locs, Pt.cells, Pt.slots] at X17 l17 y17 z17 st17 hQ17
  subst l17 y17 z17
  obtain ⟨rfl, N17q, W17⟩ := hQ17
  have N17 := Fr.app N15 N17q
  have K18 : Rch p e below s₁ F0 T17 (mkF m 98 #[sI p1, sI p2, sI p3, sI p4, sI p5, sI (Int32.ofNat u0), sI (Int32.ofNat u1), sI (Int32.ofNat u2), sI pv5, sI pv7, sI pv9, sI pv11, sI pv13, sI pv15, sU, sU, sU, sU, sU, sU, sU, sU, sU] [(kI (own_bi (own_sm u0 pv5 pv7 u1 pv9 pv11)))]) := fun t k => K16 t (st17 t (k))
  by_cases hs : (own_sm u0 pv5 pv7 u1 pv9 pv11) = true
  · have hs1 := hs
    have K19 : Rch p e below s₁ F0 T17 (mkF m 102 #[sI p1, sI p2, sI p3, sI p4, sI p5, sI (Int32.ofNat u0), sI (Int32.ofNat u1), sI (Int32.ofNat u2), sI pv5, sI pv7, sI pv9, sI pv11, sI pv13, sI pv15, sU, sU, sU, sU, sU, sU, sU, sU, sU] [(kI 1)]) := fun t k => K18 t (by
      refine XS.ifNo X17.here hx rfl (hb hby at_98) rfl ((if0 _ _).trans (feq (show ¬ (own_bi (own_sm u0 pv5 pv7 u1 pv9 pv11) = 0) from by rw [hs]; decide)).1) ?_
      refine XS.iconst X17.here hx rfl (hb hby at_101) ?_
      exact k)
    obtain ⟨fs, hr, hrun, hended, hWm, hsame⟩ := X17.leave (v := some (.int (1 : Int32))) (fun h => by rw [Bd.returns] at h; cases h)
    refine ⟨_, _, pre0 _ (K19 _ (retN X17 hx (t := .boolean) Bd.returns (by simp) (hb hby at_102) hr)), hrun, hended, _, _, rfl, ?_, ⟨_, rfl⟩, hWm, hsame.mono (by decide) (by decide)⟩
    show Qrm0 Z p1 p2 p3 p4 p5 n0 _ T17.heap _
    exact ⟨rfl, N17⟩
  · have hs1 := Bool.eq_false_iff.mpr hs
    have K20 : Rch p e below s₁ F0 T17 (mkF m 115 #[sI p1, sI p2, sI p3, sI p4, sI p5, sI (Int32.ofNat u0), sI (Int32.ofNat u1), sI (Int32.ofNat u2), sI pv5, sI pv7, sI pv9, sI pv11, sI pv13, sI pv15, sU, sU, sU, sU, sU, sU, sU, sU, sU] [(kI pv15), (kI pv13), (kI (Int32.ofNat u2)), (kI pv7), (kI pv5), (kI (Int32.ofNat u0))]) := fun t k => K18 t (by
      refine XS.ifYes X17.here hx rfl (pc0 := 98) (pc' := 103) rfl (hb hby at_98) rfl ((if0 _ _).trans (teq (show own_bi (own_sm u0 pv5 pv7 u1 pv9 pv11) = 0 from by rw [hs1]; rfl)).1) (by decide) (by decide) ?_
      refine XS.iload X17.here hx rfl (hb hby at_103) rfl ?_
      refine XS.iload X17.here hx rfl (hb hby at_105) rfl ?_
      refine XS.iload X17.here hx rfl (hb hby at_107) rfl ?_
      refine XS.iload X17.here hx rfl (hb hby at_109) rfl ?_
      refine XS.iload X17.here hx rfl (hb hby at_111) rfl ?_
      show Steps p.tables e below (T17.setTop (mkF m 113 #[sI p1, sI p2, sI p3, sI p4, sI p5, sI (Int32.ofNat u0), sI (Int32.ofNat u1), sI (Int32.ofNat u2), sI pv5, sI pv7, sI pv9, sI pv11, sI pv13, sI pv15, sU, sU, sU, sU, sU, sU, sU, sU, sU] [(kI pv13), (kI (Int32.ofNat u2)), (kI pv7), (kI pv5), (kI (Int32.ofNat u0))])) _
      refine XS.iload X17.here hx rfl (hb hby at_113) rfl ?_
      exact k)
    obtain ⟨_, _, ⟨T21, L21, k21, n21⟩, -, X21, ⟨Lc21, hQ21, l21, y21, z21⟩, st21⟩ := Jvm.LawKit.callS X17 hx (y := (⟨"com/example/sambre/sambre/engine/RowsChoiceNamedAsPinLaw", "same", "(IIIIII)Z"⟩ : MethodName)) hown (mvT hZ (hw _ (mi 4 rfl))) (mvT hZ (hw _ (mi 5 rfl))) (mvT hZ (hw _ (mi 2 rfl))) (mvT hZ (hw _ (mi 6 rfl))) (by decide) (backOf (W := 0) (rmSM l Z a0 hw [] u0 pv5 pv7 u2 pv13 pv15 ([]) T17.heap n0 W17 (by omega) (by omega)) hZ (hw _ (mi 6 rfl)) (hw _ (mi 2 rfl)) (by decide) (by decide)) (g := K20.g) rfl (by rw [hml]; rfl) (argsL := [(.int (Int32.ofNat u0)), (.int pv5), (.int pv7), (.int (Int32.ofNat u2)), (.int pv13), (.int pv15)]) (rest := []) (lenOf pd_sm rfl) rfl (by show 2 * 0 + _ ≤ _; exact Nat.le_of_eq rfl) (hb hby at_115) (fun _ _ => ⟨rfl, (rfl : T17.heap = T17.heap), (by decide : 0 + 0 ≤ _), (by decide : 0 + 0 ≤ _)⟩)
    dsimp only [Pt.U, Pt.locs, Pt.cells, Pt.slots] at X21 l21 y21 z21 st21 hQ21
    subst l21 y21 z21
    obtain ⟨rfl, N21q, W21⟩ := hQ21
    have N21 := Fr.app N17 N21q
    have K22 : Rch p e below s₁ F0 T21 (mkF m 132 #[sI p1, sI p2, sI p3, sI p4, sI p5, sI (Int32.ofNat u0), sI (Int32.ofNat u1), sI (Int32.ofNat u2), sI pv5, sI pv7, sI pv9, sI pv11, sI pv13, sI pv15, sI (own_bi (own_sm u0 pv5 pv7 u2 pv13 pv15)), sU, sU, sU, sU, sU, sU, sU, sU] [(kI pv15), (kI pv13), (kI (Int32.ofNat u2)), (kI pv11), (kI pv9), (kI (Int32.ofNat u1))]) := fun t k => K20 t (st21 t (by
      refine XS.istore X21.here hx rfl (hb hby at_118) rfl (l' := #[sI p1, sI p2, sI p3, sI p4, sI p5, sI (Int32.ofNat u0), sI (Int32.ofNat u1), sI (Int32.ofNat u2), sI pv5, sI pv7, sI pv9, sI pv11, sI pv13, sI pv15, sI (own_bi (own_sm u0 pv5 pv7 u2 pv13 pv15)), sU, sU, sU, sU, sU, sU, sU, sU]) rfl ?_
      refine XS.iload X21.here hx rfl (hb hby at_120) rfl ?_
      refine XS.iload X21.here hx rfl (hb hby at_122) rfl ?_
      refine XS.iload X21.here hx rfl (hb hby at_124) rfl ?_
      refine XS.iload X21.here hx rfl (hb hby at_126) rfl ?_
      refine XS.iload X21.here hx rfl (hb hby at_128) rfl ?_
      show Steps p.tables e below (T21.setTop (mkF m 130 #[sI p1, sI p2, sI p3, sI p4, sI p5, sI (Int32.ofNat u0), sI (Int32.ofNat u1), sI (Int32.ofNat u2), sI pv5, sI pv7, sI pv9, sI pv11, sI pv13, sI pv15, sI (own_bi (own_sm u0 pv5 pv7 u2 pv13 pv15)), sU, sU, sU, sU, sU, sU, sU, sU] [(kI pv13), (kI (Int32.ofNat u2)), (kI pv11), (kI pv9), (kI (Int32.ofNat u1))])) _
      refine XS.iload X21.here hx rfl (hb hby at_130) rfl ?_
      exact k))
    obtain ⟨_, _, ⟨T23, L23, k23, n23⟩, -, X23, ⟨Lc23, hQ23, l23, y23, z23⟩, st23⟩ := Jvm.LawKit.callS X21 hx (y := (⟨"com/example/sambre/sambre/engine/RowsChoiceNamedAsPinLaw", "same", "(IIIIII)Z"⟩ : MethodName)) hown (mvT hZ (hw _ (mi 4 rfl))) (mvT hZ (hw _ (mi 5 rfl))) (mvT hZ (hw _ (mi 2 rfl))) (mvT hZ (hw _ (mi 6 rfl))) (by decide) (backOf (W := 0) (rmSM l Z a0 hw [] u1 pv9 pv11 u2 pv13 pv15 ([]) T21.heap n0 W21 (by omega) (by omega)) hZ (hw _ (mi 6 rfl)) (hw _ (mi 2 rfl)) (by decide) (by decide)) (g := K22.g) rfl (by rw [hml]; rfl) (argsL := [(.int (Int32.ofNat u1)), (.int pv9), (.int pv11), (.int (Int32.ofNat u2)), (.int pv13), (.int pv15)]) (rest := []) (lenOf pd_sm rfl) rfl (by show 2 * 0 + _ ≤ _; exact Nat.le_of_eq rfl) (hb hby at_132) (fun _ _ => ⟨rfl, (rfl : T21.heap = T21.heap), (by decide : 0 + 0 ≤ _), (by decide : 0 + 0 ≤ _)⟩)
    dsimp only [Pt.U, Pt.locs, Pt.cells, Pt.slots] at X23 l23 y23 z23 st23 hQ23
    subst l23 y23 z23
    obtain ⟨rfl, N23q, W23⟩ := hQ23
    have N23 := Fr.app N21 N23q
    have K24 : Rch p e below s₁ F0 T23 (mkF m 138 #[sI p1, sI p2, sI p3, sI p4, sI p5, sI (Int32.ofNat u0), sI (Int32.ofNat u1), sI (Int32.ofNat u2), sI pv5, sI pv7, sI pv9, sI pv11, sI pv13, sI pv15, sI (own_bi (own_sm u0 pv5 pv7 u2 pv13 pv15)), sI (own_bi (own_sm u1 pv9 pv11 u2 pv13 pv15)), sU, sU, sU, sU, sU, sU, sU] [(kI 0)]) := fun t k => K22 t (st23 t (by
      refine XS.istore X23.here hx rfl (hb hby at_135) rfl (l' := #[sI p1, sI p2, sI p3, sI p4, sI p5, sI (Int32.ofNat u0), sI (Int32.ofNat u1), sI (Int32.ofNat u2), sI pv5, sI pv7, sI pv9, sI pv11, sI pv13, sI pv15, sI (own_bi (own_sm u0 pv5 pv7 u2 pv13 pv15)), sI (own_bi (own_sm u1 pv9 pv11 u2 pv13 pv15)), sU, sU, sU, sU, sU, sU, sU]) rfl ?_
      refine XS.iconst X23.here hx rfl (hb hby at_137) ?_
      exact k))
    obtain ⟨T25, h25, a25, X25, e25, W25q, st25⟩ := newWA X23 hx hZ (aty := .int) (ty := .int) rfl (hw _ (mi 7 rfl)) (rfl : T23.heap = T23.heap) W23 (g := K24.g) rfl (hb hby at_138) (z := (0 : Int32)) (n := 0) rfl (by decide) (by decide) (cap := 0) (by decide) (by decide) (by decide : 0 + 1 ≤ _) (by decide : 0 + 0 ≤ _)
    have W25 : Wo n0 h25 [(a25, Ar Z .int 0 zI)] := W25q
    have K26 : Rch p e below s₁ F0 T25 (mkF m 142 #[sI p1, sI p2, sI p3, sI p4, sI p5, sI (Int32.ofNat u0), sI (Int32.ofNat u1), sI (Int32.ofNat u2), sI pv5, sI pv7, sI pv9, sI pv11, sI pv13, sI pv15, sI (own_bi (own_sm u0 pv5 pv7 u2 pv13 pv15)), sI (own_bi (own_sm u1 pv9 pv11 u2 pv13 pv15)), sR a25, sU, sU, sU, sU, sU, sU] []) := fun t k => K24 t (st25 t (XS.astore X25.here hx rfl (hb hby at_140) rfl rfl (l' := #[sI p1, sI p2, sI p3, sI p4, sI p5, sI (Int32.ofNat u0), sI (Int32.ofNat u1), sI (Int32.ofNat u2), sI pv5, sI pv7, sI pv9, sI pv11, sI pv13, sI pv15, sI (own_bi (own_sm u0 pv5 pv7 u2 pv13 pv15)), sI (own_bi (own_sm u1 pv9 pv11 u2 pv13 pv15)), sR a25, sU, sU, sU, sU, sU, sU]) rfl k))
    obtain ⟨T27, h27, a27, X27, e27, W27q, st27⟩ := newWO X25 hx hZ hown (hw _ (mi 8 rfl)) (hw _ (mi 9 rfl)) (hw _ (mi 10 rfl)) e25 W25 (own_lR hw) (vs := [.null, .null, .null, .null, .null, .null, .null, .null, .null, .null, .null, .null, .null, .null, (.int (0 : Int32)), .null, (.int (0 : Int32))]) own_vR (g := K26.g) rfl (hb hby at_142) (by decide : 1 + 1 ≤ _) (by decide : 0 + 29 ≤ _)
    have W27 : Wo n0 h27 [(a27, oR Z [.null, .null, .null, .null, .null, .null, .null, .null, .null, .null, .null, .null, .null, .null, (kI 0), .null, (kI 0)]), (a25, Ar Z .int 0 zI)] := W27q
    have K28 : Rch p e below s₁ F0 T27 (mkF m 146 #[sI p1, sI p2, sI p3, sI p4, sI p5, sI (Int32.ofNat u0), sI (Int32.ofNat u1), sI (Int32.ofNat u2), sI pv5, sI pv7, sI pv9, sI pv11, sI pv13, sI pv15, sI (own_bi (own_sm u0 pv5 pv7 u2 pv13 pv15)), sI (own_bi (own_sm u1 pv9 pv11 u2 pv13 pv15)), sR a25, sU, sU, sU, sU, sU, sU] [(kR a27), (kR a27)]) := fun t k => K26 t (st27 t (XS.dup X27.here hx rfl (hb hby at_145) rfl rfl k))
    obtain ⟨_, _, ⟨T29, L29, k29, n29⟩, -, X29, ⟨Lc29, hQ29, l29, y29, z29⟩, st29⟩ := X27.specialBack hx (y := (⟨"com/example/sambre/sambre/engine/Rows", "<init>", "()V"⟩ : MethodName)) rfl hown (mvT hZ (hw _ (mi 11 rfl))) (mvT hZ (hw _ (mi 12 rfl))) (mvT hZ (hw _ (mi 13 rfl))) (by decide) (backOf (W := 1) (rmRI l Z a0 hw [] a27 ((a25, Ar Z .int 0 zI) :: []) h27 n0 W27) hZ (hw _ (mi 13 rfl)) (hw _ (mi 10 rfl)) (by decide) (by decide)) (g := K28.g) rfl (by rw [hml]; rfl) (Steps.refl _) (a := a27) (argsL := []) (rest := [(.ref a27)]) (lenOf pd_ri rfl) rfl (by show 2 * 0 + _ ≤ _; exact Nat.le_of_eq rfl) (hb hby at_146) (fun _ _ => ⟨rfl, e27, (by decide : 2 + 14 ≤ _), (by decide : 29 + 294 ≤ _)⟩)
    dsimp only [Pt.U, Pt.locs, Pt.cells, Pt.slots] at X29 l29 y29 z29 st29 hQ29
    subst l29 y29 z29
    obtain ⟨a43_29, a40_29, a37_29, a34_29, a31_29, a28_29, a25_29, a22_29, a19_29, a16_29, a13_29, a10_29, a7_29, a4_29, rfl, N29q, W29⟩ := hQ29
    have N29 := Fr.app N23 N29q
    have K30 : Rch p e below s₁ F0 T29 (mkF m 151 #[sI p1, sI p2, sI p3, sI p4, sI p5, sI (Int32.ofNat u0), sI (Int32.ofNat u1), sI (Int32.ofNat u2), sI pv5, sI pv7, sI pv9, sI pv11, sI pv13, sI pv15, sI (own_bi (own_sm u0 pv5 pv7 u2 pv13 pv15)), sI (own_bi (own_sm u1 pv9 pv11 u2 pv13 pv15)), sR a25, sR a27, sU, sU, sU, sU, sU] []) := fun t k => K28 t (st29.trans (XS.astore X29.here hx rfl (hb hby at_149) rfl rfl (l' := #[sI p1, sI p2, sI p3, sI p4, sI p5, sI (Int32.ofNat u0), sI (Int32.ofNat u1), sI (Int32.ofNat u2), sI pv5, sI pv7, sI pv9, sI pv11, sI pv13, sI pv15, sI (own_bi (own_sm u0 pv5 pv7 u2 pv13 pv15)), sI (own_bi (own_sm u1 pv9 pv11 u2 pv13 pv15)), sR a25, sR a27, sU, sU, sU, sU, sU]) rfl k))
    obtain ⟨T31, h31, a31, X31, e31, W31q, st31⟩ := newWO X29 hx hZ hown (hw _ (mi 46 rfl)) (hw _ (mi 47 rfl)) (hw _ (mi 48 rfl)) (rfl : T29.heap = T29.heap) W29 (own_lB hw) (vs := [.null, (.int (0 : Int32)), .null, (.int (0 : Int32)), .null, .null, .null, .null, .null, .null, .null, (.int (0 : Int32)), (.int (0 : Int32)), (.int (0 : Int32)), (.int (0 : Int32)), .null]) own_vB (g := K30.g) rfl (hb hby at_151) (by decide : 16 + 1 ≤ _) (by decide : 323 + 16 ≤ _)
    have W31 : Wo n0 h31 [(a31, oB Z [.null, (kI 0), .null, (kI 0), .null, .null, .null, .null, .null, .null, .null, (kI 0), (kI 0), (kI 0), (kI 0), .null]), (a43_29, Ar Z .double 64 zD), (a40_29, Ar Z .int 64 zI), (a37_29, Ar Z .int 16 zI), (a34_29, Ar Z .int 16 zI), (a31_29, Ar Z .int 17 zI), (a28_29, Ar Z .int 17 zI), (a25_29, Ar Z .int 17 zI), (a22_29, Ar Z .int 17 zI), (a19_29, Ar Z .int 16 zI), (a16_29, Ar Z .int 17 zI), (a13_29, Ar Z .int 17 zI), (a10_29, Ar Z .int 16 zI), (a7_29, Ar Z .int 0 zI), (a4_29, Ar Z .int 0 zI), (a27, oR Z [(kR a4_29), (kR a7_29), (kR a10_29), (kR a13_29), (kR a16_29), (kR a19_29), (kR a22_29), (kR a25_29), (kR a28_29), (kR a31_29), (kR a34_29), (kR a37_29), (kR a40_29), (kR a43_29), (kI 0), .null, (kI 0)]), (a25, Ar Z .int 0 zI)] := W31q
    have K32 : Rch p e below s₁ F0 T31 (mkF m 155 #[sI p1, sI p2, sI p3, sI p4, sI p5, sI (Int32.ofNat u0), sI (Int32.ofNat u1), sI (Int32.ofNat u2), sI pv5, sI pv7, sI pv9, sI pv11, sI pv13, sI pv15, sI (own_bi (own_sm u0 pv5 pv7 u2 pv13 pv15)), sI (own_bi (own_sm u1 pv9 pv11 u2 pv13 pv15)), sR a25, sR a27, sU, sU, sU, sU, sU] [(kR a31), (kR a31)]) := fun t k => K30 t (st31 t (XS.dup X31.here hx rfl (hb hby at_154) rfl rfl k))
    obtain ⟨_, _, ⟨T33, L33, k33, n33⟩, -, X33, ⟨Lc33, hQ33, l33, y33, z33⟩, st33⟩ := X31.specialBack hx (y := (⟨"com/example/sambre/sambre/engine/Rows$Builder", "<init>", "()V"⟩ : MethodName)) rfl hown (mvT hZ (hw _ (mi 49 rfl))) (mvT hZ (hw _ (mi 50 rfl))) (mvT hZ (hw _ (mi 51 rfl))) (by decide) (backOf (W := 1) (rmBI l Z a0 hw [] a31 ((a43_29, Ar Z .double 64 zD) :: (a40_29, Ar Z .int 64 zI) :: (a37_29, Ar Z .int 16 zI) :: (a34_29, Ar Z .int 16 zI) :: (a31_29, Ar Z .int 17 zI) :: (a28_29, Ar Z .int 17 zI) :: (a25_29, Ar Z .int 17 zI) :: (a22_29, Ar Z .int 17 zI) :: (a19_29, Ar Z .int 16 zI) :: (a16_29, Ar Z .int 17 zI) :: (a13_29, Ar Z .int 17 zI) :: (a10_29, Ar Z .int 16 zI) :: (a7_29, Ar Z .int 0 zI) :: (a4_29, Ar Z .int 0 zI) :: (a27, oR Z [(kR a4_29), (kR a7_29), (kR a10_29), (kR a13_29), (kR a16_29), (kR a19_29), (kR a22_29), (kR a25_29), (kR a28_29), (kR a31_29), (kR a34_29), (kR a37_29), (kR a40_29), (kR a43_29), (kI 0), .null, (kI 0)]) :: (a25, Ar Z .int 0 zI) :: []) h31 n0 W31) hZ (hw _ (mi 51 rfl)) (hw _ (mi 48 rfl)) (by decide) (by decide)) (g := K32.g) rfl (by rw [hml]; rfl) (Steps.refl _) (a := a31) (argsL := []) (rest := [(.ref a31)]) (lenOf pd_bi rfl) rfl (by show 2 * 0 + _ ≤ _; exact Nat.le_of_eq rfl) (hb hby at_155) (fun _ _ => ⟨rfl, e31, (by decide : 17 + 7 ≤ _), (by decide : 339 + 18 ≤ _)⟩)
    dsimp only [Pt.U, Pt.locs, Pt.cells, Pt.slots] at X33 l33 y33 z33 st33 hQ33
    subst l33 y33 z33
    obtain ⟨a22_33, a19_33, a16_33, a13_33, a10_33, a7_33, a4_33, rfl, N33q, W33⟩ := hQ33
    have N33 := Fr.app N29 N33q
    have K34 : Rch p e below s₁ F0 T33 (mkF m 166 #[sI p1, sI p2, sI p3, sI p4, sI p5, sI (Int32.ofNat u0), sI (Int32.ofNat u1), sI (Int32.ofNat u2), sI pv5, sI pv7, sI pv9, sI pv11, sI pv13, sI pv15, sI (own_bi (own_sm u0 pv5 pv7 u2 pv13 pv15)), sI (own_bi (own_sm u1 pv9 pv11 u2 pv13 pv15)), sR a25, sR a27, sR a31, sU, sU, sU, sU] [(kI 0), .null, (kI 0), .null, (kR a31)]) := fun t k => K32 t (st33.trans (by
      refine XS.astore X33.here hx rfl (hb hby at_158) rfl rfl (l' := #[sI p1, sI p2, sI p3, sI p4, sI p5, sI (Int32.ofNat u0), sI (Int32.ofNat u1), sI (Int32.ofNat u2), sI pv5, sI pv7, sI pv9, sI pv11, sI pv13, sI pv15, sI (own_bi (own_sm u0 pv5 pv7 u2 pv13 pv15)), sI (own_bi (own_sm u1 pv9 pv11 u2 pv13 pv15)), sR a25, sR a27, sR a31, sU, sU, sU, sU]) rfl ?_
      refine XS.aload X33.here hx rfl (hb hby at_160) rfl rfl ?_
      refine XS.aconstNull X33.here hx rfl (hb hby at_162) ?_
      refine XS.iconst X33.here hx rfl (hb hby at_163) ?_
      refine XS.aconstNull X33.here hx rfl (hb hby at_164) ?_
      refine XS.iconst X33.here hx rfl (hb hby at_165) ?_
      exact k))
    have W35 : Wo n0 T33.heap [(a31, oB Z [.null, (kI 0), .null, (kI 0), (kR a4_33), (kR a7_33), (kR a10_33), (kR a13_33), (kR a16_33), (kR a19_33), (kR a22_33), (kI 0), (kI 0), (kI 0), (kI 0), .null]), (a22_33, Ar Z .double 4 zD), (a19_33, Ar Z .int 4 zI), (a16_33, Ar Z .int 2 zI), (a13_33, Ar Z .int 2 zI), (a10_33, Ar Z .int 2 zI), (a7_33, Ar Z .int 2 zI), (a4_33, Ar Z .int 2 zI), (a43_29, Ar Z .double 64 zD), (a40_29, Ar Z .int 64 zI), (a37_29, Ar Z .int 16 zI), (a34_29, Ar Z .int 16 zI), (a31_29, Ar Z .int 17 zI), (a28_29, Ar Z .int 17 zI), (a25_29, Ar Z .int 17 zI), (a22_29, Ar Z .int 17 zI), (a19_29, Ar Z .int 16 zI), (a16_29, Ar Z .int 17 zI), (a13_29, Ar Z .int 17 zI), (a10_29, Ar Z .int 16 zI), (a7_29, Ar Z .int 0 zI), (a4_29, Ar Z .int 0 zI), (a27, oR Z [(kR a4_29), (kR a7_29), (kR a10_29), (kR a13_29), (kR a16_29), (kR a19_29), (kR a22_29), (kR a25_29), (kR a28_29), (kR a31_29), (kR a34_29), (kR a37_29), (kR a40_29), (kR a43_29), (kI 0), .null, (kI 0)]), (a25, Ar Z .int 0 zI)] := Wo.pick W33 [7, 0, 1, 2, 3, 4, 5, 6, 8, 9, 10, 11, 12, 13, 14, 15, 16, 17, 18, 19, 20, 21, 22, 23] 24 (by decide +kernel) rfl
    obtain ⟨cq36, kq36, q36a, q36b, q36c⟩ := isOf hZ (rfl : T33.heap = T33.heap) (W35.exa (i := 0) rfl)
    obtain ⟨_, _, ⟨T36, L36, k36, n36⟩, -, X36, ⟨Lc36, hQ36, l36, y36, z36⟩, st36⟩ := X33.virtualBack hx (y := (⟨"com/example/sambre/sambre/engine/Rows$Builder", "start", "([II[DI)V"⟩ : MethodName)) (z := (⟨"com/example/sambre/sambre/engine/Rows$Builder", "start", "([II[DI)V"⟩ : MethodName)) hown (mvT hZ (hw _ (mi 67 rfl))) (mvT hZ (hw _ (mi 68 rfl))) (notFace_of_selects (args := #[]) (mvT hZ (hw _ (mi 70 rfl)))) (mvT hZ (hw _ (mi 70 rfl))) (mvT hZ (hw _ (mi 69 rfl))) (by decide) (backOf (W := 0) (rmST l Z a0 hw [] a31 a4_33 a7_33 a10_33 a13_33 a16_33 a19_33 a22_33 (0 : Int32) (0 : Int32) ((a22_33, Ar Z .double 4 zD) :: (a19_33, Ar Z .int 4 zI) :: (a16_33, Ar Z .int 2 zI) :: (a13_33, Ar Z .int 2 zI) :: (a10_33, Ar Z .int 2 zI) :: (a7_33, Ar Z .int 2 zI) :: (a4_33, Ar Z .int 2 zI) :: (a43_29, Ar Z .double 64 zD) :: (a40_29, Ar Z .int 64 zI) :: (a37_29, Ar Z .int 16 zI) :: (a34_29, Ar Z .int 16 zI) :: (a31_29, Ar Z .int 17 zI) :: (a28_29, Ar Z .int 17 zI) :: (a25_29, Ar Z .int 17 zI) :: (a22_29, Ar Z .int 17 zI) :: (a19_29, Ar Z .int 16 zI) :: (a16_29, Ar Z .int 17 zI) :: (a13_29, Ar Z .int 17 zI) :: (a10_29, Ar Z .int 16 zI) :: (a7_29, Ar Z .int 0 zI) :: (a4_29, Ar Z .int 0 zI) :: (a27, oR Z [(kR a4_29), (kR a7_29), (kR a10_29), (kR a13_29), (kR a16_29), (kR a19_29), (kR a22_29), (kR a25_29), (kR a28_29), (kR a31_29), (kR a34_29), (kR a37_29), (kR a40_29), (kR a43_29), (kI 0), .null, (kI 0)]) :: (a25, Ar Z .int 0 zI) :: []) T33.heap n0 W35) hZ (hw _ (mi 71 rfl)) (hw _ (mi 48 rfl)) (by decide) (by decide)) q36a q36c (g := K34.g) rfl (by rw [hml]; rfl) (Steps.refl _) (argsL := [.null, (.int (0 : Int32)), .null, (.int (0 : Int32))]) (rest := []) (lenOf pd_st rfl) rfl (by show 2 * 0 + _ ≤ _; exact Nat.le_of_eq rfl) (hb hby at_166) (fun _ _ => ⟨rfl, (rfl : T33.heap = T33.heap), (by decide : 24 + 0 ≤ _), (by decide : 357 + 0 ≤ _)⟩)
    dsimp only [Pt.U, Pt.locs, Pt.cells, Pt.slots] at X36 l36 y36 z36 st36 hQ36
    subst l36 y36 z36
    obtain ⟨rfl, N36q, W36⟩ := hQ36
    have N36 := Fr.app N33 N36q
    have K37 : Rch p e below s₁ F0 T36 (mkF m 177 #[sI p1, sI p2, sI p3, sI p4, sI p5, sI (Int32.ofNat u0), sI (Int32.ofNat u1), sI (Int32.ofNat u2), sI pv5, sI pv7, sI pv9, sI pv11, sI pv13, sI pv15, sI (own_bi (own_sm u0 pv5 pv7 u2 pv13 pv15)), sI (own_bi (own_sm u1 pv9 pv11 u2 pv13 pv15)), sR a25, sR a27, sR a31, sU, sU, sU, sU] [(kI pv7), (kI pv5), (kI (Int32.ofNat u0)), (kR a31)]) := fun t k => K34 t (st36.trans (by
      refine XS.aload X36.here hx rfl (hb hby at_169) rfl rfl ?_
      refine XS.iload X36.here hx rfl (hb hby at_171) rfl ?_
      refine XS.iload X36.here hx rfl (hb hby at_173) rfl ?_
      refine XS.iload X36.here hx rfl (hb hby at_175) rfl ?_
      exact k))
    have W38 : Wo n0 T36.heap [(a31, oB Z [.null, (kI 0), .null, (kI 0), (kR a4_33), (kR a7_33), (kR a10_33), (kR a13_33), (kR a16_33), (kR a19_33), (kR a22_33), (kI 0), (kI 0), (kI 0), (kI 0), .null]), (a13_33, Ar Z .int 2 zI), (a4_33, Ar Z .int 2 zI), (a10_33, Ar Z .int 2 zI), (a16_33, Ar Z .int 2 zI), (a22_33, Ar Z .double 4 zD), (a19_33, Ar Z .int 4 zI), (a7_33, Ar Z .int 2 zI), (a43_29, Ar Z .double 64 zD), (a40_29, Ar Z .int 64 zI), (a37_29, Ar Z .int 16 zI), (a34_29, Ar Z .int 16 zI), (a31_29, Ar Z .int 17 zI), (a28_29, Ar Z .int 17 zI), (a25_29, Ar Z .int 17 zI), (a22_29, Ar Z .int 17 zI), (a19_29, Ar Z .int 16 zI), (a16_29, Ar Z .int 17 zI), (a13_29, Ar Z .int 17 zI), (a10_29, Ar Z .int 16 zI), (a7_29, Ar Z .int 0 zI), (a4_29, Ar Z .int 0 zI), (a27, oR Z [(kR a4_29), (kR a7_29), (kR a10_29), (kR a13_29), (kR a16_29), (kR a19_29), (kR a22_29), (kR a25_29), (kR a28_29), (kR a31_29), (kR a34_29), (kR a37_29), (kR a40_29), (kR a43_29), (kI 0), .null, (kI 0)]), (a25, Ar Z .int 0 zI)] := Wo.pick W36 [0, 4, 7, 5, 3, 1, 2, 6, 8, 9, 10, 11, 12, 13, 14, 15, 16, 17, 18, 19, 20, 21, 22, 23] 24 (by decide +kernel) rfl
    obtain ⟨_, _, ⟨T39, L39, k39, n39⟩, -, X39, ⟨Lc39, hQ39, l39, y39, z39⟩, st39⟩ := Jvm.LawKit.callS X36 hx (y := (⟨"com/example/sambre/sambre/engine/RowsChoiceNamedAsPinLaw", "choice", "(Lcom/example/sambre/sambre/engine/Rows$Builder;III)V"⟩ : MethodName)) hown (mvT hZ (hw _ (mi 90 rfl))) (mvT hZ (hw _ (mi 91 rfl))) (mvT hZ (hw _ (mi 2 rfl))) (mvT hZ (hw _ (mi 92 rfl))) (by decide) (backOf (W := 0) (rmCH0 l Z a0 hw [] a31 a4_33 a7_33 a10_33 a13_33 a16_33 a19_33 a22_33 u0 0 2 pv5 pv7 zI zI zI zI ((a22_33, Ar Z .double 4 zD) :: (a19_33, Ar Z .int 4 zI) :: (a7_33, Ar Z .int 2 zI) :: (a43_29, Ar Z .double 64 zD) :: (a40_29, Ar Z .int 64 zI) :: (a37_29, Ar Z .int 16 zI) :: (a34_29, Ar Z .int 16 zI) :: (a31_29, Ar Z .int 17 zI) :: (a28_29, Ar Z .int 17 zI) :: (a25_29, Ar Z .int 17 zI) :: (a22_29, Ar Z .int 17 zI) :: (a19_29, Ar Z .int 16 zI) :: (a16_29, Ar Z .int 17 zI) :: (a13_29, Ar Z .int 17 zI) :: (a10_29, Ar Z .int 16 zI) :: (a7_29, Ar Z .int 0 zI) :: (a4_29, Ar Z .int 0 zI) :: (a27, oR Z [(kR a4_29), (kR a7_29), (kR a10_29), (kR a13_29), (kR a16_29), (kR a19_29), (kR a22_29), (kR a25_29), (kR a28_29), (kR a31_29), (kR a34_29), (kR a37_29), (kR a40_29), (kR a43_29), (kI 0), .null, (kI 0)]) :: (a25, Ar Z .int 0 zI) :: []) T36.heap n0 W38 (by omega) (by omega) (by omega) (by omega)) hZ (hw _ (mi 92 rfl)) (hw _ (mi 2 rfl)) (by decide) (by decide)) (g := K37.g) rfl (by rw [hml]; rfl) (argsL := [(.ref a31), (.int (Int32.ofNat u0)), (.int pv5), (.int pv7)]) (rest := []) (lenOf pd_ch rfl) rfl (by show 2 * 0 + _ ≤ _; exact Nat.le_of_eq rfl) (hb hby at_177) (fun _ _ => ⟨rfl, (rfl : T36.heap = T36.heap), (by decide : 24 + 2 ≤ _), (by decide : 357 + 8 ≤ _)⟩)
    dsimp only [Pt.U, Pt.locs, Pt.cells, Pt.slots] at X39 l39 y39 z39 st39 hQ39
    subst l39 y39 z39
    obtain ⟨rfl, N39q, cm39, m39, f39, W39, hn39, hc39, hk39, hx39, hy39⟩ := hQ39
    have N39 := Fr.app N36 N39q
    have K40 : Rch p e below s₁ F0 T39 (mkF m 188 #[sI p1, sI p2, sI p3, sI p4, sI p5, sI (Int32.ofNat u0), sI (Int32.ofNat u1), sI (Int32.ofNat u2), sI pv5, sI pv7, sI pv9, sI pv11, sI pv13, sI pv15, sI (own_bi (own_sm u0 pv5 pv7 u2 pv13 pv15)), sI (own_bi (own_sm u1 pv9 pv11 u2 pv13 pv15)), sR a25, sR a27, sR a31, sU, sU, sU, sU] [(kI pv11), (kI pv9), (kI (Int32.ofNat u1)), (kR a31)]) := fun t k => K37 t (st39 t (by
      refine XS.aload X39.here hx rfl (hb hby at_180) rfl rfl ?_
      refine XS.iload X39.here hx rfl (hb hby at_182) rfl ?_
      refine XS.iload X39.here hx rfl (hb hby at_184) rfl ?_
      refine XS.iload X39.here hx rfl (hb hby at_186) rfl ?_
      exact k))
    obtain ⟨_, _, ⟨T41, L41, k41, n41⟩, -, X41, ⟨Lc41, hQ41, l41, y41, z41⟩, st41⟩ := Jvm.LawKit.callS X39 hx (y := (⟨"com/example/sambre/sambre/engine/RowsChoiceNamedAsPinLaw", "choice", "(Lcom/example/sambre/sambre/engine/Rows$Builder;III)V"⟩ : MethodName)) hown (mvT hZ (hw _ (mi 90 rfl))) (mvT hZ (hw _ (mi 91 rfl))) (mvT hZ (hw _ (mi 2 rfl))) (mvT hZ (hw _ (mi 92 rfl))) (by decide) (backOf (W := 0) (rmCH1 l Z a0 hw [] a31 a4_33 a7_33 a10_33 cm39 a16_33 a19_33 a22_33 u1 (0 + u0) m39 pv9 pv11 f39 (upd zI 0 (kI 0)) (upd zI 0 (kI (Int32.ofNat 0))) (upd zI 0 (kI 0)) ((a22_33, Ar Z .double 4 zD) :: (a19_33, Ar Z .int 4 zI) :: (a7_33, Ar Z .int 2 zI) :: (a43_29, Ar Z .double 64 zD) :: (a40_29, Ar Z .int 64 zI) :: (a37_29, Ar Z .int 16 zI) :: (a34_29, Ar Z .int 16 zI) :: (a31_29, Ar Z .int 17 zI) :: (a28_29, Ar Z .int 17 zI) :: (a25_29, Ar Z .int 17 zI) :: (a22_29, Ar Z .int 17 zI) :: (a19_29, Ar Z .int 16 zI) :: (a16_29, Ar Z .int 17 zI) :: (a13_29, Ar Z .int 17 zI) :: (a10_29, Ar Z .int 16 zI) :: (a7_29, Ar Z .int 0 zI) :: (a4_29, Ar Z .int 0 zI) :: (a27, oR Z [(kR a4_29), (kR a7_29), (kR a10_29), (kR a13_29), (kR a16_29), (kR a19_29), (kR a22_29), (kR a25_29), (kR a28_29), (kR a31_29), (kR a34_29), (kR a37_29), (kR a40_29), (kR a43_29), (kI 0), .null, (kI 0)]) :: (a25, Ar Z .int 0 zI) :: []) T39.heap n0 W39 (by omega) (by omega) (by omega) (by omega)) hZ (hw _ (mi 92 rfl)) (hw _ (mi 2 rfl)) (by decide) (by decide)) (g := K40.g) rfl (by rw [hml]; rfl) (argsL := [(.ref a31), (.int (Int32.ofNat u1)), (.int pv9), (.int pv11)]) (rest := []) (lenOf pd_ch rfl) rfl (by show 2 * 0 + _ ≤ _; exact Nat.le_of_eq rfl) (hb hby at_188) (fun _ _ => ⟨rfl, (rfl : T39.heap = T39.heap), (by decide : 26 + 2 ≤ _), (by decide : 365 + 8 ≤ _)⟩)
    dsimp only [Pt.U, Pt.locs, Pt.cells, Pt.slots] at X41 l41 y41 z41 st41 hQ41
    subst l41 y41 z41
    obtain ⟨rfl, N41q, cm41, m41, f41, W41, hn41, hc41, hk41, hx41, hy41⟩ := hQ41
    have N41 := Fr.app N39 N41q
    have K42 : Rch p e below s₁ F0 T41 (mkF m 198 #[sI p1, sI p2, sI p3, sI p4, sI p5, sI (Int32.ofNat u0), sI (Int32.ofNat u1), sI (Int32.ofNat u2), sI pv5, sI pv7, sI pv9, sI pv11, sI pv13, sI pv15, sI (own_bi (own_sm u0 pv5 pv7 u2 pv13 pv15)), sI (own_bi (own_sm u1 pv9 pv11 u2 pv13 pv15)), sR a25, sR a27, sR a31, sU, sU, sU, sU] [(kI (-1)), (kR a25), (kR a31), (kR a27)]) := fun t k => K40 t (st41 t (by
      refine XS.aload X41.here hx rfl (hb hby at_191) rfl rfl ?_
      refine XS.aload X41.here hx rfl (hb hby at_193) rfl rfl ?_
      refine XS.aload X41.here hx rfl (hb hby at_195) rfl rfl ?_
      refine XS.iconst X41.here hx rfl (hb hby at_197) ?_
      exact k))
    have W43 : Wo n0 T41.heap [(a27, oR Z [(kR a4_29), (kR a7_29), (kR a10_29), (kR a13_29), (kR a16_29), (kR a19_29), (kR a22_29), (kR a25_29), (kR a28_29), (kR a31_29), (kR a34_29), (kR a37_29), (kR a40_29), (kR a43_29), (kI 0), .null, (kI 0)]), (a31, oB Z [.null, (kI 0), .null, (kI 0), (kR a4_33), (kR a7_33), (kR a10_33), (kR cm41), (kR a16_33), (kR a19_33), (kR a22_33), (kI 2), (kI 0), (kI (Int32.ofNat ((0 + u0) + u1))), (kI 0), .null]), (a4_29, Ar Z .int 0 zI), (a7_29, Ar Z .int 0 zI), (a10_29, Ar Z .int 16 zI), (a13_29, Ar Z .int 17 zI), (a16_29, Ar Z .int 17 zI), (a19_29, Ar Z .int 16 zI), (a22_29, Ar Z .int 17 zI), (a25_29, Ar Z .int 17 zI), (a28_29, Ar Z .int 17 zI), (a31_29, Ar Z .int 17 zI), (a34_29, Ar Z .int 16 zI), (a37_29, Ar Z .int 16 zI), (a40_29, Ar Z .int 64 zI), (a43_29, Ar Z .double 64 zD), (a4_33, Ar Z .int 2 (upd (upd zI 0 (kI 0)) 1 (kI 0))), (a10_33, Ar Z .int 2 (upd (upd zI 0 (kI (Int32.ofNat 0))) 1 (kI (Int32.ofNat (0 + u0))))), (a16_33, Ar Z .int 2 (upd (upd zI 0 (kI 0)) 1 (kI 0))), (a7_33, Ar Z .int 2 zI), (cm41, Ar Z .int m41 f41), (a19_33, Ar Z .int 4 zI), (a22_33, Ar Z .double 4 zD), (a25, Ar Z .int 0 zI)] := Wo.pick W41 [22, 0, 21, 20, 19, 18, 17, 16, 15, 14, 13, 12, 11, 10, 9, 8, 2, 3, 4, 7, 1, 6, 5, 23] 24 (by decide +kernel) rfl
    obtain ⟨cq44, kq44, q44a, q44b, q44c⟩ := isOf hZ (rfl : T41.heap = T41.heap) (W43.exa (i := 0) rfl)
    obtain ⟨_, _, ⟨T44, L44, k44, n44⟩, -, X44, ⟨Lc44, hQ44, l44, y44, z44⟩, st44⟩ := X41.virtualBack hx (y := (⟨"com/example/sambre/sambre/engine/Rows", "add", "(Lcom/example/sambre/sambre/engine/Rows$Builder;[II)I"⟩ : MethodName)) (z := (⟨"com/example/sambre/sambre/engine/Rows", "add", "(Lcom/example/sambre/sambre/engine/Rows$Builder;[II)I"⟩ : MethodName)) hown (mvT hZ (hw _ (mi 103 rfl))) (mvT hZ (hw _ (mi 104 rfl))) (notFace_of_selects (args := #[]) (mvT hZ (hw _ (mi 106 rfl)))) (mvT hZ (hw _ (mi 106 rfl))) (mvT hZ (hw _ (mi 105 rfl))) (by decide) (backOf (W := 0) (rmADA l Z a0 hw [] a27 a4_29 a7_29 a10_29 a13_29 a16_29 a19_29 a22_29 a25_29 a28_29 a31_29 a34_29 a37_29 a40_29 a43_29 a31 a4_33 a7_33 a10_33 cm41 a16_33 a19_33 a22_33 a25 ((0 + u0) + u1) m41 0 (0 + u0) zI zI zI zI zI zI zI zI zI zI zI zI zI zD (upd (upd zI 0 (kI 0)) 1 (kI 0)) (upd (upd zI 0 (kI (Int32.ofNat 0))) 1 (kI (Int32.ofNat (0 + u0)))) (upd (upd zI 0 (kI 0)) 1 (kI 0)) zI f41 zI zD zI ([]) T41.heap n0 W43 (by omega) (by omega) rfl rfl rfl rfl rfl rfl rfl rfl rfl rfl rfl rfl) hZ (hw _ (mi 107 rfl)) (hw _ (mi 10 rfl)) (by decide) (by decide)) q44a q44c (g := K42.g) rfl (by rw [hml]; rfl) (Steps.refl _) (argsL := [(.ref a31), (.ref a25), (.int (-1 : Int32))]) (rest := []) (lenOf pd_add rfl) rfl (by show 2 * 0 + _ ≤ _; exact Nat.le_of_eq rfl) (hb hby at_198) (fun _ _ => ⟨rfl, (rfl : T41.heap = T41.heap), (by decide : 28 + 0 ≤ _), (by decide : 373 + 0 ≤ _)⟩)
    dsimp only [Pt.U, Pt.locs, Pt.cells, Pt.slots] at X44 l44 y44 z44 st44 hQ44
    subst l44 y44 z44
    obtain ⟨rfl, N44q, W44⟩ := hQ44
    have N44 := Fr.app N41 N44q
    have K45 : Rch p e below s₁ F0 T44 (mkF m 208 #[sI p1, sI p2, sI p3, sI p4, sI p5, sI (Int32.ofNat u0), sI (Int32.ofNat u1), sI (Int32.ofNat u2), sI pv5, sI pv7, sI pv9, sI pv11, sI pv13, sI pv15, sI (own_bi (own_sm u0 pv5 pv7 u2 pv13 pv15)), sI (own_bi (own_sm u1 pv9 pv11 u2 pv13 pv15)), sR a25, sR a27, sR a31, sU, sU, sU, sU] [(kI 0), .null, (kI 0), .null, (kR a31)]) := fun t k => K42 t (st44.trans (by
      refine XS.pop X44.here hx rfl (hb hby at_201) rfl rfl ?_
      refine XS.aload X44.here hx rfl (hb hby at_202) rfl rfl ?_
      refine XS.aconstNull X44.here hx rfl (hb hby at_204) ?_
      refine XS.iconst X44.here hx rfl (hb hby at_205) ?_
      refine XS.aconstNull X44.here hx rfl (hb hby at_206) ?_
      refine XS.iconst X44.here hx rfl (hb hby at_207) ?_
      exact k))
    have W46 : Wo n0 T44.heap [(a31, oB Z [.null, (kI 0), .null, (kI 0), (kR a4_33), (kR a7_33), (kR a10_33), (kR cm41), (kR a16_33), (kR a19_33), (kR a22_33), (kI 2), (kI 0), (kI (Int32.ofNat ((0 + u0) + u1))), (kI 0), .null]), (a27, oR Z [(kR a4_29), (kR a7_29), (kR a10_29), (kR a13_29), (kR a16_29), (kR a19_29), (kR a22_29), (kR a25_29), (kR a28_29), (kR a31_29), (kR a34_29), (kR a37_29), (kR a40_29), (kR a43_29), (kI 1), .null, (kI 1)]), (a4_29, Ar Z .int 0 zI), (a7_29, Ar Z .int 0 (cpy zI zI 0 0 0)), (a10_29, Ar Z .int 16 (upd zI 0 (kI (-1)))), (a13_29, Ar Z .int 17 (upd zI 1 (kI 2))), (a16_29, Ar Z .int 17 (upd zI 1 (kI 0))), (a19_29, Ar Z .int 16 (upd zI 0 (kI (-1)))), (a22_29, Ar Z .int 17 (upd zI 1 (kI 0))), (a25_29, Ar Z .int 17 (upd (upd (upd zI 0 (kI 0)) 1 (kI 0)) 2 (kI 0))), (a28_29, Ar Z .int 17 (upd (upd (upd zI 0 (kI (Int32.ofNat 0))) 1 (kI (Int32.ofNat (0 + u0)))) 2 (kI (Int32.ofNat ((0 + u0) + u1))))), (a31_29, Ar Z .int 17 (upd (upd (upd zI 0 (kI 0)) 1 (kI 0)) 2 (kI 0))), (a34_29, Ar Z .int 16 (cpy zI zI 0 0 0)), (a37_29, Ar Z .int 16 (cpy f41 zI 0 0 ((0 + u0) + u1))), (a40_29, Ar Z .int 64 (cpy zI zI 0 0 0)), (a43_29, Ar Z .double 64 (cpy zD zD 0 0 0)), (a4_33, Ar Z .int 2 (upd (upd zI 0 (kI 0)) 1 (kI 0))), (a10_33, Ar Z .int 2 (upd (upd zI 0 (kI (Int32.ofNat 0))) 1 (kI (Int32.ofNat (0 + u0))))), (a16_33, Ar Z .int 2 (upd (upd zI 0 (kI 0)) 1 (kI 0))), (a7_33, Ar Z .int 2 zI), (cm41, Ar Z .int m41 f41), (a19_33, Ar Z .int 4 zI), (a22_33, Ar Z .double 4 zD), (a25, Ar Z .int 0 zI)] := Wo.pick W44 [1, 0, 2, 3, 4, 5, 6, 7, 8, 9, 10, 11, 12, 13, 14, 15, 16, 17, 18, 19, 20, 21, 22, 23] 24 (by decide +kernel) rfl
    obtain ⟨cq47, kq47, q47a, q47b, q47c⟩ := isOf hZ (rfl : T44.heap = T44.heap) (W46.exa (i := 0) rfl)
    obtain ⟨_, _, ⟨T47, L47, k47, n47⟩, -, X47, ⟨Lc47, hQ47, l47, y47, z47⟩, st47⟩ := X44.virtualBack hx (y := (⟨"com/example/sambre/sambre/engine/Rows$Builder", "start", "([II[DI)V"⟩ : MethodName)) (z := (⟨"com/example/sambre/sambre/engine/Rows$Builder", "start", "([II[DI)V"⟩ : MethodName)) hown (mvT hZ (hw _ (mi 67 rfl))) (mvT hZ (hw _ (mi 68 rfl))) (notFace_of_selects (args := #[]) (mvT hZ (hw _ (mi 70 rfl)))) (mvT hZ (hw _ (mi 70 rfl))) (mvT hZ (hw _ (mi 69 rfl))) (by decide) (backOf (W := 0) (rmST l Z a0 hw [] a31 a4_33 a7_33 a10_33 cm41 a16_33 a19_33 a22_33 (2 : Int32) (Int32.ofNat ((0 + u0) + u1)) ((a27, oR Z [(kR a4_29), (kR a7_29), (kR a10_29), (kR a13_29), (kR a16_29), (kR a19_29), (kR a22_29), (kR a25_29), (kR a28_29), (kR a31_29), (kR a34_29), (kR a37_29), (kR a40_29), (kR a43_29), (kI 1), .null, (kI 1)]) :: (a4_29, Ar Z .int 0 zI) :: (a7_29, Ar Z .int 0 (cpy zI zI 0 0 0)) :: (a10_29, Ar Z .int 16 (upd zI 0 (kI (-1)))) :: (a13_29, Ar Z .int 17 (upd zI 1 (kI 2))) :: (a16_29, Ar Z .int 17 (upd zI 1 (kI 0))) :: (a19_29, Ar Z .int 16 (upd zI 0 (kI (-1)))) :: (a22_29, Ar Z .int 17 (upd zI 1 (kI 0))) :: (a25_29, Ar Z .int 17 (upd (upd (upd zI 0 (kI 0)) 1 (kI 0)) 2 (kI 0))) :: (a28_29, Ar Z .int 17 (upd (upd (upd zI 0 (kI (Int32.ofNat 0))) 1 (kI (Int32.ofNat (0 + u0)))) 2 (kI (Int32.ofNat ((0 + u0) + u1))))) :: (a31_29, Ar Z .int 17 (upd (upd (upd zI 0 (kI 0)) 1 (kI 0)) 2 (kI 0))) :: (a34_29, Ar Z .int 16 (cpy zI zI 0 0 0)) :: (a37_29, Ar Z .int 16 (cpy f41 zI 0 0 ((0 + u0) + u1))) :: (a40_29, Ar Z .int 64 (cpy zI zI 0 0 0)) :: (a43_29, Ar Z .double 64 (cpy zD zD 0 0 0)) :: (a4_33, Ar Z .int 2 (upd (upd zI 0 (kI 0)) 1 (kI 0))) :: (a10_33, Ar Z .int 2 (upd (upd zI 0 (kI (Int32.ofNat 0))) 1 (kI (Int32.ofNat (0 + u0))))) :: (a16_33, Ar Z .int 2 (upd (upd zI 0 (kI 0)) 1 (kI 0))) :: (a7_33, Ar Z .int 2 zI) :: (cm41, Ar Z .int m41 f41) :: (a19_33, Ar Z .int 4 zI) :: (a22_33, Ar Z .double 4 zD) :: (a25, Ar Z .int 0 zI) :: []) T44.heap n0 W46) hZ (hw _ (mi 71 rfl)) (hw _ (mi 48 rfl)) (by decide) (by decide)) q47a q47c (g := K45.g) rfl (by rw [hml]; rfl) (Steps.refl _) (argsL := [.null, (.int (0 : Int32)), .null, (.int (0 : Int32))]) (rest := []) (lenOf pd_st rfl) rfl (by show 2 * 0 + _ ≤ _; exact Nat.le_of_eq rfl) (hb hby at_208) (fun _ _ => ⟨rfl, (rfl : T44.heap = T44.heap), (by decide : 28 + 0 ≤ _), (by decide : 373 + 0 ≤ _)⟩)
    dsimp only [Pt.U, Pt.locs, Pt.cells, Pt.slots] at X47 l47 y47 z47 st47 hQ47
    subst l47 y47 z47
    obtain ⟨rfl, N47q, W47⟩ := hQ47
    have N47 := Fr.app N44 N47q
    have K48 : Rch p e below s₁ F0 T47 (mkF m 219 #[sI p1, sI p2, sI p3, sI p4, sI p5, sI (Int32.ofNat u0), sI (Int32.ofNat u1), sI (Int32.ofNat u2), sI pv5, sI pv7, sI pv9, sI pv11, sI pv13, sI pv15, sI (own_bi (own_sm u0 pv5 pv7 u2 pv13 pv15)), sI (own_bi (own_sm u1 pv9 pv11 u2 pv13 pv15)), sR a25, sR a27, sR a31, sU, sU, sU, sU] [(kI pv15), (kI pv13), (kI (Int32.ofNat u2)), (kR a31)]) := fun t k => K45 t (st47.trans (by
      refine XS.aload X47.here hx rfl (hb hby at_211) rfl rfl ?_
      refine XS.iload X47.here hx rfl (hb hby at_213) rfl ?_
      refine XS.iload X47.here hx rfl (hb hby at_215) rfl ?_
      refine XS.iload X47.here hx rfl (hb hby at_217) rfl ?_
      exact k))
    have W49 : Wo n0 T47.heap [(a31, oB Z [.null, (kI 0), .null, (kI 0), (kR a4_33), (kR a7_33), (kR a10_33), (kR cm41), (kR a16_33), (kR a19_33), (kR a22_33), (kI 0), (kI 0), (kI 0), (kI 0), .null]), (cm41, Ar Z .int m41 f41), (a4_33, Ar Z .int 2 (upd (upd zI 0 (kI 0)) 1 (kI 0))), (a10_33, Ar Z .int 2 (upd (upd zI 0 (kI (Int32.ofNat 0))) 1 (kI (Int32.ofNat (0 + u0))))), (a16_33, Ar Z .int 2 (upd (upd zI 0 (kI 0)) 1 (kI 0))), (a27, oR Z [(kR a4_29), (kR a7_29), (kR a10_29), (kR a13_29), (kR a16_29), (kR a19_29), (kR a22_29), (kR a25_29), (kR a28_29), (kR a31_29), (kR a34_29), (kR a37_29), (kR a40_29), (kR a43_29), (kI 1), .null, (kI 1)]), (a4_29, Ar Z .int 0 zI), (a7_29, Ar Z .int 0 (cpy zI zI 0 0 0)), (a10_29, Ar Z .int 16 (upd zI 0 (kI (-1)))), (a13_29, Ar Z .int 17 (upd zI 1 (kI 2))), (a16_29, Ar Z .int 17 (upd zI 1 (kI 0))), (a19_29, Ar Z .int 16 (upd zI 0 (kI (-1)))), (a22_29, Ar Z .int 17 (upd zI 1 (kI 0))), (a25_29, Ar Z .int 17 (upd (upd (upd zI 0 (kI 0)) 1 (kI 0)) 2 (kI 0))), (a28_29, Ar Z .int 17 (upd (upd (upd zI 0 (kI (Int32.ofNat 0))) 1 (kI (Int32.ofNat (0 + u0)))) 2 (kI (Int32.ofNat ((0 + u0) + u1))))), (a31_29, Ar Z .int 17 (upd (upd (upd zI 0 (kI 0)) 1 (kI 0)) 2 (kI 0))), (a34_29, Ar Z .int 16 (cpy zI zI 0 0 0)), (a37_29, Ar Z .int 16 (cpy f41 zI 0 0 ((0 + u0) + u1))), (a40_29, Ar Z .int 64 (cpy zI zI 0 0 0)), (a43_29, Ar Z .double 64 (cpy zD zD 0 0 0)), (a7_33, Ar Z .int 2 zI), (a19_33, Ar Z .int 4 zI), (a22_33, Ar Z .double 4 zD), (a25, Ar Z .int 0 zI)] := Wo.pick W47 [0, 20, 16, 17, 18, 1, 2, 3, 4, 5, 6, 7, 8, 9, 10, 11, 12, 13, 14, 15, 19, 21, 22, 23] 24 (by decide +kernel) rfl
    obtain ⟨_, _, ⟨T50, L50, k50, n50⟩, -, X50, ⟨Lc50, hQ50, l50, y50, z50⟩, st50⟩ := Jvm.LawKit.callS X47 hx (y := (⟨"com/example/sambre/sambre/engine/RowsChoiceNamedAsPinLaw", "choice", "(Lcom/example/sambre/sambre/engine/Rows$Builder;III)V"⟩ : MethodName)) hown (mvT hZ (hw _ (mi 90 rfl))) (mvT hZ (hw _ (mi 91 rfl))) (mvT hZ (hw _ (mi 2 rfl))) (mvT hZ (hw _ (mi 92 rfl))) (by decide) (backOf (W := 0) (rmCH0 l Z a0 hw [] a31 a4_33 a7_33 a10_33 cm41 a16_33 a19_33 a22_33 u2 0 m41 pv13 pv15 f41 (upd (upd zI 0 (kI 0)) 1 (kI 0)) (upd (upd zI 0 (kI (Int32.ofNat 0))) 1 (kI (Int32.ofNat (0 + u0)))) (upd (upd zI 0 (kI 0)) 1 (kI 0)) ((a27, oR Z [(kR a4_29), (kR a7_29), (kR a10_29), (kR a13_29), (kR a16_29), (kR a19_29), (kR a22_29), (kR a25_29), (kR a28_29), (kR a31_29), (kR a34_29), (kR a37_29), (kR a40_29), (kR a43_29), (kI 1), .null, (kI 1)]) :: (a4_29, Ar Z .int 0 zI) :: (a7_29, Ar Z .int 0 (cpy zI zI 0 0 0)) :: (a10_29, Ar Z .int 16 (upd zI 0 (kI (-1)))) :: (a13_29, Ar Z .int 17 (upd zI 1 (kI 2))) :: (a16_29, Ar Z .int 17 (upd zI 1 (kI 0))) :: (a19_29, Ar Z .int 16 (upd zI 0 (kI (-1)))) :: (a22_29, Ar Z .int 17 (upd zI 1 (kI 0))) :: (a25_29, Ar Z .int 17 (upd (upd (upd zI 0 (kI 0)) 1 (kI 0)) 2 (kI 0))) :: (a28_29, Ar Z .int 17 (upd (upd (upd zI 0 (kI (Int32.ofNat 0))) 1 (kI (Int32.ofNat (0 + u0)))) 2 (kI (Int32.ofNat ((0 + u0) + u1))))) :: (a31_29, Ar Z .int 17 (upd (upd (upd zI 0 (kI 0)) 1 (kI 0)) 2 (kI 0))) :: (a34_29, Ar Z .int 16 (cpy zI zI 0 0 0)) :: (a37_29, Ar Z .int 16 (cpy f41 zI 0 0 ((0 + u0) + u1))) :: (a40_29, Ar Z .int 64 (cpy zI zI 0 0 0)) :: (a43_29, Ar Z .double 64 (cpy zD zD 0 0 0)) :: (a7_33, Ar Z .int 2 zI) :: (a19_33, Ar Z .int 4 zI) :: (a22_33, Ar Z .double 4 zD) :: (a25, Ar Z .int 0 zI) :: []) T47.heap n0 W49 (by omega) (by omega) (by omega) (by omega)) hZ (hw _ (mi 92 rfl)) (hw _ (mi 2 rfl)) (by decide) (by decide)) (g := K48.g) rfl (by rw [hml]; rfl) (argsL := [(.ref a31), (.int (Int32.ofNat u2)), (.int pv13), (.int pv15)]) (rest := []) (lenOf pd_ch rfl) rfl (by show 2 * 0 + _ ≤ _; exact Nat.le_of_eq rfl) (hb hby at_219) (fun _ _ => ⟨rfl, (rfl : T47.heap = T47.heap), (by decide : 28 + 2 ≤ _), (by decide : 373 + 8 ≤ _)⟩)
    dsimp only [Pt.U, Pt.locs, Pt.cells, Pt.slots] at X50 l50 y50 z50 st50 hQ50
    subst l50 y50 z50
    obtain ⟨rfl, N50q, cm50, m50, f50, W50, hn50, hc50, hk50, hx50, hy50⟩ := hQ50
    have N50 := Fr.app N47 N50q
    have K51 : Rch p e below s₁ F0 T50 (mkF m 229 #[sI p1, sI p2, sI p3, sI p4, sI p5, sI (Int32.ofNat u0), sI (Int32.ofNat u1), sI (Int32.ofNat u2), sI pv5, sI pv7, sI pv9, sI pv11, sI pv13, sI pv15, sI (own_bi (own_sm u0 pv5 pv7 u2 pv13 pv15)), sI (own_bi (own_sm u1 pv9 pv11 u2 pv13 pv15)), sR a25, sR a27, sR a31, sU, sU, sU, sU] [(kI (-1)), (kR a25), (kR a31), (kR a27)]) := fun t k => K48 t (st50 t (by
      refine XS.aload X50.here hx rfl (hb hby at_222) rfl rfl ?_
      refine XS.aload X50.here hx rfl (hb hby at_224) rfl rfl ?_
      refine XS.aload X50.here hx rfl (hb hby at_226) rfl rfl ?_
      refine XS.iconst X50.here hx rfl (hb hby at_228) ?_
      exact k))
    have W52 : Wo n0 T50.heap [(a27, oR Z [(kR a4_29), (kR a7_29), (kR a10_29), (kR a13_29), (kR a16_29), (kR a19_29), (kR a22_29), (kR a25_29), (kR a28_29), (kR a31_29), (kR a34_29), (kR a37_29), (kR a40_29), (kR a43_29), (kI 1), .null, (kI 1)]), (a31, oB Z [.null, (kI 0), .null, (kI 0), (kR a4_33), (kR a7_33), (kR a10_33), (kR cm50), (kR a16_33), (kR a19_33), (kR a22_33), (kI 1), (kI 0), (kI (Int32.ofNat (0 + u2))), (kI 0), .null]), (a4_29, Ar Z .int 0 zI), (a7_29, Ar Z .int 0 (cpy zI zI 0 0 0)), (a10_29, Ar Z .int 16 (upd zI 0 (kI (-1)))), (a13_29, Ar Z .int 17 (upd zI 1 (kI 2))), (a16_29, Ar Z .int 17 (upd zI 1 (kI 0))), (a19_29, Ar Z .int 16 (upd zI 0 (kI (-1)))), (a22_29, Ar Z .int 17 (upd zI 1 (kI 0))), (a25_29, Ar Z .int 17 (upd (upd (upd zI 0 (kI 0)) 1 (kI 0)) 2 (kI 0))), (a28_29, Ar Z .int 17 (upd (upd (upd zI 0 (kI (Int32.ofNat 0))) 1 (kI (Int32.ofNat (0 + u0)))) 2 (kI (Int32.ofNat ((0 + u0) + u1))))), (a31_29, Ar Z .int 17 (upd (upd (upd zI 0 (kI 0)) 1 (kI 0)) 2 (kI 0))), (a34_29, Ar Z .int 16 (cpy zI zI 0 0 0)), (a37_29, Ar Z .int 16 (cpy f41 zI 0 0 ((0 + u0) + u1))), (a40_29, Ar Z .int 64 (cpy zI zI 0 0 0)), (a43_29, Ar Z .double 64 (cpy zD zD 0 0 0)), (a4_33, Ar Z .int 2 (upd (upd (upd zI 0 (kI 0)) 1 (kI 0)) 0 (kI 0))), (a10_33, Ar Z .int 2 (upd (upd (upd zI 0 (kI (Int32.ofNat 0))) 1 (kI (Int32.ofNat (0 + u0)))) 0 (kI (Int32.ofNat 0)))), (a16_33, Ar Z .int 2 (upd (upd (upd zI 0 (kI 0)) 1 (kI 0)) 0 (kI 0))), (a7_33, Ar Z .int 2 zI), (cm50, Ar Z .int m50 f50), (a19_33, Ar Z .int 4 zI), (a22_33, Ar Z .double 4 zD), (a25, Ar Z .int 0 zI)] := Wo.pick W50 [5, 0, 6, 7, 8, 9, 10, 11, 12, 13, 14, 15, 16, 17, 18, 19, 2, 3, 4, 20, 1, 21, 22, 23] 24 (by decide +kernel) rfl
    obtain ⟨cq53, kq53, q53a, q53b, q53c⟩ := isOf hZ (rfl : T50.heap = T50.heap) (W52.exa (i := 0) rfl)
    obtain ⟨_, _, ⟨T53, L53, k53, n53⟩, -, X53, ⟨Lc53, hQ53, l53, y53, z53⟩, st53⟩ := X50.virtualBack hx (y := (⟨"com/example/sambre/sambre/engine/Rows", "add", "(Lcom/example/sambre/sambre/engine/Rows$Builder;[II)I"⟩ : MethodName)) (z := (⟨"com/example/sambre/sambre/engine/Rows", "add", "(Lcom/example/sambre/sambre/engine/Rows$Builder;[II)I"⟩ : MethodName)) hown (mvT hZ (hw _ (mi 103 rfl))) (mvT hZ (hw _ (mi 104 rfl))) (notFace_of_selects (args := #[]) (mvT hZ (hw _ (mi 106 rfl)))) (mvT hZ (hw _ (mi 106 rfl))) (mvT hZ (hw _ (mi 105 rfl))) (by decide) (backOf (W := 0) (rmADB l Z a0 hw [] a27 a4_29 a7_29 a10_29 a13_29 a16_29 a19_29 a22_29 a25_29 a28_29 a31_29 a34_29 a37_29 a40_29 a43_29 a31 a4_33 a7_33 a10_33 cm50 a16_33 a19_33 a22_33 a25 (0 + u2) m50 ((0 + u0) + u1) 0 zI (cpy zI zI 0 0 0) (upd zI 0 (kI (-1))) (upd zI 1 (kI 2)) (upd zI 1 (kI 0)) (upd zI 0 (kI (-1))) (upd zI 1 (kI 0)) (upd (upd (upd zI 0 (kI 0)) 1 (kI 0)) 2 (kI 0)) (upd (upd (upd zI 0 (kI (Int32.ofNat 0))) 1 (kI (Int32.ofNat (0 + u0)))) 2 (kI (Int32.ofNat ((0 + u0) + u1)))) (upd (upd (upd zI 0 (kI 0)) 1 (kI 0)) 2 (kI 0)) (cpy zI zI 0 0 0) (cpy f41 zI 0 0 ((0 + u0) + u1)) (cpy zI zI 0 0 0) (cpy zD zD 0 0 0) (upd (upd (upd zI 0 (kI 0)) 1 (kI 0)) 0 (kI 0)) (upd (upd (upd zI 0 (kI (Int32.ofNat 0))) 1 (kI (Int32.ofNat (0 + u0)))) 0 (kI (Int32.ofNat 0))) (upd (upd (upd zI 0 (kI 0)) 1 (kI 0)) 0 (kI 0)) zI f50 zI zD zI ([]) T50.heap n0 W52 (by omega) (by omega) rfl rfl rfl rfl rfl rfl rfl rfl rfl) hZ (hw _ (mi 107 rfl)) (hw _ (mi 10 rfl)) (by decide) (by decide)) q53a q53c (g := K51.g) rfl (by rw [hml]; rfl) (Steps.refl _) (argsL := [(.ref a31), (.ref a25), (.int (-1 : Int32))]) (rest := []) (lenOf pd_add rfl) rfl (by show 2 * 0 + _ ≤ _; exact Nat.le_of_eq rfl) (hb hby at_229) (fun _ _ => ⟨rfl, (rfl : T50.heap = T50.heap), (by decide : 30 + 0 ≤ _), (by decide : 381 + 0 ≤ _)⟩)
    dsimp only [Pt.U, Pt.locs, Pt.cells, Pt.slots] at X53 l53 y53 z53 st53 hQ53
    subst l53 y53 z53
    obtain ⟨rfl, N53q, W53⟩ := hQ53
    have N53 := Fr.app N50 N53q
    have K54 : Rch p e below s₁ F0 T53 (mkF m 239 #[sI p1, sI p2, sI p3, sI p4, sI p5, sI (Int32.ofNat u0), sI (Int32.ofNat u1), sI (Int32.ofNat u2), sI pv5, sI pv7, sI pv9, sI pv11, sI pv13, sI pv15, sI (own_bi (own_sm u0 pv5 pv7 u2 pv13 pv15)), sI (own_bi (own_sm u1 pv9 pv11 u2 pv13 pv15)), sR a25, sR a27, sR a31, sI (p5 &&& (3 : Int32)), sU, sU, sU] []) := fun t k => K51 t (st53.trans (by
      refine XS.pop X53.here hx rfl (hb hby at_232) rfl rfl ?_
      refine XS.iload X53.here hx rfl (hb hby at_233) rfl ?_
      refine XS.iconst X53.here hx rfl (hb hby at_235) ?_
      refine XS.iand X53.here hx rfl (hb hby at_236) rfl ?_
      refine XS.istore X53.here hx rfl (hb hby at_237) rfl (l' := #[sI p1, sI p2, sI p3, sI p4, sI p5, sI (Int32.ofNat u0), sI (Int32.ofNat u1), sI (Int32.ofNat u2), sI pv5, sI pv7, sI pv9, sI pv11, sI pv13, sI pv15, sI (own_bi (own_sm u0 pv5 pv7 u2 pv13 pv15)), sI (own_bi (own_sm u1 pv9 pv11 u2 pv13 pv15)), sR a25, sR a27, sR a31, sI (p5 &&& (3 : Int32)), sU, sU, sU]) rfl ?_
      exact k))
    have hG : (cpy f50 (cpy f41 zI 0 0 ((0 + u0) + u1)) 0 ((0 + u0) + u1) (0 + u2)) = cpy f50 (cpy f41 zI 0 0 (0 + u0 + u1)) 0 (0 + u0 + u1) (0 + u2) := rfl
    have c0x : 1 ≤ u0 → (cpy f50 (cpy f41 zI 0 0 ((0 + u0) + u1)) 0 ((0 + u0) + u1) (0 + u2)) ((own_F u0 u1 u2) 0) = .int pv5 := fun q => by rw [hG]; exact (own_clo (g2 := f41) (g3 := f50) (d := (0 + u0 + u1)) (e := 0 + u2) (k := 0) (by omega)).trans ((hk41 0 (by omega)).trans (hx39 q))
    have c0y : 2 ≤ u0 → (cpy f50 (cpy f41 zI 0 0 ((0 + u0) + u1)) 0 ((0 + u0) + u1) (0 + u2)) ((own_F u0 u1 u2) 0 + 1) = .int pv7 := fun q => by rw [hG]; exact (own_clo (g2 := f41) (g3 := f50) (d := (0 + u0 + u1)) (e := 0 + u2) (k := 1) (by omega)).trans ((hk41 1 (by omega)).trans (hy39 q))
    have c1x : 1 ≤ u1 → (cpy f50 (cpy f41 zI 0 0 ((0 + u0) + u1)) 0 ((0 + u0) + u1) (0 + u2)) ((own_F u0 u1 u2) 1) = .int pv9 := fun q => by rw [hG]; exact (own_clo (g2 := f41) (g3 := f50) (d := (0 + u0 + u1)) (e := 0 + u2) (k := (0 + u0)) (by omega)).trans (hx41 q)
    have c1y : 2 ≤ u1 → (cpy f50 (cpy f41 zI 0 0 ((0 + u0) + u1)) 0 ((0 + u0) + u1) (0 + u2)) ((own_F u0 u1 u2) 1 + 1) = .int pv11 := fun q => by rw [hG]; exact (own_clo (g2 := f41) (g3 := f50) (d := (0 + u0 + u1)) (e := 0 + u2) (k := (0 + u0 + 1)) (by omega)).trans (hy41 q)
    have c2x : 1 ≤ u2 → (cpy f50 (cpy f41 zI 0 0 ((0 + u0) + u1)) 0 ((0 + u0) + u1) (0 + u2)) ((own_F u0 u1 u2) 2) = .int pv13 := fun q => by rw [hG]; exact (own_chi (g2 := f41) (g3 := f50) (d := (0 + u0 + u1)) (e := 0 + u2) (k := 0) (by omega)).trans (hx50 q)
    have c2y : 2 ≤ u2 → (cpy f50 (cpy f41 zI 0 0 ((0 + u0) + u1)) 0 ((0 + u0) + u1) (0 + u2)) ((own_F u0 u1 u2) 2 + 1) = .int pv15 := fun q => by rw [hG]; exact (own_chi (g2 := f41) (g3 := f50) (d := (0 + u0 + u1)) (e := 0 + u2) (k := 1) (by omega)).trans (hy50 q)
    have w0 : (own_F u0 u1 u2) 1 - (own_F u0 u1 u2) 0 = u0 := by simp only [own_F]; omega
    have w1 : (own_F u0 u1 u2) 2 - (own_F u0 u1 u2) 1 = u1 := by simp only [own_F]; omega
    have w2 : (own_F u0 u1 u2) 3 - (own_F u0 u1 u2) 2 = u2 := by simp only [own_F]; omega
    have m02 : own_nm (cpy f50 (cpy f41 zI 0 0 ((0 + u0) + u1)) 0 ((0 + u0) + u1) (0 + u2)) (own_F u0 u1 u2) 0 2 = own_sm u0 pv5 pv7 u2 pv13 pv15 := own_nm_sm (gc := (cpy f50 (cpy f41 zI 0 0 ((0 + u0) + u1)) 0 ((0 + u0) + u1) (0 + u2))) (F := (own_F u0 u1 u2)) (c := 0) (o := 2) w0 w2 (by omega) c0x c0y c2x c2y
    have m12 : own_nm (cpy f50 (cpy f41 zI 0 0 ((0 + u0) + u1)) 0 ((0 + u0) + u1) (0 + u2)) (own_F u0 u1 u2) 1 2 = own_sm u1 pv9 pv11 u2 pv13 pv15 := own_nm_sm (gc := (cpy f50 (cpy f41 zI 0 0 ((0 + u0) + u1)) 0 ((0 + u0) + u1) (0 + u2))) (F := (own_F u0 u1 u2)) (c := 1) (o := 2) w1 w2 (by omega) c1x c1y c2x c2y
    have m20 : own_nm (cpy f50 (cpy f41 zI 0 0 ((0 + u0) + u1)) 0 ((0 + u0) + u1) (0 + u2)) (own_F u0 u1 u2) 2 0 = own_sm u2 pv13 pv15 u0 pv5 pv7 := own_nm_sm (gc := (cpy f50 (cpy f41 zI 0 0 ((0 + u0) + u1)) 0 ((0 + u0) + u1) (0 + u2))) (F := (own_F u0 u1 u2)) (c := 2) (o := 0) w2 w0 (by omega) c2x c2y c0x c0y
    have m21 : own_nm (cpy f50 (cpy f41 zI 0 0 ((0 + u0) + u1)) 0 ((0 + u0) + u1) (0 + u2)) (own_F u0 u1 u2) 2 1 = own_sm u2 pv13 pv15 u1 pv9 pv11 := own_nm_sm (gc := (cpy f50 (cpy f41 zI 0 0 ((0 + u0) + u1)) 0 ((0 + u0) + u1) (0 + u2))) (F := (own_F u0 u1 u2)) (c := 2) (o := 1) w2 w1 (by omega) c2x c2y c1x c1y
    have m01 : own_nm (cpy f50 (cpy f41 zI 0 0 ((0 + u0) + u1)) 0 ((0 + u0) + u1) (0 + u2)) (own_F u0 u1 u2) 0 1 = own_sm u0 pv5 pv7 u1 pv9 pv11 := own_nm_sm (gc := (cpy f50 (cpy f41 zI 0 0 ((0 + u0) + u1)) 0 ((0 + u0) + u1) (0 + u2))) (F := (own_F u0 u1 u2)) (c := 0) (o := 1) w0 w1 (by omega) c0x c0y c1x c1y
    have m11 : own_nm (cpy f50 (cpy f41 zI 0 0 ((0 + u0) + u1)) 0 ((0 + u0) + u1) (0 + u2)) (own_F u0 u1 u2) 1 1 = own_sm u1 pv9 pv11 u1 pv9 pv11 := own_nm_sm (gc := (cpy f50 (cpy f41 zI 0 0 ((0 + u0) + u1)) 0 ((0 + u0) + u1) (0 + u2))) (F := (own_F u0 u1 u2)) (c := 1) (o := 1) w1 w1 (by omega) c1x c1y c1x c1y
    by_cases q0 : (p5 &&& (3 : Int32)) = (0 : Int32)
    · have q0t := q0
      have K55 : Rch p e below s₁ F0 T53 (mkF m 252 #[sI p1, sI p2, sI p3, sI p4, sI p5, sI (Int32.ofNat u0), sI (Int32.ofNat u1), sI (Int32.ofNat u2), sI pv5, sI pv7, sI pv9, sI pv11, sI pv13, sI pv15, sI (own_bi (own_sm u0 pv5 pv7 u2 pv13 pv15)), sI (own_bi (own_sm u1 pv9 pv11 u2 pv13 pv15)), sR a25, sR a27, sR a31, sI (p5 &&& (3 : Int32)), sI 0, sI 2, sU] [(kI (own_bi (own_sm u0 pv5 pv7 u2 pv13 pv15)))]) := fun t k => K54 t (by
        refine XS.iload X53.here hx rfl (hb hby at_239) rfl ?_
        refine XS.ifNo X53.here hx rfl (hb hby at_241) rfl ((if0 _ _).trans (teq q0).2) ?_
        refine XS.iconst X53.here hx rfl (hb hby at_244) ?_
        refine XS.istore X53.here hx rfl (hb hby at_245) rfl (l' := #[sI p1, sI p2, sI p3, sI p4, sI p5, sI (Int32.ofNat u0), sI (Int32.ofNat u1), sI (Int32.ofNat u2), sI pv5, sI pv7, sI pv9, sI pv11, sI pv13, sI pv15, sI (own_bi (own_sm u0 pv5 pv7 u2 pv13 pv15)), sI (own_bi (own_sm u1 pv9 pv11 u2 pv13 pv15)), sR a25, sR a27, sR a31, sI (p5 &&& (3 : Int32)), sI 0, sU, sU]) rfl ?_
        refine XS.iconst X53.here hx rfl (hb hby at_247) ?_
        refine XS.istore X53.here hx rfl (hb hby at_248) rfl (l' := #[sI p1, sI p2, sI p3, sI p4, sI p5, sI (Int32.ofNat u0), sI (Int32.ofNat u1), sI (Int32.ofNat u2), sI pv5, sI pv7, sI pv9, sI pv11, sI pv13, sI pv15, sI (own_bi (own_sm u0 pv5 pv7 u2 pv13 pv15)), sI (own_bi (own_sm u1 pv9 pv11 u2 pv13 pv15)), sR a25, sR a27, sR a31, sI (p5 &&& (3 : Int32)), sI 0, sI 2, sU]) rfl ?_
        show Steps p.tables e below (T53.setTop (mkF m 250 #[sI p1, sI p2, sI p3, sI p4, sI p5, sI (Int32.ofNat u0), sI (Int32.ofNat u1), sI (Int32.ofNat u2), sI pv5, sI pv7, sI pv9, sI pv11, sI pv13, sI pv15, sI (own_bi (own_sm u0 pv5 pv7 u2 pv13 pv15)), sI (own_bi (own_sm u1 pv9 pv11 u2 pv13 pv15)), sR a25, sR a27, sR a31, sI (p5 &&& (3 : Int32)), sI 0, sI 2, sU] [])) _
        refine XS.iload X53.here hx rfl (hb hby at_250) rfl ?_
        exact k)
      by_cases t1 : (own_sm u0 pv5 pv7 u2 pv13 pv15) = true
      · have t1b := t1
        have K56 : Rch p e below s₁ F0 T53 (mkF m 343 #[sI p1, sI p2, sI p3, sI p4, sI p5, sI (Int32.ofNat u0), sI (Int32.ofNat u1), sI (Int32.ofNat u2), sI pv5, sI pv7, sI pv9, sI pv11, sI pv13, sI pv15, sI (own_bi (own_sm u0 pv5 pv7 u2 pv13 pv15)), sI (own_bi (own_sm u1 pv9 pv11 u2 pv13 pv15)), sR a25, sR a27, sR a31, sI (p5 &&& (3 : Int32)), sI 0, sI 2, sI 0] [(kI 2), (kI 0), (kR a27)]) := fun t k => K55 t (by
          refine XS.ifNo X53.here hx rfl (hb hby at_252) rfl ((if0 _ _).trans (feq (show ¬ (own_bi (own_sm u0 pv5 pv7 u2 pv13 pv15) = 0) from by rw [t1]; decide)).1) ?_
          refine XS.iconst X53.here hx rfl (hb hby at_255) ?_
          refine XS.goto X53.here hx rfl (pc0 := 256) (pc' := 269) rfl (hb hby at_256) (by decide) (by decide) ?_
          refine XS.istore X53.here hx rfl (hb hby at_269) rfl (l' := #[sI p1, sI p2, sI p3, sI p4, sI p5, sI (Int32.ofNat u0), sI (Int32.ofNat u1), sI (Int32.ofNat u2), sI pv5, sI pv7, sI pv9, sI pv11, sI pv13, sI pv15, sI (own_bi (own_sm u0 pv5 pv7 u2 pv13 pv15)), sI (own_bi (own_sm u1 pv9 pv11 u2 pv13 pv15)), sR a25, sR a27, sR a31, sI (p5 &&& (3 : Int32)), sI 0, sI 2, sI 0]) rfl ?_
          refine XS.goto X53.here hx rfl (pc0 := 271) (pc' := 337) rfl (hb hby at_271) (by decide) (by decide) ?_
          refine XS.aload X53.here hx rfl (hb hby at_337) rfl rfl ?_
          show Steps p.tables e below (T53.setTop (mkF m 339 #[sI p1, sI p2, sI p3, sI p4, sI p5, sI (Int32.ofNat u0), sI (Int32.ofNat u1), sI (Int32.ofNat u2), sI pv5, sI pv7, sI pv9, sI pv11, sI pv13, sI pv15, sI (own_bi (own_sm u0 pv5 pv7 u2 pv13 pv15)), sI (own_bi (own_sm u1 pv9 pv11 u2 pv13 pv15)), sR a25, sR a27, sR a31, sI (p5 &&& (3 : Int32)), sI 0, sI 2, sI 0] [(kR a27)])) _
          refine XS.iload X53.here hx rfl (hb hby at_339) rfl ?_
          refine XS.iload X53.here hx rfl (hb hby at_341) rfl ?_
          exact k)
        have W57 : Wo n0 T53.heap [(a27, oR Z [(kR a4_29), (kR a7_29), (kR a10_29), (kR a13_29), (kR a16_29), (kR a19_29), (kR a22_29), (kR a25_29), (kR a28_29), (kR a31_29), (kR a34_29), (kR a37_29), (kR a40_29), (kR a43_29), (kI 2), .null, (kI 2)]), (a13_29, Ar Z .int 17 (upd (upd zI 1 (kI 2)) 2 (kI 3))), (a28_29, Ar Z .int 17 (upd (upd (upd (upd (upd zI 0 (kI (Int32.ofNat 0))) 1 (kI (Int32.ofNat (0 + u0)))) 2 (kI (Int32.ofNat ((0 + u0) + u1)))) 2 (kI (Int32.ofNat (((0 + u0) + u1) + 0)))) 3 (kI (Int32.ofNat (((0 + u0) + u1) + (0 + u2)))))), (a37_29, Ar Z .int 16 (cpy f50 (cpy f41 zI 0 0 ((0 + u0) + u1)) 0 ((0 + u0) + u1) (0 + u2))), (a31, oB Z [.null, (kI 0), .null, (kI 0), (kR a4_33), (kR a7_33), (kR a10_33), (kR cm50), (kR a16_33), (kR a19_33), (kR a22_33), (kI 1), (kI 0), (kI (Int32.ofNat (0 + u2))), (kI 0), .null]), (a4_29, Ar Z .int 0 zI), (a7_29, Ar Z .int 0 (cpy zI (cpy zI zI 0 0 0) 0 0 0)), (a10_29, Ar Z .int 16 (upd (upd zI 0 (kI (-1))) 1 (kI (-1)))), (a16_29, Ar Z .int 17 (upd (upd zI 1 (kI 0)) 2 (kI 0))), (a19_29, Ar Z .int 16 (upd (upd zI 0 (kI (-1))) 1 (kI (-1)))), (a22_29, Ar Z .int 17 (upd (upd zI 1 (kI 0)) 2 (kI 0))), (a25_29, Ar Z .int 17 (upd (upd (upd (upd (upd zI 0 (kI 0)) 1 (kI 0)) 2 (kI 0)) 2 (kI 0)) 3 (kI 0))), (a31_29, Ar Z .int 17 (upd (upd (upd (upd (upd zI 0 (kI 0)) 1 (kI 0)) 2 (kI 0)) 2 (kI 0)) 3 (kI 0))), (a34_29, Ar Z .int 16 (cpy zI (cpy zI zI 0 0 0) 0 0 0)), (a40_29, Ar Z .int 64 (cpy zI (cpy zI zI 0 0 0) 0 0 0)), (a43_29, Ar Z .double 64 (cpy zD (cpy zD zD 0 0 0) 0 0 0)), (a4_33, Ar Z .int 2 (upd (upd (upd zI 0 (kI 0)) 1 (kI 0)) 0 (kI 0))), (a10_33, Ar Z .int 2 (upd (upd (upd zI 0 (kI (Int32.ofNat 0))) 1 (kI (Int32.ofNat (0 + u0)))) 0 (kI (Int32.ofNat 0)))), (a16_33, Ar Z .int 2 (upd (upd (upd zI 0 (kI 0)) 1 (kI 0)) 0 (kI 0))), (a7_33, Ar Z .int 2 zI), (cm50, Ar Z .int m50 f50), (a19_33, Ar Z .int 4 zI), (a22_33, Ar Z .double 4 zD), (a25, Ar Z .int 0 zI)] := Wo.pick W53 [0, 5, 10, 13, 1, 2, 3, 4, 6, 7, 8, 9, 11, 12, 14, 15, 16, 17, 18, 19, 20, 21, 22, 23] 24 (by decide +kernel) rfl
        obtain ⟨cq58, kq58, q58a, q58b, q58c⟩ := isOf hZ (rfl : T53.heap = T53.heap) (W57.exa (i := 0) rfl)
        obtain ⟨_, _, ⟨T58, L58, k58, n58⟩, -, X58, ⟨Lc58, hQ58, l58, y58, z58⟩, st58⟩ := X53.virtualBack hx (y := (⟨"com/example/sambre/sambre/engine/Rows", "choiceNamedAs", "(II)I"⟩ : MethodName)) (z := (⟨"com/example/sambre/sambre/engine/Rows", "choiceNamedAs", "(II)I"⟩ : MethodName)) hown (mvT hZ (hw _ (mi 131 rfl))) (mvT hZ (hw _ (mi 132 rfl))) (notFace_of_selects (args := #[]) (mvT hZ (hw _ (mi 134 rfl)))) (mvT hZ (hw _ (mi 134 rfl))) (mvT hZ (hw _ (mi 133 rfl))) (by decide) (backOf (W := 0) (rmCN02 l Z a0 hw [] a27 a4_29 a7_29 a10_29 a13_29 a16_29 a19_29 a22_29 a25_29 a28_29 a31_29 a34_29 a37_29 a40_29 a43_29 (2 : Int32) (2 : Int32) (upd (upd zI 1 (kI 2)) 2 (kI 3)) (upd (upd (upd (upd (upd zI 0 (kI (Int32.ofNat 0))) 1 (kI (Int32.ofNat (0 + u0)))) 2 (kI (Int32.ofNat ((0 + u0) + u1)))) 2 (kI (Int32.ofNat (((0 + u0) + u1) + 0)))) 3 (kI (Int32.ofNat (((0 + u0) + u1) + (0 + u2))))) (cpy f50 (cpy f41 zI 0 0 ((0 + u0) + u1)) 0 ((0 + u0) + u1) (0 + u2)) (own_F u0 u1 u2) ((a31, oB Z [.null, (kI 0), .null, (kI 0), (kR a4_33), (kR a7_33), (kR a10_33), (kR cm50), (kR a16_33), (kR a19_33), (kR a22_33), (kI 1), (kI 0), (kI (Int32.ofNat (0 + u2))), (kI 0), .null]) :: (a4_29, Ar Z .int 0 zI) :: (a7_29, Ar Z .int 0 (cpy zI (cpy zI zI 0 0 0) 0 0 0)) :: (a10_29, Ar Z .int 16 (upd (upd zI 0 (kI (-1))) 1 (kI (-1)))) :: (a16_29, Ar Z .int 17 (upd (upd zI 1 (kI 0)) 2 (kI 0))) :: (a19_29, Ar Z .int 16 (upd (upd zI 0 (kI (-1))) 1 (kI (-1)))) :: (a22_29, Ar Z .int 17 (upd (upd zI 1 (kI 0)) 2 (kI 0))) :: (a25_29, Ar Z .int 17 (upd (upd (upd (upd (upd zI 0 (kI 0)) 1 (kI 0)) 2 (kI 0)) 2 (kI 0)) 3 (kI 0))) :: (a31_29, Ar Z .int 17 (upd (upd (upd (upd (upd zI 0 (kI 0)) 1 (kI 0)) 2 (kI 0)) 2 (kI 0)) 3 (kI 0))) :: (a34_29, Ar Z .int 16 (cpy zI (cpy zI zI 0 0 0) 0 0 0)) :: (a40_29, Ar Z .int 64 (cpy zI (cpy zI zI 0 0 0) 0 0 0)) :: (a43_29, Ar Z .double 64 (cpy zD (cpy zD zD 0 0 0) 0 0 0)) :: (a4_33, Ar Z .int 2 (upd (upd (upd zI 0 (kI 0)) 1 (kI 0)) 0 (kI 0))) :: (a10_33, Ar Z .int 2 (upd (upd (upd zI 0 (kI (Int32.ofNat 0))) 1 (kI (Int32.ofNat (0 + u0)))) 0 (kI (Int32.ofNat 0)))) :: (a16_33, Ar Z .int 2 (upd (upd (upd zI 0 (kI 0)) 1 (kI 0)) 0 (kI 0))) :: (a7_33, Ar Z .int 2 zI) :: (cm50, Ar Z .int m50 f50) :: (a19_33, Ar Z .int 4 zI) :: (a22_33, Ar Z .double 4 zD) :: (a25, Ar Z .int 0 zI) :: []) T53.heap n0 W57 rfl rfl (fun k hk => by rcases (by omega : k = 0 ∨ k = 1 ∨ k = 2 ∨ k = 3) with rfl | rfl | rfl | rfl <;> rfl) (own_Fb (by omega) (by omega) (by omega)) own_Fm) hZ (hw _ (mi 135 rfl)) (hw _ (mi 10 rfl)) (by decide) (by decide)) q58a q58c (g := K56.g) rfl (by rw [hml]; rfl) (Steps.refl _) (argsL := [(.int (0 : Int32)), (.int (2 : Int32))]) (rest := []) (lenOf pd_cn rfl) rfl (by show 2 * 0 + _ ≤ _; exact Nat.le_of_eq rfl) (hb hby at_343) (fun _ _ => ⟨rfl, (rfl : T53.heap = T53.heap), (by decide : 30 + 0 ≤ _), (by decide : 381 + 0 ≤ _)⟩)
        dsimp only [Pt.U, Pt.locs, Pt.cells, Pt.slots] at X58 l58 y58 z58 st58 hQ58
        subst l58 y58 z58
        obtain ⟨rfl, N58q, W58⟩ := hQ58
        have N58 := Fr.app N53 N58q
        have K59 : Rch p e below s₁ F0 T58 (mkF m 356 #[sI p1, sI p2, sI p3, sI p4, sI p5, sI (Int32.ofNat u0), sI (Int32.ofNat u1), sI (Int32.ofNat u2), sI pv5, sI pv7, sI pv9, sI pv11, sI pv13, sI pv15, sI (own_bi (own_sm u0 pv5 pv7 u2 pv13 pv15)), sI (own_bi (own_sm u1 pv9 pv11 u2 pv13 pv15)), sR a25, sR a27, sR a31, sI (p5 &&& (3 : Int32)), sI 0, sI 2, sI 0] [(kI 1)]) := fun t k => K56 t (st58.trans (by
          refine XS.iload X58.here hx rfl (hb hby at_346) rfl ?_
          refine XS.icmpNo X58.here hx rfl (hb hby at_348) rfl (teq (by rw [m02, if_pos t1])).2 ?_
          refine XS.iconst X58.here hx rfl (hb hby at_351) ?_
          refine XS.goto X58.here hx rfl (pc0 := 352) (pc' := 356) rfl (hb hby at_352) (by decide) (by decide) ?_
          exact k))
        obtain ⟨fs, hr, hrun, hended, hWm, hsame⟩ := X58.leave (v := some (.int (1 : Int32))) (fun h => by rw [Bd.returns] at h; cases h)
        refine ⟨_, _, pre0 _ (K59 _ (retN X58 hx (t := .boolean) Bd.returns (by simp) (hb hby at_356) hr)), hrun, hended, _, _, rfl, ?_, ⟨_, rfl⟩, hWm, hsame.mono (by decide) (by decide)⟩
        show Qrm0 Z p1 p2 p3 p4 p5 n0 _ T58.heap _
        exact ⟨rfl, N58⟩
      · have t1b := Bool.eq_false_iff.mpr t1
        have K60 : Rch p e below s₁ F0 T53 (mkF m 261 #[sI p1, sI p2, sI p3, sI p4, sI p5, sI (Int32.ofNat u0), sI (Int32.ofNat u1), sI (Int32.ofNat u2), sI pv5, sI pv7, sI pv9, sI pv11, sI pv13, sI pv15, sI (own_bi (own_sm u0 pv5 pv7 u2 pv13 pv15)), sI (own_bi (own_sm u1 pv9 pv11 u2 pv13 pv15)), sR a25, sR a27, sR a31, sI (p5 &&& (3 : Int32)), sI 0, sI 2, sU] [(kI (own_bi (own_sm u1 pv9 pv11 u2 pv13 pv15)))]) := fun t k => K55 t (by
          refine XS.ifYes X53.here hx rfl (pc0 := 252) (pc' := 259) rfl (hb hby at_252) rfl ((if0 _ _).trans (teq (show own_bi (own_sm u0 pv5 pv7 u2 pv13 pv15) = 0 from by rw [t1b]; rfl)).1) (by decide) (by decide) ?_
          refine XS.iload X53.here hx rfl (hb hby at_259) rfl ?_
          exact k)
        by_cases t2 : (own_sm u1 pv9 pv11 u2 pv13 pv15) = true
        · have t2b := t2
          have K61 : Rch p e below s₁ F0 T53 (mkF m 343 #[sI p1, sI p2, sI p3, sI p4, sI p5, sI (Int32.ofNat u0), sI (Int32.ofNat u1), sI (Int32.ofNat u2), sI pv5, sI pv7, sI pv9, sI pv11, sI pv13, sI pv15, sI (own_bi (own_sm u0 pv5 pv7 u2 pv13 pv15)), sI (own_bi (own_sm u1 pv9 pv11 u2 pv13 pv15)), sR a25, sR a27, sR a31, sI (p5 &&& (3 : Int32)), sI 0, sI 2, sI 1] [(kI 2), (kI 0), (kR a27)]) := fun t k => K60 t (by
            refine XS.ifNo X53.here hx rfl (hb hby at_261) rfl ((if0 _ _).trans (feq (show ¬ (own_bi (own_sm u1 pv9 pv11 u2 pv13 pv15) = 0) from by rw [t2]; decide)).1) ?_
            refine XS.iconst X53.here hx rfl (hb hby at_264) ?_
            refine XS.goto X53.here hx rfl (pc0 := 265) (pc' := 269) rfl (hb hby at_265) (by decide) (by decide) ?_
            refine XS.istore X53.here hx rfl (hb hby at_269) rfl (l' := #[sI p1, sI p2, sI p3, sI p4, sI p5, sI (Int32.ofNat u0), sI (Int32.ofNat u1), sI (Int32.ofNat u2), sI pv5, sI pv7, sI pv9, sI pv11, sI pv13, sI pv15, sI (own_bi (own_sm u0 pv5 pv7 u2 pv13 pv15)), sI (own_bi (own_sm u1 pv9 pv11 u2 pv13 pv15)), sR a25, sR a27, sR a31, sI (p5 &&& (3 : Int32)), sI 0, sI 2, sI 1]) rfl ?_
            refine XS.goto X53.here hx rfl (pc0 := 271) (pc' := 337) rfl (hb hby at_271) (by decide) (by decide) ?_
            refine XS.aload X53.here hx rfl (hb hby at_337) rfl rfl ?_
            show Steps p.tables e below (T53.setTop (mkF m 339 #[sI p1, sI p2, sI p3, sI p4, sI p5, sI (Int32.ofNat u0), sI (Int32.ofNat u1), sI (Int32.ofNat u2), sI pv5, sI pv7, sI pv9, sI pv11, sI pv13, sI pv15, sI (own_bi (own_sm u0 pv5 pv7 u2 pv13 pv15)), sI (own_bi (own_sm u1 pv9 pv11 u2 pv13 pv15)), sR a25, sR a27, sR a31, sI (p5 &&& (3 : Int32)), sI 0, sI 2, sI 1] [(kR a27)])) _
            refine XS.iload X53.here hx rfl (hb hby at_339) rfl ?_
            refine XS.iload X53.here hx rfl (hb hby at_341) rfl ?_
            exact k)
          have W62 : Wo n0 T53.heap [(a27, oR Z [(kR a4_29), (kR a7_29), (kR a10_29), (kR a13_29), (kR a16_29), (kR a19_29), (kR a22_29), (kR a25_29), (kR a28_29), (kR a31_29), (kR a34_29), (kR a37_29), (kR a40_29), (kR a43_29), (kI 2), .null, (kI 2)]), (a13_29, Ar Z .int 17 (upd (upd zI 1 (kI 2)) 2 (kI 3))), (a28_29, Ar Z .int 17 (upd (upd (upd (upd (upd zI 0 (kI (Int32.ofNat 0))) 1 (kI (Int32.ofNat (0 + u0)))) 2 (kI (Int32.ofNat ((0 + u0) + u1)))) 2 (kI (Int32.ofNat (((0 + u0) + u1) + 0)))) 3 (kI (Int32.ofNat (((0 + u0) + u1) + (0 + u2)))))), (a37_29, Ar Z .int 16 (cpy f50 (cpy f41 zI 0 0 ((0 + u0) + u1)) 0 ((0 + u0) + u1) (0 + u2))), (a31, oB Z [.null, (kI 0), .null, (kI 0), (kR a4_33), (kR a7_33), (kR a10_33), (kR cm50), (kR a16_33), (kR a19_33), (kR a22_33), (kI 1), (kI 0), (kI (Int32.ofNat (0 + u2))), (kI 0), .null]), (a4_29, Ar Z .int 0 zI), (a7_29, Ar Z .int 0 (cpy zI (cpy zI zI 0 0 0) 0 0 0)), (a10_29, Ar Z .int 16 (upd (upd zI 0 (kI (-1))) 1 (kI (-1)))), (a16_29, Ar Z .int 17 (upd (upd zI 1 (kI 0)) 2 (kI 0))), (a19_29, Ar Z .int 16 (upd (upd zI 0 (kI (-1))) 1 (kI (-1)))), (a22_29, Ar Z .int 17 (upd (upd zI 1 (kI 0)) 2 (kI 0))), (a25_29, Ar Z .int 17 (upd (upd (upd (upd (upd zI 0 (kI 0)) 1 (kI 0)) 2 (kI 0)) 2 (kI 0)) 3 (kI 0))), (a31_29, Ar Z .int 17 (upd (upd (upd (upd (upd zI 0 (kI 0)) 1 (kI 0)) 2 (kI 0)) 2 (kI 0)) 3 (kI 0))), (a34_29, Ar Z .int 16 (cpy zI (cpy zI zI 0 0 0) 0 0 0)), (a40_29, Ar Z .int 64 (cpy zI (cpy zI zI 0 0 0) 0 0 0)), (a43_29, Ar Z .double 64 (cpy zD (cpy zD zD 0 0 0) 0 0 0)), (a4_33, Ar Z .int 2 (upd (upd (upd zI 0 (kI 0)) 1 (kI 0)) 0 (kI 0))), (a10_33, Ar Z .int 2 (upd (upd (upd zI 0 (kI (Int32.ofNat 0))) 1 (kI (Int32.ofNat (0 + u0)))) 0 (kI (Int32.ofNat 0)))), (a16_33, Ar Z .int 2 (upd (upd (upd zI 0 (kI 0)) 1 (kI 0)) 0 (kI 0))), (a7_33, Ar Z .int 2 zI), (cm50, Ar Z .int m50 f50), (a19_33, Ar Z .int 4 zI), (a22_33, Ar Z .double 4 zD), (a25, Ar Z .int 0 zI)] := Wo.pick W53 [0, 5, 10, 13, 1, 2, 3, 4, 6, 7, 8, 9, 11, 12, 14, 15, 16, 17, 18, 19, 20, 21, 22, 23] 24 (by decide +kernel) rfl
          obtain ⟨cq63, kq63, q63a, q63b, q63c⟩ := isOf hZ (rfl : T53.heap = T53.heap) (W62.exa (i := 0) rfl)
          obtain ⟨_, _, ⟨T63, L63, k63, n63⟩, -, X63, ⟨Lc63, hQ63, l63, y63, z63⟩, st63⟩ := X53.virtualBack hx (y := (⟨"com/example/sambre/sambre/engine/Rows", "choiceNamedAs", "(II)I"⟩ : MethodName)) (z := (⟨"com/example/sambre/sambre/engine/Rows", "choiceNamedAs", "(II)I"⟩ : MethodName)) hown (mvT hZ (hw _ (mi 131 rfl))) (mvT hZ (hw _ (mi 132 rfl))) (notFace_of_selects (args := #[]) (mvT hZ (hw _ (mi 134 rfl)))) (mvT hZ (hw _ (mi 134 rfl))) (mvT hZ (hw _ (mi 133 rfl))) (by decide) (backOf (W := 0) (rmCN02 l Z a0 hw [] a27 a4_29 a7_29 a10_29 a13_29 a16_29 a19_29 a22_29 a25_29 a28_29 a31_29 a34_29 a37_29 a40_29 a43_29 (2 : Int32) (2 : Int32) (upd (upd zI 1 (kI 2)) 2 (kI 3)) (upd (upd (upd (upd (upd zI 0 (kI (Int32.ofNat 0))) 1 (kI (Int32.ofNat (0 + u0)))) 2 (kI (Int32.ofNat ((0 + u0) + u1)))) 2 (kI (Int32.ofNat (((0 + u0) + u1) + 0)))) 3 (kI (Int32.ofNat (((0 + u0) + u1) + (0 + u2))))) (cpy f50 (cpy f41 zI 0 0 ((0 + u0) + u1)) 0 ((0 + u0) + u1) (0 + u2)) (own_F u0 u1 u2) ((a31, oB Z [.null, (kI 0), .null, (kI 0), (kR a4_33), (kR a7_33), (kR a10_33), (kR cm50), (kR a16_33), (kR a19_33), (kR a22_33), (kI 1), (kI 0), (kI (Int32.ofNat (0 + u2))), (kI 0), .null]) :: (a4_29, Ar Z .int 0 zI) :: (a7_29, Ar Z .int 0 (cpy zI (cpy zI zI 0 0 0) 0 0 0)) :: (a10_29, Ar Z .int 16 (upd (upd zI 0 (kI (-1))) 1 (kI (-1)))) :: (a16_29, Ar Z .int 17 (upd (upd zI 1 (kI 0)) 2 (kI 0))) :: (a19_29, Ar Z .int 16 (upd (upd zI 0 (kI (-1))) 1 (kI (-1)))) :: (a22_29, Ar Z .int 17 (upd (upd zI 1 (kI 0)) 2 (kI 0))) :: (a25_29, Ar Z .int 17 (upd (upd (upd (upd (upd zI 0 (kI 0)) 1 (kI 0)) 2 (kI 0)) 2 (kI 0)) 3 (kI 0))) :: (a31_29, Ar Z .int 17 (upd (upd (upd (upd (upd zI 0 (kI 0)) 1 (kI 0)) 2 (kI 0)) 2 (kI 0)) 3 (kI 0))) :: (a34_29, Ar Z .int 16 (cpy zI (cpy zI zI 0 0 0) 0 0 0)) :: (a40_29, Ar Z .int 64 (cpy zI (cpy zI zI 0 0 0) 0 0 0)) :: (a43_29, Ar Z .double 64 (cpy zD (cpy zD zD 0 0 0) 0 0 0)) :: (a4_33, Ar Z .int 2 (upd (upd (upd zI 0 (kI 0)) 1 (kI 0)) 0 (kI 0))) :: (a10_33, Ar Z .int 2 (upd (upd (upd zI 0 (kI (Int32.ofNat 0))) 1 (kI (Int32.ofNat (0 + u0)))) 0 (kI (Int32.ofNat 0)))) :: (a16_33, Ar Z .int 2 (upd (upd (upd zI 0 (kI 0)) 1 (kI 0)) 0 (kI 0))) :: (a7_33, Ar Z .int 2 zI) :: (cm50, Ar Z .int m50 f50) :: (a19_33, Ar Z .int 4 zI) :: (a22_33, Ar Z .double 4 zD) :: (a25, Ar Z .int 0 zI) :: []) T53.heap n0 W62 rfl rfl (fun k hk => by rcases (by omega : k = 0 ∨ k = 1 ∨ k = 2 ∨ k = 3) with rfl | rfl | rfl | rfl <;> rfl) (own_Fb (by omega) (by omega) (by omega)) own_Fm) hZ (hw _ (mi 135 rfl)) (hw _ (mi 10 rfl)) (by decide) (by decide)) q63a q63c (g := K61.g) rfl (by rw [hml]; rfl) (Steps.refl _) (argsL := [(.int (0 : Int32)), (.int (2 : Int32))]) (rest := []) (lenOf pd_cn rfl) rfl (by show 2 * 0 + _ ≤ _; exact Nat.le_of_eq rfl) (hb hby at_343) (fun _ _ => ⟨rfl, (rfl : T53.heap = T53.heap), (by decide : 30 + 0 ≤ _), (by decide : 381 + 0 ≤ _)⟩)
          dsimp only [Pt.U, Pt.locs, Pt.cells, Pt.slots] at X63 l63 y63 z63 st63 hQ63
          subst l63 y63 z63
          obtain ⟨rfl, N63q, W63⟩ := hQ63
          have N63 := Fr.app N53 N63q
          have K64 : Rch p e below s₁ F0 T63 (mkF m 356 #[sI p1, sI p2, sI p3, sI p4, sI p5, sI (Int32.ofNat u0), sI (Int32.ofNat u1), sI (Int32.ofNat u2), sI pv5, sI pv7, sI pv9, sI pv11, sI pv13, sI pv15, sI (own_bi (own_sm u0 pv5 pv7 u2 pv13 pv15)), sI (own_bi (own_sm u1 pv9 pv11 u2 pv13 pv15)), sR a25, sR a27, sR a31, sI (p5 &&& (3 : Int32)), sI 0, sI 2, sI 1] [(kI 1)]) := fun t k => K61 t (st63.trans (by
            refine XS.iload X63.here hx rfl (hb hby at_346) rfl ?_
            refine XS.icmpNo X63.here hx rfl (hb hby at_348) rfl (teq (by rw [m02, if_neg t1, m12, t2]; rfl)).2 ?_
            refine XS.iconst X63.here hx rfl (hb hby at_351) ?_
            refine XS.goto X63.here hx rfl (pc0 := 352) (pc' := 356) rfl (hb hby at_352) (by decide) (by decide) ?_
            exact k))
          obtain ⟨fs, hr, hrun, hended, hWm, hsame⟩ := X63.leave (v := some (.int (1 : Int32))) (fun h => by rw [Bd.returns] at h; cases h)
          refine ⟨_, _, pre0 _ (K64 _ (retN X63 hx (t := .boolean) Bd.returns (by simp) (hb hby at_356) hr)), hrun, hended, _, _, rfl, ?_, ⟨_, rfl⟩, hWm, hsame.mono (by decide) (by decide)⟩
          show Qrm0 Z p1 p2 p3 p4 p5 n0 _ T63.heap _
          exact ⟨rfl, N63⟩
        · have t2b := Bool.eq_false_iff.mpr t2
          have K65 : Rch p e below s₁ F0 T53 (mkF m 343 #[sI p1, sI p2, sI p3, sI p4, sI p5, sI (Int32.ofNat u0), sI (Int32.ofNat u1), sI (Int32.ofNat u2), sI pv5, sI pv7, sI pv9, sI pv11, sI pv13, sI pv15, sI (own_bi (own_sm u0 pv5 pv7 u2 pv13 pv15)), sI (own_bi (own_sm u1 pv9 pv11 u2 pv13 pv15)), sR a25, sR a27, sR a31, sI (p5 &&& (3 : Int32)), sI 0, sI 2, sI (-1)] [(kI 2), (kI 0), (kR a27)]) := fun t k => K60 t (by
            refine XS.ifYes X53.here hx rfl (pc0 := 261) (pc' := 268) rfl (hb hby at_261) rfl ((if0 _ _).trans (teq (show own_bi (own_sm u1 pv9 pv11 u2 pv13 pv15) = 0 from by rw [t2b]; rfl)).1) (by decide) (by decide) ?_
            refine XS.iconst X53.here hx rfl (hb hby at_268) ?_
            refine XS.istore X53.here hx rfl (hb hby at_269) rfl (l' := #[sI p1, sI p2, sI p3, sI p4, sI p5, sI (Int32.ofNat u0), sI (Int32.ofNat u1), sI (Int32.ofNat u2), sI pv5, sI pv7, sI pv9, sI pv11, sI pv13, sI pv15, sI (own_bi (own_sm u0 pv5 pv7 u2 pv13 pv15)), sI (own_bi (own_sm u1 pv9 pv11 u2 pv13 pv15)), sR a25, sR a27, sR a31, sI (p5 &&& (3 : Int32)), sI 0, sI 2, sI (-1)]) rfl ?_
            refine XS.goto X53.here hx rfl (pc0 := 271) (pc' := 337) rfl (hb hby at_271) (by decide) (by decide) ?_
            refine XS.aload X53.here hx rfl (hb hby at_337) rfl rfl ?_
            refine XS.iload X53.here hx rfl (hb hby at_339) rfl ?_
            show Steps p.tables e below (T53.setTop (mkF m 341 #[sI p1, sI p2, sI p3, sI p4, sI p5, sI (Int32.ofNat u0), sI (Int32.ofNat u1), sI (Int32.ofNat u2), sI pv5, sI pv7, sI pv9, sI pv11, sI pv13, sI pv15, sI (own_bi (own_sm u0 pv5 pv7 u2 pv13 pv15)), sI (own_bi (own_sm u1 pv9 pv11 u2 pv13 pv15)), sR a25, sR a27, sR a31, sI (p5 &&& (3 : Int32)), sI 0, sI 2, sI (-1)] [(kI 0), (kR a27)])) _
            refine XS.iload X53.here hx rfl (hb hby at_341) rfl ?_
            exact k)
          have W66 : Wo n0 T53.heap [(a27, oR Z [(kR a4_29), (kR a7_29), (kR a10_29), (kR a13_29), (kR a16_29), (kR a19_29), (kR a22_29), (kR a25_29), (kR a28_29), (kR a31_29), (kR a34_29), (kR a37_29), (kR a40_29), (kR a43_29), (kI 2), .null, (kI 2)]), (a13_29, Ar Z .int 17 (upd (upd zI 1 (kI 2)) 2 (kI 3))), (a28_29, Ar Z .int 17 (upd (upd (upd (upd (upd zI 0 (kI (Int32.ofNat 0))) 1 (kI (Int32.ofNat (0 + u0)))) 2 (kI (Int32.ofNat ((0 + u0) + u1)))) 2 (kI (Int32.ofNat (((0 + u0) + u1) + 0)))) 3 (kI (Int32.ofNat (((0 + u0) + u1) + (0 + u2)))))), (a37_29, Ar Z .int 16 (cpy f50 (cpy f41 zI 0 0 ((0 + u0) + u1)) 0 ((0 + u0) + u1) (0 + u2))), (a31, oB Z [.null, (kI 0), .null, (kI 0), (kR a4_33), (kR a7_33), (kR a10_33), (kR cm50), (kR a16_33), (kR a19_33), (kR a22_33), (kI 1), (kI 0), (kI (Int32.ofNat (0 + u2))), (kI 0), .null]), (a4_29, Ar Z .int 0 zI), (a7_29, Ar Z .int 0 (cpy zI (cpy zI zI 0 0 0) 0 0 0)), (a10_29, Ar Z .int 16 (upd (upd zI 0 (kI (-1))) 1 (kI (-1)))), (a16_29, Ar Z .int 17 (upd (upd zI 1 (kI 0)) 2 (kI 0))), (a19_29, Ar Z .int 16 (upd (upd zI 0 (kI (-1))) 1 (kI (-1)))), (a22_29, Ar Z .int 17 (upd (upd zI 1 (kI 0)) 2 (kI 0))), (a25_29, Ar Z .int 17 (upd (upd (upd (upd (upd zI 0 (kI 0)) 1 (kI 0)) 2 (kI 0)) 2 (kI 0)) 3 (kI 0))), (a31_29, Ar Z .int 17 (upd (upd (upd (upd (upd zI 0 (kI 0)) 1 (kI 0)) 2 (kI 0)) 2 (kI 0)) 3 (kI 0))), (a34_29, Ar Z .int 16 (cpy zI (cpy zI zI 0 0 0) 0 0 0)), (a40_29, Ar Z .int 64 (cpy zI (cpy zI zI 0 0 0) 0 0 0)), (a43_29, Ar Z .double 64 (cpy zD (cpy zD zD 0 0 0) 0 0 0)), (a4_33, Ar Z .int 2 (upd (upd (upd zI 0 (kI 0)) 1 (kI 0)) 0 (kI 0))), (a10_33, Ar Z .int 2 (upd (upd (upd zI 0 (kI (Int32.ofNat 0))) 1 (kI (Int32.ofNat (0 + u0)))) 0 (kI (Int32.ofNat 0)))), (a16_33, Ar Z .int 2 (upd (upd (upd zI 0 (kI 0)) 1 (kI 0)) 0 (kI 0))), (a7_33, Ar Z .int 2 zI), (cm50, Ar Z .int m50 f50), (a19_33, Ar Z .int 4 zI), (a22_33, Ar Z .double 4 zD), (a25, Ar Z .int 0 zI)] := Wo.pick W53 [0, 5, 10, 13, 1, 2, 3, 4, 6, 7, 8, 9, 11, 12, 14, 15, 16, 17, 18, 19, 20, 21, 22, 23] 24 (by decide +kernel) rfl
          obtain ⟨cq67, kq67, q67a, q67b, q67c⟩ := isOf hZ (rfl : T53.heap = T53.heap) (W66.exa (i := 0) rfl)
          obtain ⟨_, _, ⟨T67, L67, k67, n67⟩, -, X67, ⟨Lc67, hQ67, l67, y67, z67⟩, st67⟩ := X53.virtualBack hx (y := (⟨"com/example/sambre/sambre/engine/Rows", "choiceNamedAs", "(II)I"⟩ : MethodName)) (z := (⟨"com/example/sambre/sambre/engine/Rows", "choiceNamedAs", "(II)I"⟩ : MethodName)) hown (mvT hZ (hw _ (mi 131 rfl))) (mvT hZ (hw _ (mi 132 rfl))) (notFace_of_selects (args := #[]) (mvT hZ (hw _ (mi 134 rfl)))) (mvT hZ (hw _ (mi 134 rfl))) (mvT hZ (hw _ (mi 133 rfl))) (by decide) (backOf (W := 0) (rmCN02 l Z a0 hw [] a27 a4_29 a7_29 a10_29 a13_29 a16_29 a19_29 a22_29 a25_29 a28_29 a31_29 a34_29 a37_29 a40_29 a43_29 (2 : Int32) (2 : Int32) (upd (upd zI 1 (kI 2)) 2 (kI 3)) (upd (upd (upd (upd (upd zI 0 (kI (Int32.ofNat 0))) 1 (kI (Int32.ofNat (0 + u0)))) 2 (kI (Int32.ofNat ((0 + u0) + u1)))) 2 (kI (Int32.ofNat (((0 + u0) + u1) + 0)))) 3 (kI (Int32.ofNat (((0 + u0) + u1) + (0 + u2))))) (cpy f50 (cpy f41 zI 0 0 ((0 + u0) + u1)) 0 ((0 + u0) + u1) (0 + u2)) (own_F u0 u1 u2) ((a31, oB Z [.null, (kI 0), .null, (kI 0), (kR a4_33), (kR a7_33), (kR a10_33), (kR cm50), (kR a16_33), (kR a19_33), (kR a22_33), (kI 1), (kI 0), (kI (Int32.ofNat (0 + u2))), (kI 0), .null]) :: (a4_29, Ar Z .int 0 zI) :: (a7_29, Ar Z .int 0 (cpy zI (cpy zI zI 0 0 0) 0 0 0)) :: (a10_29, Ar Z .int 16 (upd (upd zI 0 (kI (-1))) 1 (kI (-1)))) :: (a16_29, Ar Z .int 17 (upd (upd zI 1 (kI 0)) 2 (kI 0))) :: (a19_29, Ar Z .int 16 (upd (upd zI 0 (kI (-1))) 1 (kI (-1)))) :: (a22_29, Ar Z .int 17 (upd (upd zI 1 (kI 0)) 2 (kI 0))) :: (a25_29, Ar Z .int 17 (upd (upd (upd (upd (upd zI 0 (kI 0)) 1 (kI 0)) 2 (kI 0)) 2 (kI 0)) 3 (kI 0))) :: (a31_29, Ar Z .int 17 (upd (upd (upd (upd (upd zI 0 (kI 0)) 1 (kI 0)) 2 (kI 0)) 2 (kI 0)) 3 (kI 0))) :: (a34_29, Ar Z .int 16 (cpy zI (cpy zI zI 0 0 0) 0 0 0)) :: (a40_29, Ar Z .int 64 (cpy zI (cpy zI zI 0 0 0) 0 0 0)) :: (a43_29, Ar Z .double 64 (cpy zD (cpy zD zD 0 0 0) 0 0 0)) :: (a4_33, Ar Z .int 2 (upd (upd (upd zI 0 (kI 0)) 1 (kI 0)) 0 (kI 0))) :: (a10_33, Ar Z .int 2 (upd (upd (upd zI 0 (kI (Int32.ofNat 0))) 1 (kI (Int32.ofNat (0 + u0)))) 0 (kI (Int32.ofNat 0)))) :: (a16_33, Ar Z .int 2 (upd (upd (upd zI 0 (kI 0)) 1 (kI 0)) 0 (kI 0))) :: (a7_33, Ar Z .int 2 zI) :: (cm50, Ar Z .int m50 f50) :: (a19_33, Ar Z .int 4 zI) :: (a22_33, Ar Z .double 4 zD) :: (a25, Ar Z .int 0 zI) :: []) T53.heap n0 W66 rfl rfl (fun k hk => by rcases (by omega : k = 0 ∨ k = 1 ∨ k = 2 ∨ k = 3) with rfl | rfl | rfl | rfl <;> rfl) (own_Fb (by omega) (by omega) (by omega)) own_Fm) hZ (hw _ (mi 135 rfl)) (hw _ (mi 10 rfl)) (by decide) (by decide)) q67a q67c (g := K65.g) rfl (by rw [hml]; rfl) (Steps.refl _) (argsL := [(.int (0 : Int32)), (.int (2 : Int32))]) (rest := []) (lenOf pd_cn rfl) rfl (by show 2 * 0 + _ ≤ _; exact Nat.le_of_eq rfl) (hb hby at_343) (fun _ _ => ⟨rfl, (rfl : T53.heap = T53.heap), (by decide : 30 + 0 ≤ _), (by decide : 381 + 0 ≤ _)⟩)
          dsimp only [Pt.U, Pt.locs, Pt.cells, Pt.slots] at X67 l67 y67 z67 st67 hQ67
          subst l67 y67 z67
          obtain ⟨rfl, N67q, W67⟩ := hQ67
          have N67 := Fr.app N53 N67q
          have K68 : Rch p e below s₁ F0 T67 (mkF m 356 #[sI p1, sI p2, sI p3, sI p4, sI p5, sI (Int32.ofNat u0), sI (Int32.ofNat u1), sI (Int32.ofNat u2), sI pv5, sI pv7, sI pv9, sI pv11, sI pv13, sI pv15, sI (own_bi (own_sm u0 pv5 pv7 u2 pv13 pv15)), sI (own_bi (own_sm u1 pv9 pv11 u2 pv13 pv15)), sR a25, sR a27, sR a31, sI (p5 &&& (3 : Int32)), sI 0, sI 2, sI (-1)] [(kI 1)]) := fun t k => K65 t (st67.trans (by
            refine XS.iload X67.here hx rfl (hb hby at_346) rfl ?_
            refine XS.icmpNo X67.here hx rfl (hb hby at_348) rfl (teq (by rw [m02, if_neg t1, m12, t2b]; rfl)).2 ?_
            refine XS.iconst X67.here hx rfl (hb hby at_351) ?_
            refine XS.goto X67.here hx rfl (pc0 := 352) (pc' := 356) rfl (hb hby at_352) (by decide) (by decide) ?_
            exact k))
          obtain ⟨fs, hr, hrun, hended, hWm, hsame⟩ := X67.leave (v := some (.int (1 : Int32))) (fun h => by rw [Bd.returns] at h; cases h)
          refine ⟨_, _, pre0 _ (K68 _ (retN X67 hx (t := .boolean) Bd.returns (by simp) (hb hby at_356) hr)), hrun, hended, _, _, rfl, ?_, ⟨_, rfl⟩, hWm, hsame.mono (by decide) (by decide)⟩
          show Qrm0 Z p1 p2 p3 p4 p5 n0 _ T67.heap _
          exact ⟨rfl, N67⟩
    · have q0f := q0
      have K69 : Rch p e below s₁ F0 T53 (mkF m 277 #[sI p1, sI p2, sI p3, sI p4, sI p5, sI (Int32.ofNat u0), sI (Int32.ofNat u1), sI (Int32.ofNat u2), sI pv5, sI pv7, sI pv9, sI pv11, sI pv13, sI pv15, sI (own_bi (own_sm u0 pv5 pv7 u2 pv13 pv15)), sI (own_bi (own_sm u1 pv9 pv11 u2 pv13 pv15)), sR a25, sR a27, sR a31, sI (p5 &&& (3 : Int32)), sU, sU, sU] [(kI 1), (kI (p5 &&& (3 : Int32)))]) := fun t k => K54 t (by
        refine XS.iload X53.here hx rfl (hb hby at_239) rfl ?_
        refine XS.ifYes X53.here hx rfl (pc0 := 241) (pc' := 274) rfl (hb hby at_241) rfl ((if0 _ _).trans (feq q0).2) (by decide) (by decide) ?_
        refine XS.iload X53.here hx rfl (hb hby at_274) rfl ?_
        refine XS.iconst X53.here hx rfl (hb hby at_276) ?_
        exact k)
      by_cases q1 : (p5 &&& (3 : Int32)) = (1 : Int32)
      · have q1t := q1
        have K70 : Rch p e below s₁ F0 T53 (mkF m 288 #[sI p1, sI p2, sI p3, sI p4, sI p5, sI (Int32.ofNat u0), sI (Int32.ofNat u1), sI (Int32.ofNat u2), sI pv5, sI pv7, sI pv9, sI pv11, sI pv13, sI pv15, sI (own_bi (own_sm u0 pv5 pv7 u2 pv13 pv15)), sI (own_bi (own_sm u1 pv9 pv11 u2 pv13 pv15)), sR a25, sR a27, sR a31, sI (p5 &&& (3 : Int32)), sI 1, sI 0, sU] [(kI (own_bi (own_sm u0 pv5 pv7 u2 pv13 pv15)))]) := fun t k => K69 t (by
          refine XS.icmpNo X53.here hx rfl (hb hby at_277) rfl (teq q1).2 ?_
          refine XS.iconst X53.here hx rfl (hb hby at_280) ?_
          refine XS.istore X53.here hx rfl (hb hby at_281) rfl (l' := #[sI p1, sI p2, sI p3, sI p4, sI p5, sI (Int32.ofNat u0), sI (Int32.ofNat u1), sI (Int32.ofNat u2), sI pv5, sI pv7, sI pv9, sI pv11, sI pv13, sI pv15, sI (own_bi (own_sm u0 pv5 pv7 u2 pv13 pv15)), sI (own_bi (own_sm u1 pv9 pv11 u2 pv13 pv15)), sR a25, sR a27, sR a31, sI (p5 &&& (3 : Int32)), sI 1, sU, sU]) rfl ?_
          refine XS.iconst X53.here hx rfl (hb hby at_283) ?_
          refine XS.istore X53.here hx rfl (hb hby at_284) rfl (l' := #[sI p1, sI p2, sI p3, sI p4, sI p5, sI (Int32.ofNat u0), sI (Int32.ofNat u1), sI (Int32.ofNat u2), sI pv5, sI pv7, sI pv9, sI pv11, sI pv13, sI pv15, sI (own_bi (own_sm u0 pv5 pv7 u2 pv13 pv15)), sI (own_bi (own_sm u1 pv9 pv11 u2 pv13 pv15)), sR a25, sR a27, sR a31, sI (p5 &&& (3 : Int32)), sI 1, sI 0, sU]) rfl ?_
          refine XS.iload X53.here hx rfl (hb hby at_286) rfl ?_
          exact k)
        by_cases t1 : (own_sm u0 pv5 pv7 u2 pv13 pv15) = true
        · have t1b := t1
          have K71 : Rch p e below s₁ F0 T53 (mkF m 343 #[sI p1, sI p2, sI p3, sI p4, sI p5, sI (Int32.ofNat u0), sI (Int32.ofNat u1), sI (Int32.ofNat u2), sI pv5, sI pv7, sI pv9, sI pv11, sI pv13, sI pv15, sI (own_bi (own_sm u0 pv5 pv7 u2 pv13 pv15)), sI (own_bi (own_sm u1 pv9 pv11 u2 pv13 pv15)), sR a25, sR a27, sR a31, sI (p5 &&& (3 : Int32)), sI 1, sI 0, sI 2] [(kI 0), (kI 1), (kR a27)]) := fun t k => K70 t (by
            refine XS.ifNo X53.here hx rfl (hb hby at_288) rfl ((if0 _ _).trans (feq (show ¬ (own_bi (own_sm u0 pv5 pv7 u2 pv13 pv15) = 0) from by rw [t1]; decide)).1) ?_
            refine XS.iconst X53.here hx rfl (hb hby at_291) ?_
            refine XS.goto X53.here hx rfl (pc0 := 292) (pc' := 296) rfl (hb hby at_292) (by decide) (by decide) ?_
            refine XS.istore X53.here hx rfl (hb hby at_296) rfl (l' := #[sI p1, sI p2, sI p3, sI p4, sI p5, sI (Int32.ofNat u0), sI (Int32.ofNat u1), sI (Int32.ofNat u2), sI pv5, sI pv7, sI pv9, sI pv11, sI pv13, sI pv15, sI (own_bi (own_sm u0 pv5 pv7 u2 pv13 pv15)), sI (own_bi (own_sm u1 pv9 pv11 u2 pv13 pv15)), sR a25, sR a27, sR a31, sI (p5 &&& (3 : Int32)), sI 1, sI 0, sI 2]) rfl ?_
            refine XS.goto X53.here hx rfl (pc0 := 298) (pc' := 337) rfl (hb hby at_298) (by decide) (by decide) ?_
            refine XS.aload X53.here hx rfl (hb hby at_337) rfl rfl ?_
            show Steps p.tables e below (T53.setTop (mkF m 339 #[sI p1, sI p2, sI p3, sI p4, sI p5, sI (Int32.ofNat u0), sI (Int32.ofNat u1), sI (Int32.ofNat u2), sI pv5, sI pv7, sI pv9, sI pv11, sI pv13, sI pv15, sI (own_bi (own_sm u0 pv5 pv7 u2 pv13 pv15)), sI (own_bi (own_sm u1 pv9 pv11 u2 pv13 pv15)), sR a25, sR a27, sR a31, sI (p5 &&& (3 : Int32)), sI 1, sI 0, sI 2] [(kR a27)])) _
            refine XS.iload X53.here hx rfl (hb hby at_339) rfl ?_
            refine XS.iload X53.here hx rfl (hb hby at_341) rfl ?_
            exact k)
          have W72 : Wo n0 T53.heap [(a27, oR Z [(kR a4_29), (kR a7_29), (kR a10_29), (kR a13_29), (kR a16_29), (kR a19_29), (kR a22_29), (kR a25_29), (kR a28_29), (kR a31_29), (kR a34_29), (kR a37_29), (kR a40_29), (kR a43_29), (kI 2), .null, (kI 2)]), (a13_29, Ar Z .int 17 (upd (upd zI 1 (kI 2)) 2 (kI 3))), (a28_29, Ar Z .int 17 (upd (upd (upd (upd (upd zI 0 (kI (Int32.ofNat 0))) 1 (kI (Int32.ofNat (0 + u0)))) 2 (kI (Int32.ofNat ((0 + u0) + u1)))) 2 (kI (Int32.ofNat (((0 + u0) + u1) + 0)))) 3 (kI (Int32.ofNat (((0 + u0) + u1) + (0 + u2)))))), (a37_29, Ar Z .int 16 (cpy f50 (cpy f41 zI 0 0 ((0 + u0) + u1)) 0 ((0 + u0) + u1) (0 + u2))), (a31, oB Z [.null, (kI 0), .null, (kI 0), (kR a4_33), (kR a7_33), (kR a10_33), (kR cm50), (kR a16_33), (kR a19_33), (kR a22_33), (kI 1), (kI 0), (kI (Int32.ofNat (0 + u2))), (kI 0), .null]), (a4_29, Ar Z .int 0 zI), (a7_29, Ar Z .int 0 (cpy zI (cpy zI zI 0 0 0) 0 0 0)), (a10_29, Ar Z .int 16 (upd (upd zI 0 (kI (-1))) 1 (kI (-1)))), (a16_29, Ar Z .int 17 (upd (upd zI 1 (kI 0)) 2 (kI 0))), (a19_29, Ar Z .int 16 (upd (upd zI 0 (kI (-1))) 1 (kI (-1)))), (a22_29, Ar Z .int 17 (upd (upd zI 1 (kI 0)) 2 (kI 0))), (a25_29, Ar Z .int 17 (upd (upd (upd (upd (upd zI 0 (kI 0)) 1 (kI 0)) 2 (kI 0)) 2 (kI 0)) 3 (kI 0))), (a31_29, Ar Z .int 17 (upd (upd (upd (upd (upd zI 0 (kI 0)) 1 (kI 0)) 2 (kI 0)) 2 (kI 0)) 3 (kI 0))), (a34_29, Ar Z .int 16 (cpy zI (cpy zI zI 0 0 0) 0 0 0)), (a40_29, Ar Z .int 64 (cpy zI (cpy zI zI 0 0 0) 0 0 0)), (a43_29, Ar Z .double 64 (cpy zD (cpy zD zD 0 0 0) 0 0 0)), (a4_33, Ar Z .int 2 (upd (upd (upd zI 0 (kI 0)) 1 (kI 0)) 0 (kI 0))), (a10_33, Ar Z .int 2 (upd (upd (upd zI 0 (kI (Int32.ofNat 0))) 1 (kI (Int32.ofNat (0 + u0)))) 0 (kI (Int32.ofNat 0)))), (a16_33, Ar Z .int 2 (upd (upd (upd zI 0 (kI 0)) 1 (kI 0)) 0 (kI 0))), (a7_33, Ar Z .int 2 zI), (cm50, Ar Z .int m50 f50), (a19_33, Ar Z .int 4 zI), (a22_33, Ar Z .double 4 zD), (a25, Ar Z .int 0 zI)] := Wo.pick W53 [0, 5, 10, 13, 1, 2, 3, 4, 6, 7, 8, 9, 11, 12, 14, 15, 16, 17, 18, 19, 20, 21, 22, 23] 24 (by decide +kernel) rfl
          obtain ⟨cq73, kq73, q73a, q73b, q73c⟩ := isOf hZ (rfl : T53.heap = T53.heap) (W72.exa (i := 0) rfl)
          obtain ⟨_, _, ⟨T73, L73, k73, n73⟩, -, X73, ⟨Lc73, hQ73, l73, y73, z73⟩, st73⟩ := X53.virtualBack hx (y := (⟨"com/example/sambre/sambre/engine/Rows", "choiceNamedAs", "(II)I"⟩ : MethodName)) (z := (⟨"com/example/sambre/sambre/engine/Rows", "choiceNamedAs", "(II)I"⟩ : MethodName)) hown (mvT hZ (hw _ (mi 131 rfl))) (mvT hZ (hw _ (mi 132 rfl))) (notFace_of_selects (args := #[]) (mvT hZ (hw _ (mi 134 rfl)))) (mvT hZ (hw _ (mi 134 rfl))) (mvT hZ (hw _ (mi 133 rfl))) (by decide) (backOf (W := 0) (rmCN10 l Z a0 hw [] a27 a4_29 a7_29 a10_29 a13_29 a16_29 a19_29 a22_29 a25_29 a28_29 a31_29 a34_29 a37_29 a40_29 a43_29 (2 : Int32) (2 : Int32) (upd (upd zI 1 (kI 2)) 2 (kI 3)) (upd (upd (upd (upd (upd zI 0 (kI (Int32.ofNat 0))) 1 (kI (Int32.ofNat (0 + u0)))) 2 (kI (Int32.ofNat ((0 + u0) + u1)))) 2 (kI (Int32.ofNat (((0 + u0) + u1) + 0)))) 3 (kI (Int32.ofNat (((0 + u0) + u1) + (0 + u2))))) (cpy f50 (cpy f41 zI 0 0 ((0 + u0) + u1)) 0 ((0 + u0) + u1) (0 + u2)) (own_F u0 u1 u2) ((a31, oB Z [.null, (kI 0), .null, (kI 0), (kR a4_33), (kR a7_33), (kR a10_33), (kR cm50), (kR a16_33), (kR a19_33), (kR a22_33), (kI 1), (kI 0), (kI (Int32.ofNat (0 + u2))), (kI 0), .null]) :: (a4_29, Ar Z .int 0 zI) :: (a7_29, Ar Z .int 0 (cpy zI (cpy zI zI 0 0 0) 0 0 0)) :: (a10_29, Ar Z .int 16 (upd (upd zI 0 (kI (-1))) 1 (kI (-1)))) :: (a16_29, Ar Z .int 17 (upd (upd zI 1 (kI 0)) 2 (kI 0))) :: (a19_29, Ar Z .int 16 (upd (upd zI 0 (kI (-1))) 1 (kI (-1)))) :: (a22_29, Ar Z .int 17 (upd (upd zI 1 (kI 0)) 2 (kI 0))) :: (a25_29, Ar Z .int 17 (upd (upd (upd (upd (upd zI 0 (kI 0)) 1 (kI 0)) 2 (kI 0)) 2 (kI 0)) 3 (kI 0))) :: (a31_29, Ar Z .int 17 (upd (upd (upd (upd (upd zI 0 (kI 0)) 1 (kI 0)) 2 (kI 0)) 2 (kI 0)) 3 (kI 0))) :: (a34_29, Ar Z .int 16 (cpy zI (cpy zI zI 0 0 0) 0 0 0)) :: (a40_29, Ar Z .int 64 (cpy zI (cpy zI zI 0 0 0) 0 0 0)) :: (a43_29, Ar Z .double 64 (cpy zD (cpy zD zD 0 0 0) 0 0 0)) :: (a4_33, Ar Z .int 2 (upd (upd (upd zI 0 (kI 0)) 1 (kI 0)) 0 (kI 0))) :: (a10_33, Ar Z .int 2 (upd (upd (upd zI 0 (kI (Int32.ofNat 0))) 1 (kI (Int32.ofNat (0 + u0)))) 0 (kI (Int32.ofNat 0)))) :: (a16_33, Ar Z .int 2 (upd (upd (upd zI 0 (kI 0)) 1 (kI 0)) 0 (kI 0))) :: (a7_33, Ar Z .int 2 zI) :: (cm50, Ar Z .int m50 f50) :: (a19_33, Ar Z .int 4 zI) :: (a22_33, Ar Z .double 4 zD) :: (a25, Ar Z .int 0 zI) :: []) T53.heap n0 W72 rfl rfl (fun k hk => by rcases (by omega : k = 0 ∨ k = 1 ∨ k = 2 ∨ k = 3) with rfl | rfl | rfl | rfl <;> rfl) (own_Fb (by omega) (by omega) (by omega)) own_Fm) hZ (hw _ (mi 135 rfl)) (hw _ (mi 10 rfl)) (by decide) (by decide)) q73a q73c (g := K71.g) rfl (by rw [hml]; rfl) (Steps.refl _) (argsL := [(.int (1 : Int32)), (.int (0 : Int32))]) (rest := []) (lenOf pd_cn rfl) rfl (by show 2 * 0 + _ ≤ _; exact Nat.le_of_eq rfl) (hb hby at_343) (fun _ _ => ⟨rfl, (rfl : T53.heap = T53.heap), (by decide : 30 + 0 ≤ _), (by decide : 381 + 0 ≤ _)⟩)
          dsimp only [Pt.U, Pt.locs, Pt.cells, Pt.slots] at X73 l73 y73 z73 st73 hQ73
          subst l73 y73 z73
          obtain ⟨rfl, N73q, W73⟩ := hQ73
          have N73 := Fr.app N53 N73q
          have K74 : Rch p e below s₁ F0 T73 (mkF m 356 #[sI p1, sI p2, sI p3, sI p4, sI p5, sI (Int32.ofNat u0), sI (Int32.ofNat u1), sI (Int32.ofNat u2), sI pv5, sI pv7, sI pv9, sI pv11, sI pv13, sI pv15, sI (own_bi (own_sm u0 pv5 pv7 u2 pv13 pv15)), sI (own_bi (own_sm u1 pv9 pv11 u2 pv13 pv15)), sR a25, sR a27, sR a31, sI (p5 &&& (3 : Int32)), sI 1, sI 0, sI 2] [(kI 1)]) := fun t k => K71 t (st73.trans (by
            refine XS.iload X73.here hx rfl (hb hby at_346) rfl ?_
            refine XS.icmpNo X73.here hx rfl (hb hby at_348) rfl (teq (by rw [m20, own_sm_comm, t1]; rfl)).2 ?_
            refine XS.iconst X73.here hx rfl (hb hby at_351) ?_
            refine XS.goto X73.here hx rfl (pc0 := 352) (pc' := 356) rfl (hb hby at_352) (by decide) (by decide) ?_
            exact k))
          obtain ⟨fs, hr, hrun, hended, hWm, hsame⟩ := X73.leave (v := some (.int (1 : Int32))) (fun h => by rw [Bd.returns] at h; cases h)
          refine ⟨_, _, pre0 _ (K74 _ (retN X73 hx (t := .boolean) Bd.returns (by simp) (hb hby at_356) hr)), hrun, hended, _, _, rfl, ?_, ⟨_, rfl⟩, hWm, hsame.mono (by decide) (by decide)⟩
          show Qrm0 Z p1 p2 p3 p4 p5 n0 _ T73.heap _
          exact ⟨rfl, N73⟩
        · have t1b := Bool.eq_false_iff.mpr t1
          have K75 : Rch p e below s₁ F0 T53 (mkF m 343 #[sI p1, sI p2, sI p3, sI p4, sI p5, sI (Int32.ofNat u0), sI (Int32.ofNat u1), sI (Int32.ofNat u2), sI pv5, sI pv7, sI pv9, sI pv11, sI pv13, sI pv15, sI (own_bi (own_sm u0 pv5 pv7 u2 pv13 pv15)), sI (own_bi (own_sm u1 pv9 pv11 u2 pv13 pv15)), sR a25, sR a27, sR a31, sI (p5 &&& (3 : Int32)), sI 1, sI 0, sI (-1)] [(kI 0), (kI 1), (kR a27)]) := fun t k => K70 t (by
            refine XS.ifYes X53.here hx rfl (pc0 := 288) (pc' := 295) rfl (hb hby at_288) rfl ((if0 _ _).trans (teq (show own_bi (own_sm u0 pv5 pv7 u2 pv13 pv15) = 0 from by rw [t1b]; rfl)).1) (by decide) (by decide) ?_
            refine XS.iconst X53.here hx rfl (hb hby at_295) ?_
            refine XS.istore X53.here hx rfl (hb hby at_296) rfl (l' := #[sI p1, sI p2, sI p3, sI p4, sI p5, sI (Int32.ofNat u0), sI (Int32.ofNat u1), sI (Int32.ofNat u2), sI pv5, sI pv7, sI pv9, sI pv11, sI pv13, sI pv15, sI (own_bi (own_sm u0 pv5 pv7 u2 pv13 pv15)), sI (own_bi (own_sm u1 pv9 pv11 u2 pv13 pv15)), sR a25, sR a27, sR a31, sI (p5 &&& (3 : Int32)), sI 1, sI 0, sI (-1)]) rfl ?_
            refine XS.goto X53.here hx rfl (pc0 := 298) (pc' := 337) rfl (hb hby at_298) (by decide) (by decide) ?_
            refine XS.aload X53.here hx rfl (hb hby at_337) rfl rfl ?_
            refine XS.iload X53.here hx rfl (hb hby at_339) rfl ?_
            show Steps p.tables e below (T53.setTop (mkF m 341 #[sI p1, sI p2, sI p3, sI p4, sI p5, sI (Int32.ofNat u0), sI (Int32.ofNat u1), sI (Int32.ofNat u2), sI pv5, sI pv7, sI pv9, sI pv11, sI pv13, sI pv15, sI (own_bi (own_sm u0 pv5 pv7 u2 pv13 pv15)), sI (own_bi (own_sm u1 pv9 pv11 u2 pv13 pv15)), sR a25, sR a27, sR a31, sI (p5 &&& (3 : Int32)), sI 1, sI 0, sI (-1)] [(kI 1), (kR a27)])) _
            refine XS.iload X53.here hx rfl (hb hby at_341) rfl ?_
            exact k)
          have W76 : Wo n0 T53.heap [(a27, oR Z [(kR a4_29), (kR a7_29), (kR a10_29), (kR a13_29), (kR a16_29), (kR a19_29), (kR a22_29), (kR a25_29), (kR a28_29), (kR a31_29), (kR a34_29), (kR a37_29), (kR a40_29), (kR a43_29), (kI 2), .null, (kI 2)]), (a13_29, Ar Z .int 17 (upd (upd zI 1 (kI 2)) 2 (kI 3))), (a28_29, Ar Z .int 17 (upd (upd (upd (upd (upd zI 0 (kI (Int32.ofNat 0))) 1 (kI (Int32.ofNat (0 + u0)))) 2 (kI (Int32.ofNat ((0 + u0) + u1)))) 2 (kI (Int32.ofNat (((0 + u0) + u1) + 0)))) 3 (kI (Int32.ofNat (((0 + u0) + u1) + (0 + u2)))))), (a37_29, Ar Z .int 16 (cpy f50 (cpy f41 zI 0 0 ((0 + u0) + u1)) 0 ((0 + u0) + u1) (0 + u2))), (a31, oB Z [.null, (kI 0), .null, (kI 0), (kR a4_33), (kR a7_33), (kR a10_33), (kR cm50), (kR a16_33), (kR a19_33), (kR a22_33), (kI 1), (kI 0), (kI (Int32.ofNat (0 + u2))), (kI 0), .null]), (a4_29, Ar Z .int 0 zI), (a7_29, Ar Z .int 0 (cpy zI (cpy zI zI 0 0 0) 0 0 0)), (a10_29, Ar Z .int 16 (upd (upd zI 0 (kI (-1))) 1 (kI (-1)))), (a16_29, Ar Z .int 17 (upd (upd zI 1 (kI 0)) 2 (kI 0))), (a19_29, Ar Z .int 16 (upd (upd zI 0 (kI (-1))) 1 (kI (-1)))), (a22_29, Ar Z .int 17 (upd (upd zI 1 (kI 0)) 2 (kI 0))), (a25_29, Ar Z .int 17 (upd (upd (upd (upd (upd zI 0 (kI 0)) 1 (kI 0)) 2 (kI 0)) 2 (kI 0)) 3 (kI 0))), (a31_29, Ar Z .int 17 (upd (upd (upd (upd (upd zI 0 (kI 0)) 1 (kI 0)) 2 (kI 0)) 2 (kI 0)) 3 (kI 0))), (a34_29, Ar Z .int 16 (cpy zI (cpy zI zI 0 0 0) 0 0 0)), (a40_29, Ar Z .int 64 (cpy zI (cpy zI zI 0 0 0) 0 0 0)), (a43_29, Ar Z .double 64 (cpy zD (cpy zD zD 0 0 0) 0 0 0)), (a4_33, Ar Z .int 2 (upd (upd (upd zI 0 (kI 0)) 1 (kI 0)) 0 (kI 0))), (a10_33, Ar Z .int 2 (upd (upd (upd zI 0 (kI (Int32.ofNat 0))) 1 (kI (Int32.ofNat (0 + u0)))) 0 (kI (Int32.ofNat 0)))), (a16_33, Ar Z .int 2 (upd (upd (upd zI 0 (kI 0)) 1 (kI 0)) 0 (kI 0))), (a7_33, Ar Z .int 2 zI), (cm50, Ar Z .int m50 f50), (a19_33, Ar Z .int 4 zI), (a22_33, Ar Z .double 4 zD), (a25, Ar Z .int 0 zI)] := Wo.pick W53 [0, 5, 10, 13, 1, 2, 3, 4, 6, 7, 8, 9, 11, 12, 14, 15, 16, 17, 18, 19, 20, 21, 22, 23] 24 (by decide +kernel) rfl
          obtain ⟨cq77, kq77, q77a, q77b, q77c⟩ := isOf hZ (rfl : T53.heap = T53.heap) (W76.exa (i := 0) rfl)
          obtain ⟨_, _, ⟨T77, L77, k77, n77⟩, -, X77, ⟨Lc77, hQ77, l77, y77, z77⟩, st77⟩ := X53.virtualBack hx (y := (⟨"com/example/sambre/sambre/engine/Rows", "choiceNamedAs", "(II)I"⟩ : MethodName)) (z := (⟨"com/example/sambre/sambre/engine/Rows", "choiceNamedAs", "(II)I"⟩ : MethodName)) hown (mvT hZ (hw _ (mi 131 rfl))) (mvT hZ (hw _ (mi 132 rfl))) (notFace_of_selects (args := #[]) (mvT hZ (hw _ (mi 134 rfl)))) (mvT hZ (hw _ (mi 134 rfl))) (mvT hZ (hw _ (mi 133 rfl))) (by decide) (backOf (W := 0) (rmCN10 l Z a0 hw [] a27 a4_29 a7_29 a10_29 a13_29 a16_29 a19_29 a22_29 a25_29 a28_29 a31_29 a34_29 a37_29 a40_29 a43_29 (2 : Int32) (2 : Int32) (upd (upd zI 1 (kI 2)) 2 (kI 3)) (upd (upd (upd (upd (upd zI 0 (kI (Int32.ofNat 0))) 1 (kI (Int32.ofNat (0 + u0)))) 2 (kI (Int32.ofNat ((0 + u0) + u1)))) 2 (kI (Int32.ofNat (((0 + u0) + u1) + 0)))) 3 (kI (Int32.ofNat (((0 + u0) + u1) + (0 + u2))))) (cpy f50 (cpy f41 zI 0 0 ((0 + u0) + u1)) 0 ((0 + u0) + u1) (0 + u2)) (own_F u0 u1 u2) ((a31, oB Z [.null, (kI 0), .null, (kI 0), (kR a4_33), (kR a7_33), (kR a10_33), (kR cm50), (kR a16_33), (kR a19_33), (kR a22_33), (kI 1), (kI 0), (kI (Int32.ofNat (0 + u2))), (kI 0), .null]) :: (a4_29, Ar Z .int 0 zI) :: (a7_29, Ar Z .int 0 (cpy zI (cpy zI zI 0 0 0) 0 0 0)) :: (a10_29, Ar Z .int 16 (upd (upd zI 0 (kI (-1))) 1 (kI (-1)))) :: (a16_29, Ar Z .int 17 (upd (upd zI 1 (kI 0)) 2 (kI 0))) :: (a19_29, Ar Z .int 16 (upd (upd zI 0 (kI (-1))) 1 (kI (-1)))) :: (a22_29, Ar Z .int 17 (upd (upd zI 1 (kI 0)) 2 (kI 0))) :: (a25_29, Ar Z .int 17 (upd (upd (upd (upd (upd zI 0 (kI 0)) 1 (kI 0)) 2 (kI 0)) 2 (kI 0)) 3 (kI 0))) :: (a31_29, Ar Z .int 17 (upd (upd (upd (upd (upd zI 0 (kI 0)) 1 (kI 0)) 2 (kI 0)) 2 (kI 0)) 3 (kI 0))) :: (a34_29, Ar Z .int 16 (cpy zI (cpy zI zI 0 0 0) 0 0 0)) :: (a40_29, Ar Z .int 64 (cpy zI (cpy zI zI 0 0 0) 0 0 0)) :: (a43_29, Ar Z .double 64 (cpy zD (cpy zD zD 0 0 0) 0 0 0)) :: (a4_33, Ar Z .int 2 (upd (upd (upd zI 0 (kI 0)) 1 (kI 0)) 0 (kI 0))) :: (a10_33, Ar Z .int 2 (upd (upd (upd zI 0 (kI (Int32.ofNat 0))) 1 (kI (Int32.ofNat (0 + u0)))) 0 (kI (Int32.ofNat 0)))) :: (a16_33, Ar Z .int 2 (upd (upd (upd zI 0 (kI 0)) 1 (kI 0)) 0 (kI 0))) :: (a7_33, Ar Z .int 2 zI) :: (cm50, Ar Z .int m50 f50) :: (a19_33, Ar Z .int 4 zI) :: (a22_33, Ar Z .double 4 zD) :: (a25, Ar Z .int 0 zI) :: []) T53.heap n0 W76 rfl rfl (fun k hk => by rcases (by omega : k = 0 ∨ k = 1 ∨ k = 2 ∨ k = 3) with rfl | rfl | rfl | rfl <;> rfl) (own_Fb (by omega) (by omega) (by omega)) own_Fm) hZ (hw _ (mi 135 rfl)) (hw _ (mi 10 rfl)) (by decide) (by decide)) q77a q77c (g := K75.g) rfl (by rw [hml]; rfl) (Steps.refl _) (argsL := [(.int (1 : Int32)), (.int (0 : Int32))]) (rest := []) (lenOf pd_cn rfl) rfl (by show 2 * 0 + _ ≤ _; exact Nat.le_of_eq rfl) (hb hby at_343) (fun _ _ => ⟨rfl, (rfl : T53.heap = T53.heap), (by decide : 30 + 0 ≤ _), (by decide : 381 + 0 ≤ _)⟩)
          dsimp only [Pt.U, Pt.locs, Pt.cells, Pt.slots] at X77 l77 y77 z77 st77 hQ77
          subst l77 y77 z77
          obtain ⟨rfl, N77q, W77⟩ := hQ77
          have N77 := Fr.app N53 N77q
          have K78 : Rch p e below s₁ F0 T77 (mkF m 356 #[sI p1, sI p2, sI p3, sI p4, sI p5, sI (Int32.ofNat u0), sI (Int32.ofNat u1), sI (Int32.ofNat u2), sI pv5, sI pv7, sI pv9, sI pv11, sI pv13, sI pv15, sI (own_bi (own_sm u0 pv5 pv7 u2 pv13 pv15)), sI (own_bi (own_sm u1 pv9 pv11 u2 pv13 pv15)), sR a25, sR a27, sR a31, sI (p5 &&& (3 : Int32)), sI 1, sI 0, sI (-1)] [(kI 1)]) := fun t k => K75 t (st77.trans (by
            refine XS.iload X77.here hx rfl (hb hby at_346) rfl ?_
            refine XS.icmpNo X77.here hx rfl (hb hby at_348) rfl (teq (by rw [m20, own_sm_comm, t1b]; rfl)).2 ?_
            refine XS.iconst X77.here hx rfl (hb hby at_351) ?_
            refine XS.goto X77.here hx rfl (pc0 := 352) (pc' := 356) rfl (hb hby at_352) (by decide) (by decide) ?_
            exact k))
          obtain ⟨fs, hr, hrun, hended, hWm, hsame⟩ := X77.leave (v := some (.int (1 : Int32))) (fun h => by rw [Bd.returns] at h; cases h)
          refine ⟨_, _, pre0 _ (K78 _ (retN X77 hx (t := .boolean) Bd.returns (by simp) (hb hby at_356) hr)), hrun, hended, _, _, rfl, ?_, ⟨_, rfl⟩, hWm, hsame.mono (by decide) (by decide)⟩
          show Qrm0 Z p1 p2 p3 p4 p5 n0 _ T77.heap _
          exact ⟨rfl, N77⟩
      · have q1f := q1
        have K79 : Rch p e below s₁ F0 T53 (mkF m 304 #[sI p1, sI p2, sI p3, sI p4, sI p5, sI (Int32.ofNat u0), sI (Int32.ofNat u1), sI (Int32.ofNat u2), sI pv5, sI pv7, sI pv9, sI pv11, sI pv13, sI pv15, sI (own_bi (own_sm u0 pv5 pv7 u2 pv13 pv15)), sI (own_bi (own_sm u1 pv9 pv11 u2 pv13 pv15)), sR a25, sR a27, sR a31, sI (p5 &&& (3 : Int32)), sU, sU, sU] [(kI 2), (kI (p5 &&& (3 : Int32)))]) := fun t k => K69 t (by
          refine XS.icmpYes X53.here hx rfl (pc0 := 277) (pc' := 301) rfl (hb hby at_277) rfl (feq q1).2 (by decide) (by decide) ?_
          refine XS.iload X53.here hx rfl (hb hby at_301) rfl ?_
          refine XS.iconst X53.here hx rfl (hb hby at_303) ?_
          exact k)
        by_cases q2 : (p5 &&& (3 : Int32)) = (2 : Int32)
        · have q2t := q2
          have K80 : Rch p e below s₁ F0 T53 (mkF m 315 #[sI p1, sI p2, sI p3, sI p4, sI p5, sI (Int32.ofNat u0), sI (Int32.ofNat u1), sI (Int32.ofNat u2), sI pv5, sI pv7, sI pv9, sI pv11, sI pv13, sI pv15, sI (own_bi (own_sm u0 pv5 pv7 u2 pv13 pv15)), sI (own_bi (own_sm u1 pv9 pv11 u2 pv13 pv15)), sR a25, sR a27, sR a31, sI (p5 &&& (3 : Int32)), sI 1, sI 1, sU] [(kI (own_bi (own_sm u1 pv9 pv11 u2 pv13 pv15)))]) := fun t k => K79 t (by
            refine XS.icmpNo X53.here hx rfl (hb hby at_304) rfl (teq q2).2 ?_
            refine XS.iconst X53.here hx rfl (hb hby at_307) ?_
            refine XS.istore X53.here hx rfl (hb hby at_308) rfl (l' := #[sI p1, sI p2, sI p3, sI p4, sI p5, sI (Int32.ofNat u0), sI (Int32.ofNat u1), sI (Int32.ofNat u2), sI pv5, sI pv7, sI pv9, sI pv11, sI pv13, sI pv15, sI (own_bi (own_sm u0 pv5 pv7 u2 pv13 pv15)), sI (own_bi (own_sm u1 pv9 pv11 u2 pv13 pv15)), sR a25, sR a27, sR a31, sI (p5 &&& (3 : Int32)), sI 1, sU, sU]) rfl ?_
            refine XS.iconst X53.here hx rfl (hb hby at_310) ?_
            refine XS.istore X53.here hx rfl (hb hby at_311) rfl (l' := #[sI p1, sI p2, sI p3, sI p4, sI p5, sI (Int32.ofNat u0), sI (Int32.ofNat u1), sI (Int32.ofNat u2), sI pv5, sI pv7, sI pv9, sI pv11, sI pv13, sI pv15, sI (own_bi (own_sm u0 pv5 pv7 u2 pv13 pv15)), sI (own_bi (own_sm u1 pv9 pv11 u2 pv13 pv15)), sR a25, sR a27, sR a31, sI (p5 &&& (3 : Int32)), sI 1, sI 1, sU]) rfl ?_
            refine XS.iload X53.here hx rfl (hb hby at_313) rfl ?_
            exact k)
          by_cases t1 : (own_sm u1 pv9 pv11 u2 pv13 pv15) = true
          · have t1b := t1
            have K81 : Rch p e below s₁ F0 T53 (mkF m 343 #[sI p1, sI p2, sI p3, sI p4, sI p5, sI (Int32.ofNat u0), sI (Int32.ofNat u1), sI (Int32.ofNat u2), sI pv5, sI pv7, sI pv9, sI pv11, sI pv13, sI pv15, sI (own_bi (own_sm u0 pv5 pv7 u2 pv13 pv15)), sI (own_bi (own_sm u1 pv9 pv11 u2 pv13 pv15)), sR a25, sR a27, sR a31, sI (p5 &&& (3 : Int32)), sI 1, sI 1, sI 2] [(kI 1), (kI 1), (kR a27)]) := fun t k => K80 t (by
              refine XS.ifNo X53.here hx rfl (hb hby at_315) rfl ((if0 _ _).trans (feq (show ¬ (own_bi (own_sm u1 pv9 pv11 u2 pv13 pv15) = 0) from by rw [t1]; decide)).1) ?_
              refine XS.iconst X53.here hx rfl (hb hby at_318) ?_
              refine XS.goto X53.here hx rfl (pc0 := 319) (pc' := 323) rfl (hb hby at_319) (by decide) (by decide) ?_
              refine XS.istore X53.here hx rfl (hb hby at_323) rfl (l' := #[sI p1, sI p2, sI p3, sI p4, sI p5, sI (Int32.ofNat u0), sI (Int32.ofNat u1), sI (Int32.ofNat u2), sI pv5, sI pv7, sI pv9, sI pv11, sI pv13, sI pv15, sI (own_bi (own_sm u0 pv5 pv7 u2 pv13 pv15)), sI (own_bi (own_sm u1 pv9 pv11 u2 pv13 pv15)), sR a25, sR a27, sR a31, sI (p5 &&& (3 : Int32)), sI 1, sI 1, sI 2]) rfl ?_
              refine XS.goto X53.here hx rfl (pc0 := 325) (pc' := 337) rfl (hb hby at_325) (by decide) (by decide) ?_
              refine XS.aload X53.here hx rfl (hb hby at_337) rfl rfl ?_
              show Steps p.tables e below (T53.setTop (mkF m 339 #[sI p1, sI p2, sI p3, sI p4, sI p5, sI (Int32.ofNat u0), sI (Int32.ofNat u1), sI (Int32.ofNat u2), sI pv5, sI pv7, sI pv9, sI pv11, sI pv13, sI pv15, sI (own_bi (own_sm u0 pv5 pv7 u2 pv13 pv15)), sI (own_bi (own_sm u1 pv9 pv11 u2 pv13 pv15)), sR a25, sR a27, sR a31, sI (p5 &&& (3 : Int32)), sI 1, sI 1, sI 2] [(kR a27)])) _
              refine XS.iload X53.here hx rfl (hb hby at_339) rfl ?_
              refine XS.iload X53.here hx rfl (hb hby at_341) rfl ?_
              exact k)
            have W82 : Wo n0 T53.heap [(a27, oR Z [(kR a4_29), (kR a7_29), (kR a10_29), (kR a13_29), (kR a16_29), (kR a19_29), (kR a22_29), (kR a25_29), (kR a28_29), (kR a31_29), (kR a34_29), (kR a37_29), (kR a40_29), (kR a43_29), (kI 2), .null, (kI 2)]), (a13_29, Ar Z .int 17 (upd (upd zI 1 (kI 2)) 2 (kI 3))), (a28_29, Ar Z .int 17 (upd (upd (upd (upd (upd zI 0 (kI (Int32.ofNat 0))) 1 (kI (Int32.ofNat (0 + u0)))) 2 (kI (Int32.ofNat ((0 + u0) + u1)))) 2 (kI (Int32.ofNat (((0 + u0) + u1) + 0)))) 3 (kI (Int32.ofNat (((0 + u0) + u1) + (0 + u2)))))), (a37_29, Ar Z .int 16 (cpy f50 (cpy f41 zI 0 0 ((0 + u0) + u1)) 0 ((0 + u0) + u1) (0 + u2))), (a31, oB Z [.null, (kI 0), .null, (kI 0), (kR a4_33), (kR a7_33), (kR a10_33), (kR cm50), (kR a16_33), (kR a19_33), (kR a22_33), (kI 1), (kI 0), (kI (Int32.ofNat (0 + u2))), (kI 0), .null]), (a4_29, Ar Z .int 0 zI), (a7_29, Ar Z .int 0 (cpy zI (cpy zI zI 0 0 0) 0 0 0)), (a10_29, Ar Z .int 16 (upd (upd zI 0 (kI (-1))) 1 (kI (-1)))), (a16_29, Ar Z .int 17 (upd (upd zI 1 (kI 0)) 2 (kI 0))), (a19_29, Ar Z .int 16 (upd (upd zI 0 (kI (-1))) 1 (kI (-1)))), (a22_29, Ar Z .int 17 (upd (upd zI 1 (kI 0)) 2 (kI 0))), (a25_29, Ar Z .int 17 (upd (upd (upd (upd (upd zI 0 (kI 0)) 1 (kI 0)) 2 (kI 0)) 2 (kI 0)) 3 (kI 0))), (a31_29, Ar Z .int 17 (upd (upd (upd (upd (upd zI 0 (kI 0)) 1 (kI 0)) 2 (kI 0)) 2 (kI 0)) 3 (kI 0))), (a34_29, Ar Z .int 16 (cpy zI (cpy zI zI 0 0 0) 0 0 0)), (a40_29, Ar Z .int 64 (cpy zI (cpy zI zI 0 0 0) 0 0 0)), (a43_29, Ar Z .double 64 (cpy zD (cpy zD zD 0 0 0) 0 0 0)), (a4_33, Ar Z .int 2 (upd (upd (upd zI 0 (kI 0)) 1 (kI 0)) 0 (kI 0))), (a10_33, Ar Z .int 2 (upd (upd (upd zI 0 (kI (Int32.ofNat 0))) 1 (kI (Int32.ofNat (0 + u0)))) 0 (kI (Int32.ofNat 0)))), (a16_33, Ar Z .int 2 (upd (upd (upd zI 0 (kI 0)) 1 (kI 0)) 0 (kI 0))), (a7_33, Ar Z .int 2 zI), (cm50, Ar Z .int m50 f50), (a19_33, Ar Z .int 4 zI), (a22_33, Ar Z .double 4 zD), (a25, Ar Z .int 0 zI)] := Wo.pick W53 [0, 5, 10, 13, 1, 2, 3, 4, 6, 7, 8, 9, 11, 12, 14, 15, 16, 17, 18, 19, 20, 21, 22, 23] 24 (by decide +kernel) rfl
            obtain ⟨cq83, kq83, q83a, q83b, q83c⟩ := isOf hZ (rfl : T53.heap = T53.heap) (W82.exa (i := 0) rfl)
            obtain ⟨_, _, ⟨T83, L83, k83, n83⟩, -, X83, ⟨Lc83, hQ83, l83, y83, z83⟩, st83⟩ := X53.virtualBack hx (y := (⟨"com/example/sambre/sambre/engine/Rows", "choiceNamedAs", "(II)I"⟩ : MethodName)) (z := (⟨"com/example/sambre/sambre/engine/Rows", "choiceNamedAs", "(II)I"⟩ : MethodName)) hown (mvT hZ (hw _ (mi 131 rfl))) (mvT hZ (hw _ (mi 132 rfl))) (notFace_of_selects (args := #[]) (mvT hZ (hw _ (mi 134 rfl)))) (mvT hZ (hw _ (mi 134 rfl))) (mvT hZ (hw _ (mi 133 rfl))) (by decide) (backOf (W := 0) (rmCN11 l Z a0 hw [] a27 a4_29 a7_29 a10_29 a13_29 a16_29 a19_29 a22_29 a25_29 a28_29 a31_29 a34_29 a37_29 a40_29 a43_29 (2 : Int32) (2 : Int32) (upd (upd zI 1 (kI 2)) 2 (kI 3)) (upd (upd (upd (upd (upd zI 0 (kI (Int32.ofNat 0))) 1 (kI (Int32.ofNat (0 + u0)))) 2 (kI (Int32.ofNat ((0 + u0) + u1)))) 2 (kI (Int32.ofNat (((0 + u0) + u1) + 0)))) 3 (kI (Int32.ofNat (((0 + u0) + u1) + (0 + u2))))) (cpy f50 (cpy f41 zI 0 0 ((0 + u0) + u1)) 0 ((0 + u0) + u1) (0 + u2)) (own_F u0 u1 u2) ((a31, oB Z [.null, (kI 0), .null, (kI 0), (kR a4_33), (kR a7_33), (kR a10_33), (kR cm50), (kR a16_33), (kR a19_33), (kR a22_33), (kI 1), (kI 0), (kI (Int32.ofNat (0 + u2))), (kI 0), .null]) :: (a4_29, Ar Z .int 0 zI) :: (a7_29, Ar Z .int 0 (cpy zI (cpy zI zI 0 0 0) 0 0 0)) :: (a10_29, Ar Z .int 16 (upd (upd zI 0 (kI (-1))) 1 (kI (-1)))) :: (a16_29, Ar Z .int 17 (upd (upd zI 1 (kI 0)) 2 (kI 0))) :: (a19_29, Ar Z .int 16 (upd (upd zI 0 (kI (-1))) 1 (kI (-1)))) :: (a22_29, Ar Z .int 17 (upd (upd zI 1 (kI 0)) 2 (kI 0))) :: (a25_29, Ar Z .int 17 (upd (upd (upd (upd (upd zI 0 (kI 0)) 1 (kI 0)) 2 (kI 0)) 2 (kI 0)) 3 (kI 0))) :: (a31_29, Ar Z .int 17 (upd (upd (upd (upd (upd zI 0 (kI 0)) 1 (kI 0)) 2 (kI 0)) 2 (kI 0)) 3 (kI 0))) :: (a34_29, Ar Z .int 16 (cpy zI (cpy zI zI 0 0 0) 0 0 0)) :: (a40_29, Ar Z .int 64 (cpy zI (cpy zI zI 0 0 0) 0 0 0)) :: (a43_29, Ar Z .double 64 (cpy zD (cpy zD zD 0 0 0) 0 0 0)) :: (a4_33, Ar Z .int 2 (upd (upd (upd zI 0 (kI 0)) 1 (kI 0)) 0 (kI 0))) :: (a10_33, Ar Z .int 2 (upd (upd (upd zI 0 (kI (Int32.ofNat 0))) 1 (kI (Int32.ofNat (0 + u0)))) 0 (kI (Int32.ofNat 0)))) :: (a16_33, Ar Z .int 2 (upd (upd (upd zI 0 (kI 0)) 1 (kI 0)) 0 (kI 0))) :: (a7_33, Ar Z .int 2 zI) :: (cm50, Ar Z .int m50 f50) :: (a19_33, Ar Z .int 4 zI) :: (a22_33, Ar Z .double 4 zD) :: (a25, Ar Z .int 0 zI) :: []) T53.heap n0 W82 rfl rfl (fun k hk => by rcases (by omega : k = 0 ∨ k = 1 ∨ k = 2 ∨ k = 3) with rfl | rfl | rfl | rfl <;> rfl) (own_Fb (by omega) (by omega) (by omega)) own_Fm) hZ (hw _ (mi 135 rfl)) (hw _ (mi 10 rfl)) (by decide) (by decide)) q83a q83c (g := K81.g) rfl (by rw [hml]; rfl) (Steps.refl _) (argsL := [(.int (1 : Int32)), (.int (1 : Int32))]) (rest := []) (lenOf pd_cn rfl) rfl (by show 2 * 0 + _ ≤ _; exact Nat.le_of_eq rfl) (hb hby at_343) (fun _ _ => ⟨rfl, (rfl : T53.heap = T53.heap), (by decide : 30 + 0 ≤ _), (by decide : 381 + 0 ≤ _)⟩)
            dsimp only [Pt.U, Pt.locs, Pt.cells, Pt.slots] at X83 l83 y83 z83 st83 hQ83
            subst l83 y83 z83
            obtain ⟨rfl, N83q, W83⟩ := hQ83
            have N83 := Fr.app N53 N83q
            have K84 : Rch p e below s₁ F0 T83 (mkF m 356 #[sI p1, sI p2, sI p3, sI p4, sI p5, sI (Int32.ofNat u0), sI (Int32.ofNat u1), sI (Int32.ofNat u2), sI pv5, sI pv7, sI pv9, sI pv11, sI pv13, sI pv15, sI (own_bi (own_sm u0 pv5 pv7 u2 pv13 pv15)), sI (own_bi (own_sm u1 pv9 pv11 u2 pv13 pv15)), sR a25, sR a27, sR a31, sI (p5 &&& (3 : Int32)), sI 1, sI 1, sI 2] [(kI 1)]) := fun t k => K81 t (st83.trans (by
              refine XS.iload X83.here hx rfl (hb hby at_346) rfl ?_
              refine XS.icmpNo X83.here hx rfl (hb hby at_348) rfl (teq (by rw [m21, own_sm_comm, t1]; rfl)).2 ?_
              refine XS.iconst X83.here hx rfl (hb hby at_351) ?_
              refine XS.goto X83.here hx rfl (pc0 := 352) (pc' := 356) rfl (hb hby at_352) (by decide) (by decide) ?_
              exact k))
            obtain ⟨fs, hr, hrun, hended, hWm, hsame⟩ := X83.leave (v := some (.int (1 : Int32))) (fun h => by rw [Bd.returns] at h; cases h)
            refine ⟨_, _, pre0 _ (K84 _ (retN X83 hx (t := .boolean) Bd.returns (by simp) (hb hby at_356) hr)), hrun, hended, _, _, rfl, ?_, ⟨_, rfl⟩, hWm, hsame.mono (by decide) (by decide)⟩
            show Qrm0 Z p1 p2 p3 p4 p5 n0 _ T83.heap _
            exact ⟨rfl, N83⟩
          · have t1b := Bool.eq_false_iff.mpr t1
            have K85 : Rch p e below s₁ F0 T53 (mkF m 343 #[sI p1, sI p2, sI p3, sI p4, sI p5, sI (Int32.ofNat u0), sI (Int32.ofNat u1), sI (Int32.ofNat u2), sI pv5, sI pv7, sI pv9, sI pv11, sI pv13, sI pv15, sI (own_bi (own_sm u0 pv5 pv7 u2 pv13 pv15)), sI (own_bi (own_sm u1 pv9 pv11 u2 pv13 pv15)), sR a25, sR a27, sR a31, sI (p5 &&& (3 : Int32)), sI 1, sI 1, sI (-1)] [(kI 1), (kI 1), (kR a27)]) := fun t k => K80 t (by
              refine XS.ifYes X53.here hx rfl (pc0 := 315) (pc' := 322) rfl (hb hby at_315) rfl ((if0 _ _).trans (teq (show own_bi (own_sm u1 pv9 pv11 u2 pv13 pv15) = 0 from by rw [t1b]; rfl)).1) (by decide) (by decide) ?_
              refine XS.iconst X53.here hx rfl (hb hby at_322) ?_
              refine XS.istore X53.here hx rfl (hb hby at_323) rfl (l' := #[sI p1, sI p2, sI p3, sI p4, sI p5, sI (Int32.ofNat u0), sI (Int32.ofNat u1), sI (Int32.ofNat u2), sI pv5, sI pv7, sI pv9, sI pv11, sI pv13, sI pv15, sI (own_bi (own_sm u0 pv5 pv7 u2 pv13 pv15)), sI (own_bi (own_sm u1 pv9 pv11 u2 pv13 pv15)), sR a25, sR a27, sR a31, sI (p5 &&& (3 : Int32)), sI 1, sI 1, sI (-1)]) rfl ?_
              refine XS.goto X53.here hx rfl (pc0 := 325) (pc' := 337) rfl (hb hby at_325) (by decide) (by decide) ?_
              refine XS.aload X53.here hx rfl (hb hby at_337) rfl rfl ?_
              refine XS.iload X53.here hx rfl (hb hby at_339) rfl ?_
              show Steps p.tables e below (T53.setTop (mkF m 341 #[sI p1, sI p2, sI p3, sI p4, sI p5, sI (Int32.ofNat u0), sI (Int32.ofNat u1), sI (Int32.ofNat u2), sI pv5, sI pv7, sI pv9, sI pv11, sI pv13, sI pv15, sI (own_bi (own_sm u0 pv5 pv7 u2 pv13 pv15)), sI (own_bi (own_sm u1 pv9 pv11 u2 pv13 pv15)), sR a25, sR a27, sR a31, sI (p5 &&& (3 : Int32)), sI 1, sI 1, sI (-1)] [(kI 1), (kR a27)])) _
              refine XS.iload X53.here hx rfl (hb hby at_341) rfl ?_
              exact k)
            have W86 : Wo n0 T53.heap [(a27, oR Z [(kR a4_29), (kR a7_29), (kR a10_29), (kR a13_29), (kR a16_29), (kR a19_29), (kR a22_29), (kR a25_29), (kR a28_29), (kR a31_29), (kR a34_29), (kR a37_29), (kR a40_29), (kR a43_29), (kI 2), .null, (kI 2)]), (a13_29, Ar Z .int 17 (upd (upd zI 1 (kI 2)) 2 (kI 3))), (a28_29, Ar Z .int 17 (upd (upd (upd (upd (upd zI 0 (kI (Int32.ofNat 0))) 1 (kI (Int32.ofNat (0 + u0)))) 2 (kI (Int32.ofNat ((0 + u0) + u1)))) 2 (kI (Int32.ofNat (((0 + u0) + u1) + 0)))) 3 (kI (Int32.ofNat (((0 + u0) + u1) + (0 + u2)))))), (a37_29, Ar Z .int 16 (cpy f50 (cpy f41 zI 0 0 ((0 + u0) + u1)) 0 ((0 + u0) + u1) (0 + u2))), (a31, oB Z [.null, (kI 0), .null, (kI 0), (kR a4_33), (kR a7_33), (kR a10_33), (kR cm50), (kR a16_33), (kR a19_33), (kR a22_33), (kI 1), (kI 0), (kI (Int32.ofNat (0 + u2))), (kI 0), .null]), (a4_29, Ar Z .int 0 zI), (a7_29, Ar Z .int 0 (cpy zI (cpy zI zI 0 0 0) 0 0 0)), (a10_29, Ar Z .int 16 (upd (upd zI 0 (kI (-1))) 1 (kI (-1)))), (a16_29, Ar Z .int 17 (upd (upd zI 1 (kI 0)) 2 (kI 0))), (a19_29, Ar Z .int 16 (upd (upd zI 0 (kI (-1))) 1 (kI (-1)))), (a22_29, Ar Z .int 17 (upd (upd zI 1 (kI 0)) 2 (kI 0))), (a25_29, Ar Z .int 17 (upd (upd (upd (upd (upd zI 0 (kI 0)) 1 (kI 0)) 2 (kI 0)) 2 (kI 0)) 3 (kI 0))), (a31_29, Ar Z .int 17 (upd (upd (upd (upd (upd zI 0 (kI 0)) 1 (kI 0)) 2 (kI 0)) 2 (kI 0)) 3 (kI 0))), (a34_29, Ar Z .int 16 (cpy zI (cpy zI zI 0 0 0) 0 0 0)), (a40_29, Ar Z .int 64 (cpy zI (cpy zI zI 0 0 0) 0 0 0)), (a43_29, Ar Z .double 64 (cpy zD (cpy zD zD 0 0 0) 0 0 0)), (a4_33, Ar Z .int 2 (upd (upd (upd zI 0 (kI 0)) 1 (kI 0)) 0 (kI 0))), (a10_33, Ar Z .int 2 (upd (upd (upd zI 0 (kI (Int32.ofNat 0))) 1 (kI (Int32.ofNat (0 + u0)))) 0 (kI (Int32.ofNat 0)))), (a16_33, Ar Z .int 2 (upd (upd (upd zI 0 (kI 0)) 1 (kI 0)) 0 (kI 0))), (a7_33, Ar Z .int 2 zI), (cm50, Ar Z .int m50 f50), (a19_33, Ar Z .int 4 zI), (a22_33, Ar Z .double 4 zD), (a25, Ar Z .int 0 zI)] := Wo.pick W53 [0, 5, 10, 13, 1, 2, 3, 4, 6, 7, 8, 9, 11, 12, 14, 15, 16, 17, 18, 19, 20, 21, 22, 23] 24 (by decide +kernel) rfl
            obtain ⟨cq87, kq87, q87a, q87b, q87c⟩ := isOf hZ (rfl : T53.heap = T53.heap) (W86.exa (i := 0) rfl)
            obtain ⟨_, _, ⟨T87, L87, k87, n87⟩, -, X87, ⟨Lc87, hQ87, l87, y87, z87⟩, st87⟩ := X53.virtualBack hx (y := (⟨"com/example/sambre/sambre/engine/Rows", "choiceNamedAs", "(II)I"⟩ : MethodName)) (z := (⟨"com/example/sambre/sambre/engine/Rows", "choiceNamedAs", "(II)I"⟩ : MethodName)) hown (mvT hZ (hw _ (mi 131 rfl))) (mvT hZ (hw _ (mi 132 rfl))) (notFace_of_selects (args := #[]) (mvT hZ (hw _ (mi 134 rfl)))) (mvT hZ (hw _ (mi 134 rfl))) (mvT hZ (hw _ (mi 133 rfl))) (by decide) (backOf (W := 0) (rmCN11 l Z a0 hw [] a27 a4_29 a7_29 a10_29 a13_29 a16_29 a19_29 a22_29 a25_29 a28_29 a31_29 a34_29 a37_29 a40_29 a43_29 (2 : Int32) (2 : Int32) (upd (upd zI 1 (kI 2)) 2 (kI 3)) (upd (upd (upd (upd (upd zI 0 (kI (Int32.ofNat 0))) 1 (kI (Int32.ofNat (0 + u0)))) 2 (kI (Int32.ofNat ((0 + u0) + u1)))) 2 (kI (Int32.ofNat (((0 + u0) + u1) + 0)))) 3 (kI (Int32.ofNat (((0 + u0) + u1) + (0 + u2))))) (cpy f50 (cpy f41 zI 0 0 ((0 + u0) + u1)) 0 ((0 + u0) + u1) (0 + u2)) (own_F u0 u1 u2) ((a31, oB Z [.null, (kI 0), .null, (kI 0), (kR a4_33), (kR a7_33), (kR a10_33), (kR cm50), (kR a16_33), (kR a19_33), (kR a22_33), (kI 1), (kI 0), (kI (Int32.ofNat (0 + u2))), (kI 0), .null]) :: (a4_29, Ar Z .int 0 zI) :: (a7_29, Ar Z .int 0 (cpy zI (cpy zI zI 0 0 0) 0 0 0)) :: (a10_29, Ar Z .int 16 (upd (upd zI 0 (kI (-1))) 1 (kI (-1)))) :: (a16_29, Ar Z .int 17 (upd (upd zI 1 (kI 0)) 2 (kI 0))) :: (a19_29, Ar Z .int 16 (upd (upd zI 0 (kI (-1))) 1 (kI (-1)))) :: (a22_29, Ar Z .int 17 (upd (upd zI 1 (kI 0)) 2 (kI 0))) :: (a25_29, Ar Z .int 17 (upd (upd (upd (upd (upd zI 0 (kI 0)) 1 (kI 0)) 2 (kI 0)) 2 (kI 0)) 3 (kI 0))) :: (a31_29, Ar Z .int 17 (upd (upd (upd (upd (upd zI 0 (kI 0)) 1 (kI 0)) 2 (kI 0)) 2 (kI 0)) 3 (kI 0))) :: (a34_29, Ar Z .int 16 (cpy zI (cpy zI zI 0 0 0) 0 0 0)) :: (a40_29, Ar Z .int 64 (cpy zI (cpy zI zI 0 0 0) 0 0 0)) :: (a43_29, Ar Z .double 64 (cpy zD (cpy zD zD 0 0 0) 0 0 0)) :: (a4_33, Ar Z .int 2 (upd (upd (upd zI 0 (kI 0)) 1 (kI 0)) 0 (kI 0))) :: (a10_33, Ar Z .int 2 (upd (upd (upd zI 0 (kI (Int32.ofNat 0))) 1 (kI (Int32.ofNat (0 + u0)))) 0 (kI (Int32.ofNat 0)))) :: (a16_33, Ar Z .int 2 (upd (upd (upd zI 0 (kI 0)) 1 (kI 0)) 0 (kI 0))) :: (a7_33, Ar Z .int 2 zI) :: (cm50, Ar Z .int m50 f50) :: (a19_33, Ar Z .int 4 zI) :: (a22_33, Ar Z .double 4 zD) :: (a25, Ar Z .int 0 zI) :: []) T53.heap n0 W86 rfl rfl (fun k hk => by rcases (by omega : k = 0 ∨ k = 1 ∨ k = 2 ∨ k = 3) with rfl | rfl | rfl | rfl <;> rfl) (own_Fb (by omega) (by omega) (by omega)) own_Fm) hZ (hw _ (mi 135 rfl)) (hw _ (mi 10 rfl)) (by decide) (by decide)) q87a q87c (g := K85.g) rfl (by rw [hml]; rfl) (Steps.refl _) (argsL := [(.int (1 : Int32)), (.int (1 : Int32))]) (rest := []) (lenOf pd_cn rfl) rfl (by show 2 * 0 + _ ≤ _; exact Nat.le_of_eq rfl) (hb hby at_343) (fun _ _ => ⟨rfl, (rfl : T53.heap = T53.heap), (by decide : 30 + 0 ≤ _), (by decide : 381 + 0 ≤ _)⟩)
            dsimp only [Pt.U, Pt.locs, Pt.cells, Pt.slots] at X87 l87 y87 z87 st87 hQ87
            subst l87 y87 z87
            obtain ⟨rfl, N87q, W87⟩ := hQ87
            have N87 := Fr.app N53 N87q
            have K88 : Rch p e below s₁ F0 T87 (mkF m 356 #[sI p1, sI p2, sI p3, sI p4, sI p5, sI (Int32.ofNat u0), sI (Int32.ofNat u1), sI (Int32.ofNat u2), sI pv5, sI pv7, sI pv9, sI pv11, sI pv13, sI pv15, sI (own_bi (own_sm u0 pv5 pv7 u2 pv13 pv15)), sI (own_bi (own_sm u1 pv9 pv11 u2 pv13 pv15)), sR a25, sR a27, sR a31, sI (p5 &&& (3 : Int32)), sI 1, sI 1, sI (-1)] [(kI 1)]) := fun t k => K85 t (st87.trans (by
              refine XS.iload X87.here hx rfl (hb hby at_346) rfl ?_
              refine XS.icmpNo X87.here hx rfl (hb hby at_348) rfl (teq (by rw [m21, own_sm_comm, t1b]; rfl)).2 ?_
              refine XS.iconst X87.here hx rfl (hb hby at_351) ?_
              refine XS.goto X87.here hx rfl (pc0 := 352) (pc' := 356) rfl (hb hby at_352) (by decide) (by decide) ?_
              exact k))
            obtain ⟨fs, hr, hrun, hended, hWm, hsame⟩ := X87.leave (v := some (.int (1 : Int32))) (fun h => by rw [Bd.returns] at h; cases h)
            refine ⟨_, _, pre0 _ (K88 _ (retN X87 hx (t := .boolean) Bd.returns (by simp) (hb hby at_356) hr)), hrun, hended, _, _, rfl, ?_, ⟨_, rfl⟩, hWm, hsame.mono (by decide) (by decide)⟩
            show Qrm0 Z p1 p2 p3 p4 p5 n0 _ T87.heap _
            exact ⟨rfl, N87⟩
        · have q2f := q2
          have K89 : Rch p e below s₁ F0 T53 (mkF m 343 #[sI p1, sI p2, sI p3, sI p4, sI p5, sI (Int32.ofNat u0), sI (Int32.ofNat u1), sI (Int32.ofNat u2), sI pv5, sI pv7, sI pv9, sI pv11, sI pv13, sI pv15, sI (own_bi (own_sm u0 pv5 pv7 u2 pv13 pv15)), sI (own_bi (own_sm u1 pv9 pv11 u2 pv13 pv15)), sR a25, sR a27, sR a31, sI (p5 &&& (3 : Int32)), sI 0, sI 1, sI 1] [(kI 1), (kI 0), (kR a27)]) := fun t k => K79 t (by
            refine XS.icmpYes X53.here hx rfl (pc0 := 304) (pc' := 328) rfl (hb hby at_304) rfl (feq q2).2 (by decide) (by decide) ?_
            refine XS.iconst X53.here hx rfl (hb hby at_328) ?_
            refine XS.istore X53.here hx rfl (hb hby at_329) rfl (l' := #[sI p1, sI p2, sI p3, sI p4, sI p5, sI (Int32.ofNat u0), sI (Int32.ofNat u1), sI (Int32.ofNat u2), sI pv5, sI pv7, sI pv9, sI pv11, sI pv13, sI pv15, sI (own_bi (own_sm u0 pv5 pv7 u2 pv13 pv15)), sI (own_bi (own_sm u1 pv9 pv11 u2 pv13 pv15)), sR a25, sR a27, sR a31, sI (p5 &&& (3 : Int32)), sI 0, sU, sU]) rfl ?_
            refine XS.iconst X53.here hx rfl (hb hby at_331) ?_
            refine XS.istore X53.here hx rfl (hb hby at_332) rfl (l' := #[sI p1, sI p2, sI p3, sI p4, sI p5, sI (Int32.ofNat u0), sI (Int32.ofNat u1), sI (Int32.ofNat u2), sI pv5, sI pv7, sI pv9, sI pv11, sI pv13, sI pv15, sI (own_bi (own_sm u0 pv5 pv7 u2 pv13 pv15)), sI (own_bi (own_sm u1 pv9 pv11 u2 pv13 pv15)), sR a25, sR a27, sR a31, sI (p5 &&& (3 : Int32)), sI 0, sI 1, sU]) rfl ?_
            refine XS.iconst X53.here hx rfl (hb hby at_334) ?_
            show Steps p.tables e below (T53.setTop (mkF m 335 #[sI p1, sI p2, sI p3, sI p4, sI p5, sI (Int32.ofNat u0), sI (Int32.ofNat u1), sI (Int32.ofNat u2), sI pv5, sI pv7, sI pv9, sI pv11, sI pv13, sI pv15, sI (own_bi (own_sm u0 pv5 pv7 u2 pv13 pv15)), sI (own_bi (own_sm u1 pv9 pv11 u2 pv13 pv15)), sR a25, sR a27, sR a31, sI (p5 &&& (3 : Int32)), sI 0, sI 1, sU] [(kI 1)])) _
            refine XS.istore X53.here hx rfl (hb hby at_335) rfl (l' := #[sI p1, sI p2, sI p3, sI p4, sI p5, sI (Int32.ofNat u0), sI (Int32.ofNat u1), sI (Int32.ofNat u2), sI pv5, sI pv7, sI pv9, sI pv11, sI pv13, sI pv15, sI (own_bi (own_sm u0 pv5 pv7 u2 pv13 pv15)), sI (own_bi (own_sm u1 pv9 pv11 u2 pv13 pv15)), sR a25, sR a27, sR a31, sI (p5 &&& (3 : Int32)), sI 0, sI 1, sI 1]) rfl ?_
            refine XS.aload X53.here hx rfl (hb hby at_337) rfl rfl ?_
            refine XS.iload X53.here hx rfl (hb hby at_339) rfl ?_
            refine XS.iload X53.here hx rfl (hb hby at_341) rfl ?_
            exact k)
          have W90 : Wo n0 T53.heap [(a27, oR Z [(kR a4_29), (kR a7_29), (kR a10_29), (kR a13_29), (kR a16_29), (kR a19_29), (kR a22_29), (kR a25_29), (kR a28_29), (kR a31_29), (kR a34_29), (kR a37_29), (kR a40_29), (kR a43_29), (kI 2), .null, (kI 2)]), (a13_29, Ar Z .int 17 (upd (upd zI 1 (kI 2)) 2 (kI 3))), (a28_29, Ar Z .int 17 (upd (upd (upd (upd (upd zI 0 (kI (Int32.ofNat 0))) 1 (kI (Int32.ofNat (0 + u0)))) 2 (kI (Int32.ofNat ((0 + u0) + u1)))) 2 (kI (Int32.ofNat (((0 + u0) + u1) + 0)))) 3 (kI (Int32.ofNat (((0 + u0) + u1) + (0 + u2)))))), (a37_29, Ar Z .int 16 (cpy f50 (cpy f41 zI 0 0 ((0 + u0) + u1)) 0 ((0 + u0) + u1) (0 + u2))), (a31, oB Z [.null, (kI 0), .null, (kI 0), (kR a4_33), (kR a7_33), (kR a10_33), (kR cm50), (kR a16_33), (kR a19_33), (kR a22_33), (kI 1), (kI 0), (kI (Int32.ofNat (0 + u2))), (kI 0), .null]), (a4_29, Ar Z .int 0 zI), (a7_29, Ar Z .int 0 (cpy zI (cpy zI zI 0 0 0) 0 0 0)), (a10_29, Ar Z .int 16 (upd (upd zI 0 (kI (-1))) 1 (kI (-1)))), (a16_29, Ar Z .int 17 (upd (upd zI 1 (kI 0)) 2 (kI 0))), (a19_29, Ar Z .int 16 (upd (upd zI 0 (kI (-1))) 1 (kI (-1)))), (a22_29, Ar Z .int 17 (upd (upd zI 1 (kI 0)) 2 (kI 0))), (a25_29, Ar Z .int 17 (upd (upd (upd (upd (upd zI 0 (kI 0)) 1 (kI 0)) 2 (kI 0)) 2 (kI 0)) 3 (kI 0))), (a31_29, Ar Z .int 17 (upd (upd (upd (upd (upd zI 0 (kI 0)) 1 (kI 0)) 2 (kI 0)) 2 (kI 0)) 3 (kI 0))), (a34_29, Ar Z .int 16 (cpy zI (cpy zI zI 0 0 0) 0 0 0)), (a40_29, Ar Z .int 64 (cpy zI (cpy zI zI 0 0 0) 0 0 0)), (a43_29, Ar Z .double 64 (cpy zD (cpy zD zD 0 0 0) 0 0 0)), (a4_33, Ar Z .int 2 (upd (upd (upd zI 0 (kI 0)) 1 (kI 0)) 0 (kI 0))), (a10_33, Ar Z .int 2 (upd (upd (upd zI 0 (kI (Int32.ofNat 0))) 1 (kI (Int32.ofNat (0 + u0)))) 0 (kI (Int32.ofNat 0)))), (a16_33, Ar Z .int 2 (upd (upd (upd zI 0 (kI 0)) 1 (kI 0)) 0 (kI 0))), (a7_33, Ar Z .int 2 zI), (cm50, Ar Z .int m50 f50), (a19_33, Ar Z .int 4 zI), (a22_33, Ar Z .double 4 zD), (a25, Ar Z .int 0 zI)] := Wo.pick W53 [0, 5, 10, 13, 1, 2, 3, 4, 6, 7, 8, 9, 11, 12, 14, 15, 16, 17, 18, 19, 20, 21, 22, 23] 24 (by decide +kernel) rfl
          obtain ⟨cq91, kq91, q91a, q91b, q91c⟩ := isOf hZ (rfl : T53.heap = T53.heap) (W90.exa (i := 0) rfl)
          obtain ⟨_, _, ⟨T91, L91, k91, n91⟩, -, X91, ⟨Lc91, hQ91, l91, y91, z91⟩, st91⟩ := X53.virtualBack hx (y := (⟨"com/example/sambre/sambre/engine/Rows", "choiceNamedAs", "(II)I"⟩ : MethodName)) (z := (⟨"com/example/sambre/sambre/engine/Rows", "choiceNamedAs", "(II)I"⟩ : MethodName)) hown (mvT hZ (hw _ (mi 131 rfl))) (mvT hZ (hw _ (mi 132 rfl))) (notFace_of_selects (args := #[]) (mvT hZ (hw _ (mi 134 rfl)))) (mvT hZ (hw _ (mi 134 rfl))) (mvT hZ (hw _ (mi 133 rfl))) (by decide) (backOf (W := 0) (rmCN01 l Z a0 hw [] a27 a4_29 a7_29 a10_29 a13_29 a16_29 a19_29 a22_29 a25_29 a28_29 a31_29 a34_29 a37_29 a40_29 a43_29 (2 : Int32) (2 : Int32) (upd (upd zI 1 (kI 2)) 2 (kI 3)) (upd (upd (upd (upd (upd zI 0 (kI (Int32.ofNat 0))) 1 (kI (Int32.ofNat (0 + u0)))) 2 (kI (Int32.ofNat ((0 + u0) + u1)))) 2 (kI (Int32.ofNat (((0 + u0) + u1) + 0)))) 3 (kI (Int32.ofNat (((0 + u0) + u1) + (0 + u2))))) (cpy f50 (cpy f41 zI 0 0 ((0 + u0) + u1)) 0 ((0 + u0) + u1) (0 + u2)) (own_F u0 u1 u2) ((a31, oB Z [.null, (kI 0), .null, (kI 0), (kR a4_33), (kR a7_33), (kR a10_33), (kR cm50), (kR a16_33), (kR a19_33), (kR a22_33), (kI 1), (kI 0), (kI (Int32.ofNat (0 + u2))), (kI 0), .null]) :: (a4_29, Ar Z .int 0 zI) :: (a7_29, Ar Z .int 0 (cpy zI (cpy zI zI 0 0 0) 0 0 0)) :: (a10_29, Ar Z .int 16 (upd (upd zI 0 (kI (-1))) 1 (kI (-1)))) :: (a16_29, Ar Z .int 17 (upd (upd zI 1 (kI 0)) 2 (kI 0))) :: (a19_29, Ar Z .int 16 (upd (upd zI 0 (kI (-1))) 1 (kI (-1)))) :: (a22_29, Ar Z .int 17 (upd (upd zI 1 (kI 0)) 2 (kI 0))) :: (a25_29, Ar Z .int 17 (upd (upd (upd (upd (upd zI 0 (kI 0)) 1 (kI 0)) 2 (kI 0)) 2 (kI 0)) 3 (kI 0))) :: (a31_29, Ar Z .int 17 (upd (upd (upd (upd (upd zI 0 (kI 0)) 1 (kI 0)) 2 (kI 0)) 2 (kI 0)) 3 (kI 0))) :: (a34_29, Ar Z .int 16 (cpy zI (cpy zI zI 0 0 0) 0 0 0)) :: (a40_29, Ar Z .int 64 (cpy zI (cpy zI zI 0 0 0) 0 0 0)) :: (a43_29, Ar Z .double 64 (cpy zD (cpy zD zD 0 0 0) 0 0 0)) :: (a4_33, Ar Z .int 2 (upd (upd (upd zI 0 (kI 0)) 1 (kI 0)) 0 (kI 0))) :: (a10_33, Ar Z .int 2 (upd (upd (upd zI 0 (kI (Int32.ofNat 0))) 1 (kI (Int32.ofNat (0 + u0)))) 0 (kI (Int32.ofNat 0)))) :: (a16_33, Ar Z .int 2 (upd (upd (upd zI 0 (kI 0)) 1 (kI 0)) 0 (kI 0))) :: (a7_33, Ar Z .int 2 zI) :: (cm50, Ar Z .int m50 f50) :: (a19_33, Ar Z .int 4 zI) :: (a22_33, Ar Z .double 4 zD) :: (a25, Ar Z .int 0 zI) :: []) T53.heap n0 W90 rfl rfl (fun k hk => by rcases (by omega : k = 0 ∨ k = 1 ∨ k = 2 ∨ k = 3) with rfl | rfl | rfl | rfl <;> rfl) (own_Fb (by omega) (by omega) (by omega)) own_Fm) hZ (hw _ (mi 135 rfl)) (hw _ (mi 10 rfl)) (by decide) (by decide)) q91a q91c (g := K89.g) rfl (by rw [hml]; rfl) (Steps.refl _) (argsL := [(.int (0 : Int32)), (.int (1 : Int32))]) (rest := []) (lenOf pd_cn rfl) rfl (by show 2 * 0 + _ ≤ _; exact Nat.le_of_eq rfl) (hb hby at_343) (fun _ _ => ⟨rfl, (rfl : T53.heap = T53.heap), (by decide : 30 + 0 ≤ _), (by decide : 381 + 0 ≤ _)⟩)
          dsimp only [Pt.U, Pt.locs, Pt.cells, Pt.slots] at X91 l91 y91 z91 st91 hQ91
          subst l91 y91 z91
          obtain ⟨rfl, N91q, W91⟩ := hQ91
          have N91 := Fr.app N53 N91q
          have K92 : Rch p e below s₁ F0 T91 (mkF m 356 #[sI p1, sI p2, sI p3, sI p4, sI p5, sI (Int32.ofNat u0), sI (Int32.ofNat u1), sI (Int32.ofNat u2), sI pv5, sI pv7, sI pv9, sI pv11, sI pv13, sI pv15, sI (own_bi (own_sm u0 pv5 pv7 u2 pv13 pv15)), sI (own_bi (own_sm u1 pv9 pv11 u2 pv13 pv15)), sR a25, sR a27, sR a31, sI (p5 &&& (3 : Int32)), sI 0, sI 1, sI 1] [(kI 1)]) := fun t k => K89 t (st91.trans (by
            refine XS.iload X91.here hx rfl (hb hby at_346) rfl ?_
            refine XS.icmpNo X91.here hx rfl (hb hby at_348) rfl (teq (by rw [m01, if_neg hs, m11, own_sm_self]; rfl)).2 ?_
            refine XS.iconst X91.here hx rfl (hb hby at_351) ?_
            refine XS.goto X91.here hx rfl (pc0 := 352) (pc' := 356) rfl (hb hby at_352) (by decide) (by decide) ?_
            exact k))
          obtain ⟨fs, hr, hrun, hended, hWm, hsame⟩ := X91.leave (v := some (.int (1 : Int32))) (fun h => by rw [Bd.returns] at h; cases h)
          refine ⟨_, _, pre0 _ (K92 _ (retN X91 hx (t := .boolean) Bd.returns (by simp) (hb hby at_356) hr)), hrun, hended, _, _, rfl, ?_, ⟨_, rfl⟩, hWm, hsame.mono (by decide) (by decide)⟩
          show Qrm0 Z p1 p2 p3 p4 p5 n0 _ T91.heap _
          exact ⟨rfl, N91⟩
set_option maxRecDepth 65536 in
set_option maxHeartbeats 40000000 in
theorem comes_1 {Post : Tables → Env → Array Value → State → Outcome → State → Prop} (hpost : ∀ tb e args s v u, (limb_1_1.after args s (.returned v) u = true ∧ limb_1_2.after args s (.returned v) u = true ∧ True) → FrameEnd s (.returned v) u (Jvm.fieldLocs frame_1_writes args s ++ Jvm.arrayLocs frame_1_arrays args s ++ Jvm.staticLocs frame_1_statics s) 64 832 → Post tb e args s (.returned v) u) :
    ArmFor flags0 classFile x code maxLocals ret World_1 tables_1 room_1 Calls_1 rest_1 Pre_1 Post := by
  intro l hfl _ _ p e ha hc hk s m args below hf hA hF happ hP
  obtain ⟨hcalls, hrest, hpre⟩ := hP
  obtain ⟨-, -, -, hnamed, -, -, -, hat⟩ := (Spec.applies_iff hf).mp happ
  obtain ⟨hg, hn⟩ := and_e (Cond.before_iff.mp (show (Jvm.Cond.and given_1 narrow_1).before args s = true from hpre))
  obtain ⟨gc, g0⟩ := and_e hg
  obtain ⟨q0, g1⟩ := and_e g0
  obtain ⟨q1, g2⟩ := and_e g1
  obtain ⟨q2, g3⟩ := and_e g2
  obtain ⟨q3, g4⟩ := and_e g3
  obtain ⟨w0, w1, w2, w3, w4, rfl⟩ : ∃ w0 w1 w2 w3 w4 : Value, args = #[w0, w1, w2, w3, w4] := by
    have hs : args.size = 5 := by simpa [Cond.value, given_1] using gc
    obtain ⟨L⟩ := args
    match L, hs with
    | [w0, w1, w2, w3, w4], _ => exact ⟨w0, w1, w2, w3, w4, rfl⟩
  have hw := fun d (hd : d ∈ tables_1) => atoms_spec (ws := Jvm.Cond.code x code maxLocals ret :: tables_1) hat d (List.mem_cons_of_mem _ hd)
  obtain ⟨i0, ei0⟩ := is_v q0
  obtain rfl : w0 = (.int i0) := Option.some.inj ei0
  obtain ⟨i1, ei1⟩ := is_v q1
  obtain rfl : w1 = (.int i1) := Option.some.inj ei1
  obtain ⟨i2, ei2⟩ := is_v q2
  obtain rfl : w2 = (.int i2) := Option.some.inj ei2
  obtain ⟨i3, ei3⟩ := is_v q3
  obtain rfl : w3 = (.int i3) := Option.some.inj ei3
  obtain ⟨i4, ei4⟩ := is_v g4
  obtain rfl : w4 = (.int i4) := Option.some.inj ei4
  obtain ⟨n, o, h1, h2, h3, _, L, rfl, ⟨rfl, N⟩, hq⟩ := rm0 l s _ hw tables_1 i0 i1 i2 i3 i4 s.heap s.heap.size (Wo.nil (Nat.le_refl _)) p e ha hc hk s m _ below hf ((Spec.applies_iff_loose hf).mp happ).1 ⟨rfl, State.Warmed39.refl s, rfl⟩ trivial
  refine ⟨n, _, h1, h2, h3, hpost _ _ _ _ _ _ ⟨Cond.after_iff.mpr rfl, Cond.after_iff.mpr (eq_i res_at (Term.int_eval (1)) rfl), trivial⟩ ⟨hq.1, hq.2.1, (hq.2.2.sift fun y hy => Or.inr (N y hy)).mono (by decide) (by decide)⟩⟩
theorem main_1_1 : Claimed_1_1 := comes_1 fun _ _ _ _ _ _ h hF => ⟨h.1, hF⟩
theorem main_1_2 : Claimed_1_2 := comes_1 fun _ _ _ _ _ _ h hF => ⟨h.2.1, hF⟩
end Jvm.Pilot.@@N@@
namespace Jvm.Pilot.@@N@@
open Jvm Jvm.ClassFile Sem Op Lib Jvm.Free Jvm.Stand Jvm.Pilot.@@N@@.Jvm.D
/-! MADE BY PROGRAM (witnessworld.py) out of the Statement's table words and the real class files: 13 classes; the members and pool entries that the words name. The judged class is class 1, her method 4. -/
namespace start1
open Jvm.ClassFile
def u (s : String) : CpInfo := .utf8 (stringToUtf16 s)
/-- a pool by its gaps: so many unusable entries, then the entry; so many at the end -/
def gap : Nat → List CpInfo → List CpInfo
  | 0, r => r
  | n + 1, r => .unusable :: gap n r
def poolList (es : List (Nat × CpInfo)) (last : Nat) : List CpInfo := es.foldr (fun e r => gap e.1 (e.2 :: r)) (gap last [])
def pool (es : List (Nat × CpInfo)) (last : Nat) : Array CpInfo := ⟨poolList es last⟩
def fileOf (pool : Array CpInfo) (this : Nat) (attrs : Array Attribute := #[]) (ms : Array MethodInfo := #[]) (fl : Nat := 33) (sup : Nat := 0) (ifs : Array Nat := #[]) (fds : Array FieldInfo := #[]) : ClassFile where
  minorVersion := 0
  majorVersion := 65
  constantPool := pool
  accessFlags := fl
  thisClass := this
  superClass := sup
  interfaces := ifs
  fields := fds
  methods := ms
  attributes := attrs
def plain (name : String) (sup : Option ClassId) : Class where
  name := name
  kind := .ordinary
  loader := none
  accessFlags := 33
  super := sup
  interfaces := #[]
  cf := none
  fields := #[]
  methods := #[]
  instanceTypes := #[]
  staticTypes := #[]
  resolved := #[]
  callSites := []
  init := .initialized
  statics := none
  mirror := none

def resd (n : Nat) (L : List (Nat × Resolved)) : Array (Option Resolved) := ⟨(List.range n).map fun i => (L.find? (fun x => x.1 == i)).map (·.2)⟩
def pool0 : Array CpInfo := pool [(5, u "<init>"), (0, u "()V"), (1, .class_ 10), (1, u "java/lang/Object")] 113

def k0c0 : Code := { maxStack := 0, maxLocals := 1, code := object_method_1_code, exceptionTable := #[], attributes := #[] }
def k0m0 : Method := { name := "<init>", desc := "()V", sig := { parameters := [], returnType := none }, accessFlags := 1, code := some k0c0 }
/-- java/lang/Object -/
def k0 : Class := { plain "java/lang/Object" none with
  accessFlags := 33
  interfaces := #[]
  cf := some (fileOf pool0 8 #[] #[{ accessFlags := 1, nameIndex := 5, descriptorIndex := 6, attributes := #[] }] 33 0 #[] #[])
  fields := #[]
  methods := #[k0m0]
  instanceTypes := #[]
  staticTypes := #[]
  resolved := Array.replicate 124 none
  statics := none }

def pool1 : Array CpInfo := pool [(2, .class_ 4), (0, .nameAndType 5 6), (0, u "java/lang/Object"), (0, u "<init>"), (0, u "()V"), (0, .methodref 8 9), (0, .class_ 10), (0, .nameAndType 11 6), (0, u "com/example/sambre/sambre/engine/Rows$Builder"), (0, u "startChoice"), (0, .methodref 8 13), (0, .nameAndType 14 15), (0, u "addCommand"), (0, u "(I)V"), (0, .methodref 17 18), (0, .class_ 19), (0, .nameAndType 20 21), (0, u "com/example/sambre/sambre/engine/RowsChoiceNamedAsPinLaw"), (0, u "pick"), (0, u "(IIII)I"), (0, .methodref 17 23), (0, .nameAndType 24 25), (0, u "same"), (0, u "(IIIIII)Z"), (0, .class_ 27), (0, u "com/example/sambre/sambre/engine/Rows"), (0, .methodref 26 3), (0, .methodref 8 3), (0, .methodref 8 31), (0, .nameAndType 32 33), (0, u "start"), (0, u "([II[DI)V"), (0, .methodref 17 35), (0, .nameAndType 36 37), (0, u "choice"), (0, u "(Lcom/example/sambre/sambre/engine/Rows$Builder;III)V"), (0, .methodref 26 39), (0, .nameAndType 40 41), (0, u "add"), (0, u "(Lcom/example/sambre/sambre/engine/Rows$Builder;[II)I"), (0, .methodref 26 43), (0, .nameAndType 44 45), (0, u "choiceNamedAs"), (0, u "(II)I"), (3, u "law"), (0, u "(IIIII)Z")] 6

def k1m0 : Method := { name := "<init>", desc := "()V", sig := { parameters := [], returnType := none }, accessFlags := 2, code := none }
def k1c1 : Code := { maxStack := 2, maxLocals := 4, code := method_2_code, exceptionTable := #[], attributes := #[] }
def k1m1 : Method := { name := "pick", desc := "(IIII)I", sig := { parameters := [.int, .int, .int, .int], returnType := some .int }, accessFlags := 10, code := some k1c1 }
def k1c2 : Code := { maxStack := 2, maxLocals := 6, code := method_3_code, exceptionTable := #[], attributes := #[] }
def k1m2 : Method := { name := "same", desc := "(IIIIII)Z", sig := { parameters := [.int, .int, .int, .int, .int, .int], returnType := some .boolean }, accessFlags := 10, code := some k1c2 }
def k1c3 : Code := { maxStack := 2, maxLocals := 4, code := method_4_code, exceptionTable := #[], attributes := #[] }
def k1m3 : Method := { name := "choice", desc := "(Lcom/example/sambre/sambre/engine/Rows$Builder;III)V", sig := { parameters := [(.object "com/example/sambre/sambre/engine/Rows$Builder"), .int, .int, .int], returnType := none }, accessFlags := 10, code := some k1c3 }
def k1c4 : Code := { maxStack := 6, maxLocals := 23, code := code, exceptionTable := #[], attributes := #[] }
def k1m4 : Method := { name := "law", desc := "(IIIII)Z", sig := { parameters := [.int, .int, .int, .int, .int], returnType := some .boolean }, accessFlags := 9, code := some k1c4 }
/-- com/example/sambre/sambre/engine/RowsChoiceNamedAsPinLaw -/
def k1 : Class := { plain "com/example/sambre/sambre/engine/RowsChoiceNamedAsPinLaw" (some 0) with
  accessFlags := 49
  interfaces := #[]
  cf := some (fileOf pool1 17 #[] #[{ accessFlags := 2, nameIndex := 5, descriptorIndex := 6, attributes := #[] }, { accessFlags := 10, nameIndex := 20, descriptorIndex := 21, attributes := #[] }, { accessFlags := 10, nameIndex := 24, descriptorIndex := 25, attributes := #[] }, { accessFlags := 10, nameIndex := 36, descriptorIndex := 37, attributes := #[] }, { accessFlags := 9, nameIndex := 49, descriptorIndex := 50, attributes := #[] }] 49 2 #[] #[])
  fields := #[]
  methods := #[k1m0, k1m1, k1m2, k1m3, k1m4]
  instanceTypes := #[]
  staticTypes := #[]
  resolved := Array.replicate 57 none
  statics := none }

def pool2 : Array CpInfo := pool [(1, .methodref 2 3), (0, .class_ 4), (0, .nameAndType 5 6), (0, u "java/lang/Object"), (0, u "<init>"), (0, u "()V"), (0, .fieldref 8 9), (0, .class_ 10), (0, .nameAndType 11 12), (0, u "com/example/sambre/sambre/engine/Rows"), (0, u "keys"), (0, u "[I"), (0, .fieldref 8 14), (0, .nameAndType 15 12), (0, u "ranges"), (0, .fieldref 8 17), (0, .nameAndType 18 12), (0, u "nextShape"), (0, .fieldref 8 20), (0, .nameAndType 21 12), (0, u "firstChoice"), (0, .fieldref 8 23), (0, .nameAndType 24 12), (0, u "firstKey"), (0, .fieldref 8 26), (0, .nameAndType 27 12), (0, u "keyLength"), (0, .fieldref 8 29), (0, .nameAndType 30 12), (0, u "firstRange"), (0, .fieldref 8 32), (0, .nameAndType 33 12), (0, u "firstAction"), (0, .fieldref 8 35), (0, .nameAndType 36 12), (0, u "firstCommand"), (0, .fieldref 8 38), (0, .nameAndType 39 12), (0, u "firstTransition"), (0, .fieldref 8 41), (0, .nameAndType 42 12), (0, u "actions"), (0, .fieldref 8 44), (0, .nameAndType 45 12), (0, u "commands"), (0, .fieldref 8 47), (0, .nameAndType 48 12), (0, u "successors"), (0, .fieldref 8 50), (0, .nameAndType 51 52), (0, u "probabilities"), (0, u "[D"), (0, .fieldref 8 54), (0, .nameAndType 55 56), (0, u "shapeCount"), (0, u "I"), (0, .fieldref 58 59), (0, .class_ 60), (0, .nameAndType 61 56), (0, u "com/example/sambre/sambre/engine/Rows$Builder"), (0, u "choiceCount"), (0, .fieldref 58 63), (0, .nameAndType 64 12), (0, u "key"), (0, .fieldref 58 66), (0, .nameAndType 27 56), (0, .fieldref 8 68), (0, .nameAndType 69 12), (0, u "lastRow"), (0, .fieldref 58 71), (0, .nameAndType 72 56), (0, u "varyingCount"), (0, .fieldref 58 74), (0, .nameAndType 75 56), (0, u "actionCount"), (0, .fieldref 58 77), (0, .nameAndType 78 56), (0, u "commandCount"), (0, .fieldref 58 80), (0, .nameAndType 81 56), (0, u "transitionCount"), (4, .fieldref 58 32), (0, .fieldref 58 35), (0, .fieldref 58 38), (0, .fieldref 58 41), (0, .methodref 91 92), (0, .class_ 93), (0, .nameAndType 94 95), (0, u "java/lang/System"), (0, u "arraycopy"), (0, u "(Ljava/lang/Object;ILjava/lang/Object;II)V"), (0, .fieldref 58 44), (0, .fieldref 58 47), (0, .fieldref 58 50), (0, .fieldref 8 100), (0, .nameAndType 101 56), (0, u "rowCount"), (7, .fieldref 58 110), (0, .nameAndType 111 52), (0, u "varying"), (11, u "(II)I"), (2, u "shapeOf"), (2, u "nextRow"), (2, u "blockOf"), (2, u "shift"), (5, u "blocks"), (0, u "[[D"), (2, u "blockCount"), (2, u "used"), (9, u "LARGEST_BLOCK"), (19, u "markedShapes"), (2, u "markedRows"), (2, u "markedBlocks"), (2, u "markedUsed"), (38, u "NONE"), (2, u "FIRST_BLOCK"), (3, u "add"), (0, u "(Lcom/example/sambre/sambre/engine/Rows$Builder;[II)I"), (25, u "choiceNamedAs")] 22

def k2c0 : Code := { maxStack := 2, maxLocals := 1, code := prog_87_method_1_code, exceptionTable := #[], attributes := #[] }
def k2m0 : Method := { name := "<init>", desc := "()V", sig := { parameters := [], returnType := none }, accessFlags := 0, code := some k2c0 }
def k2c1 : Code := { maxStack := 6, maxLocals := 15, code := prog_87_method_2_code, exceptionTable := #[], attributes := #[] }
def k2m1 : Method := { name := "add", desc := "(Lcom/example/sambre/sambre/engine/Rows$Builder;[II)I", sig := { parameters := [(.object "com/example/sambre/sambre/engine/Rows$Builder"), (.array .int), .int], returnType := some .int }, accessFlags := 0, code := some k2c1 }
def k2c2 : Code := { maxStack := 4, maxLocals := 10, code := prog_87_method_34_code, exceptionTable := #[], attributes := #[] }
def k2m2 : Method := { name := "choiceNamedAs", desc := "(II)I", sig := { parameters := [.int, .int], returnType := some .int }, accessFlags := 0, code := some k2c2 }
/-- com/example/sambre/sambre/engine/Rows -/
def k2 : Class := { plain "com/example/sambre/sambre/engine/Rows" (some 0) with
  accessFlags := 32
  interfaces := #[]
  cf := some (fileOf pool2 8 #[.nestMembers #[58]] #[{ accessFlags := 0, nameIndex := 5, descriptorIndex := 6, attributes := #[] }, { accessFlags := 0, nameIndex := 233, descriptorIndex := 234, attributes := #[] }, { accessFlags := 0, nameIndex := 260, descriptorIndex := 123, attributes := #[] }] 32 2 #[] #[{ accessFlags := 24, nameIndex := 226, descriptorIndex := 56, attributes := #[] }, { accessFlags := 26, nameIndex := 229, descriptorIndex := 56, attributes := #[] }, { accessFlags := 26, nameIndex := 158, descriptorIndex := 56, attributes := #[] }, { accessFlags := 2, nameIndex := 55, descriptorIndex := 56, attributes := #[] }, { accessFlags := 2, nameIndex := 18, descriptorIndex := 12, attributes := #[] }, { accessFlags := 2, nameIndex := 21, descriptorIndex := 12, attributes := #[] }, { accessFlags := 2, nameIndex := 24, descriptorIndex := 12, attributes := #[] }, { accessFlags := 2, nameIndex := 27, descriptorIndex := 12, attributes := #[] }, { accessFlags := 2, nameIndex := 30, descriptorIndex := 12, attributes := #[] }, { accessFlags := 2, nameIndex := 33, descriptorIndex := 12, attributes := #[] }, { accessFlags := 2, nameIndex := 36, descriptorIndex := 12, attributes := #[] }, { accessFlags := 2, nameIndex := 39, descriptorIndex := 12, attributes := #[] }, { accessFlags := 2, nameIndex := 42, descriptorIndex := 12, attributes := #[] }, { accessFlags := 2, nameIndex := 45, descriptorIndex := 12, attributes := #[] }, { accessFlags := 2, nameIndex := 48, descriptorIndex := 12, attributes := #[] }, { accessFlags := 2, nameIndex := 51, descriptorIndex := 52, attributes := #[] }, { accessFlags := 2, nameIndex := 11, descriptorIndex := 12, attributes := #[] }, { accessFlags := 2, nameIndex := 15, descriptorIndex := 12, attributes := #[] }, { accessFlags := 2, nameIndex := 101, descriptorIndex := 56, attributes := #[] }, { accessFlags := 2, nameIndex := 69, descriptorIndex := 12, attributes := #[] }, { accessFlags := 2, nameIndex := 126, descriptorIndex := 12, attributes := #[] }, { accessFlags := 2, nameIndex := 129, descriptorIndex := 12, attributes := #[] }, { accessFlags := 2, nameIndex := 132, descriptorIndex := 12, attributes := #[] }, { accessFlags := 2, nameIndex := 135, descriptorIndex := 12, attributes := #[] }, { accessFlags := 2, nameIndex := 72, descriptorIndex := 12, attributes := #[] }, { accessFlags := 2, nameIndex := 141, descriptorIndex := 142, attributes := #[] }, { accessFlags := 2, nameIndex := 145, descriptorIndex := 56, attributes := #[] }, { accessFlags := 2, nameIndex := 148, descriptorIndex := 56, attributes := #[] }, { accessFlags := 2, nameIndex := 178, descriptorIndex := 56, attributes := #[] }, { accessFlags := 2, nameIndex := 181, descriptorIndex := 56, attributes := #[] }, { accessFlags := 2, nameIndex := 184, descriptorIndex := 56, attributes := #[] }, { accessFlags := 2, nameIndex := 187, descriptorIndex := 56, attributes := #[] }])
  fields := #[{ name := "NONE", type := .int, accessFlags := 24, slot := 0, constantValue := 0 }, { name := "FIRST_BLOCK", type := .int, accessFlags := 26, slot := 1, constantValue := 0 }, { name := "LARGEST_BLOCK", type := .int, accessFlags := 26, slot := 2, constantValue := 0 }, { name := "shapeCount", type := .int, accessFlags := 2, slot := 0, constantValue := 0 }, { name := "nextShape", type := (.array .int), accessFlags := 2, slot := 1, constantValue := 0 }, { name := "firstChoice", type := (.array .int), accessFlags := 2, slot := 2, constantValue := 0 }, { name := "firstKey", type := (.array .int), accessFlags := 2, slot := 3, constantValue := 0 }, { name := "keyLength", type := (.array .int), accessFlags := 2, slot := 4, constantValue := 0 }, { name := "firstRange", type := (.array .int), accessFlags := 2, slot := 5, constantValue := 0 }, { name := "firstAction", type := (.array .int), accessFlags := 2, slot := 6, constantValue := 0 }, { name := "firstCommand", type := (.array .int), accessFlags := 2, slot := 7, constantValue := 0 }, { name := "firstTransition", type := (.array .int), accessFlags := 2, slot := 8, constantValue := 0 }, { name := "actions", type := (.array .int), accessFlags := 2, slot := 9, constantValue := 0 }, { name := "commands", type := (.array .int), accessFlags := 2, slot := 10, constantValue := 0 }, { name := "successors", type := (.array .int), accessFlags := 2, slot := 11, constantValue := 0 }, { name := "probabilities", type := (.array .double), accessFlags := 2, slot := 12, constantValue := 0 }, { name := "keys", type := (.array .int), accessFlags := 2, slot := 13, constantValue := 0 }, { name := "ranges", type := (.array .int), accessFlags := 2, slot := 14, constantValue := 0 }, { name := "rowCount", type := .int, accessFlags := 2, slot := 15, constantValue := 0 }, { name := "lastRow", type := (.array .int), accessFlags := 2, slot := 16, constantValue := 0 }, { name := "shapeOf", type := (.array .int), accessFlags := 2, slot := 17, constantValue := 0 }, { name := "nextRow", type := (.array .int), accessFlags := 2, slot := 18, constantValue := 0 }, { name := "blockOf", type := (.array .int), accessFlags := 2, slot := 19, constantValue := 0 }, { name := "shift", type := (.array .int), accessFlags := 2, slot := 20, constantValue := 0 }, { name := "varyingCount", type := (.array .int), accessFlags := 2, slot := 21, constantValue := 0 }, { name := "blocks", type := (.array (.array .double)), accessFlags := 2, slot := 22, constantValue := 0 }, { name := "blockCount", type := .int, accessFlags := 2, slot := 23, constantValue := 0 }, { name := "used", type := .int, accessFlags := 2, slot := 24, constantValue := 0 }, { name := "markedShapes", type := .int, accessFlags := 2, slot := 25, constantValue := 0 }, { name := "markedRows", type := .int, accessFlags := 2, slot := 26, constantValue := 0 }, { name := "markedBlocks", type := .int, accessFlags := 2, slot := 27, constantValue := 0 }, { name := "markedUsed", type := .int, accessFlags := 2, slot := 28, constantValue := 0 }]
  methods := #[k2m0, k2m1, k2m2]
  instanceTypes := #[.int, (.array .int), (.array .int), (.array .int), (.array .int), (.array .int), (.array .int), (.array .int), (.array .int), (.array .int), (.array .int), (.array .int), (.array .double), (.array .int), (.array .int), .int, (.array .int), (.array .int), (.array .int), (.array .int), (.array .int), (.array .int), (.array (.array .double)), .int, .int, .int, .int, .int, .int]
  staticTypes := #[.int, .int, .int]
  resolved := resd 283 [(57, .field 3 12), (62, .field 3 1), (65, .field 3 2), (70, .field 3 4), (73, .field 3 13), (76, .field 3 14), (79, .field 3 15), (86, .field 3 5), (87, .field 3 7), (88, .field 3 9), (89, .field 3 6), (96, .field 3 8), (97, .field 3 10), (98, .field 3 11), (109, .field 3 3)]
  statics := none }

def pool3 : Array CpInfo := pool [(1, .methodref 2 3), (0, .class_ 4), (0, .nameAndType 5 6), (0, u "java/lang/Object"), (0, u "<init>"), (0, u "()V"), (0, .fieldref 8 9), (0, .class_ 10), (0, .nameAndType 11 12), (0, u "com/example/sambre/sambre/engine/Rows$Builder"), (0, u "firstAction"), (0, u "[I"), (0, .fieldref 8 14), (0, .nameAndType 15 12), (0, u "actions"), (0, .fieldref 8 17), (0, .nameAndType 18 12), (0, u "firstCommand"), (0, .fieldref 8 20), (0, .nameAndType 21 12), (0, u "commands"), (0, .fieldref 8 23), (0, .nameAndType 24 12), (0, u "firstTransition"), (0, .fieldref 8 26), (0, .nameAndType 27 12), (0, u "successors"), (0, .fieldref 8 29), (0, .nameAndType 30 31), (0, u "probabilities"), (0, u "[D"), (0, .fieldref 8 33), (0, .nameAndType 34 12), (0, u "key"), (0, .fieldref 8 36), (0, .nameAndType 37 38), (0, u "keyLength"), (0, u "I"), (0, .fieldref 8 40), (0, .nameAndType 41 31), (0, u "varying"), (0, .fieldref 8 43), (0, .nameAndType 44 38), (0, u "varyingCount"), (0, .fieldref 8 46), (0, .nameAndType 47 38), (0, u "choiceCount"), (0, .fieldref 8 49), (0, .nameAndType 50 38), (0, u "actionCount"), (0, .fieldref 8 52), (0, .nameAndType 53 38), (0, u "commandCount"), (0, .fieldref 8 55), (0, .nameAndType 56 38), (0, u "transitionCount"), (0, .fieldref 8 58), (0, .nameAndType 59 60), (0, u "places"), (0, u "Ljava/util/Map;"), (0, .methodref 62 63), (0, .class_ 64), (0, .nameAndType 65 66), (0, u "java/util/Arrays"), (0, u "copyOf"), (0, u "([II)[I"), (25, u "SCANNED"), (6, u "start"), (0, u "([II[DI)V"), (0, u "startChoice"), (2, u "(I)V"), (0, u "addCommand"), (7, .class_ 114), (0, u "com/example/sambre/sambre/engine/Rows")] 2

def k3c0 : Code := { maxStack := 2, maxLocals := 1, code := prog_88_method_1_code, exceptionTable := #[], attributes := #[] }
def k3m0 : Method := { name := "<init>", desc := "()V", sig := { parameters := [], returnType := none }, accessFlags := 0, code := some k3c0 }
def k3c1 : Code := { maxStack := 2, maxLocals := 5, code := prog_88_method_2_code, exceptionTable := #[], attributes := #[] }
def k3m1 : Method := { name := "start", desc := "([II[DI)V", sig := { parameters := [(.array .int), .int, (.array .double), .int], returnType := none }, accessFlags := 0, code := some k3c1 }
def k3c2 : Code := { maxStack := 5, maxLocals := 1, code := prog_88_method_3_code, exceptionTable := #[], attributes := #[] }
def k3m2 : Method := { name := "startChoice", desc := "()V", sig := { parameters := [], returnType := none }, accessFlags := 0, code := some k3c2 }
def k3c3 : Code := { maxStack := 5, maxLocals := 2, code := prog_88_method_5_code, exceptionTable := #[], attributes := #[] }
def k3m3 : Method := { name := "addCommand", desc := "(I)V", sig := { parameters := [.int], returnType := none }, accessFlags := 0, code := some k3c3 }
/-- com/example/sambre/sambre/engine/Rows$Builder -/
def k3 : Class := { plain "com/example/sambre/sambre/engine/Rows$Builder" (some 0) with
  accessFlags := 32
  interfaces := #[]
  cf := some (fileOf pool3 8 #[.nestHost 113] #[{ accessFlags := 0, nameIndex := 5, descriptorIndex := 6, attributes := #[] }, { accessFlags := 0, nameIndex := 99, descriptorIndex := 100, attributes := #[] }, { accessFlags := 0, nameIndex := 101, descriptorIndex := 6, attributes := #[] }, { accessFlags := 0, nameIndex := 105, descriptorIndex := 104, attributes := #[] }] 32 2 #[] #[{ accessFlags := 26, nameIndex := 92, descriptorIndex := 38, attributes := #[] }, { accessFlags := 2, nameIndex := 34, descriptorIndex := 12, attributes := #[] }, { accessFlags := 2, nameIndex := 37, descriptorIndex := 38, attributes := #[] }, { accessFlags := 2, nameIndex := 41, descriptorIndex := 31, attributes := #[] }, { accessFlags := 2, nameIndex := 44, descriptorIndex := 38, attributes := #[] }, { accessFlags := 2, nameIndex := 11, descriptorIndex := 12, attributes := #[] }, { accessFlags := 2, nameIndex := 15, descriptorIndex := 12, attributes := #[] }, { accessFlags := 2, nameIndex := 18, descriptorIndex := 12, attributes := #[] }, { accessFlags := 2, nameIndex := 21, descriptorIndex := 12, attributes := #[] }, { accessFlags := 2, nameIndex := 24, descriptorIndex := 12, attributes := #[] }, { accessFlags := 2, nameIndex := 27, descriptorIndex := 12, attributes := #[] }, { accessFlags := 2, nameIndex := 30, descriptorIndex := 31, attributes := #[] }, { accessFlags := 2, nameIndex := 47, descriptorIndex := 38, attributes := #[] }, { accessFlags := 2, nameIndex := 50, descriptorIndex := 38, attributes := #[] }, { accessFlags := 2, nameIndex := 53, descriptorIndex := 38, attributes := #[] }, { accessFlags := 2, nameIndex := 56, descriptorIndex := 38, attributes := #[] }, { accessFlags := 2, nameIndex := 59, descriptorIndex := 60, attributes := #[] }])
  fields := #[{ name := "SCANNED", type := .int, accessFlags := 26, slot := 0, constantValue := 0 }, { name := "key", type := (.array .int), accessFlags := 2, slot := 0, constantValue := 0 }, { name := "keyLength", type := .int, accessFlags := 2, slot := 1, constantValue := 0 }, { name := "varying", type := (.array .double), accessFlags := 2, slot := 2, constantValue := 0 }, { name := "varyingCount", type := .int, accessFlags := 2, slot := 3, constantValue := 0 }, { name := "firstAction", type := (.array .int), accessFlags := 2, slot := 4, constantValue := 0 }, { name := "actions", type := (.array .int), accessFlags := 2, slot := 5, constantValue := 0 }, { name := "firstCommand", type := (.array .int), accessFlags := 2, slot := 6, constantValue := 0 }, { name := "commands", type := (.array .int), accessFlags := 2, slot := 7, constantValue := 0 }, { name := "firstTransition", type := (.array .int), accessFlags := 2, slot := 8, constantValue := 0 }, { name := "successors", type := (.array .int), accessFlags := 2, slot := 9, constantValue := 0 }, { name := "probabilities", type := (.array .double), accessFlags := 2, slot := 10, constantValue := 0 }, { name := "choiceCount", type := .int, accessFlags := 2, slot := 11, constantValue := 0 }, { name := "actionCount", type := .int, accessFlags := 2, slot := 12, constantValue := 0 }, { name := "commandCount", type := .int, accessFlags := 2, slot := 13, constantValue := 0 }, { name := "transitionCount", type := .int, accessFlags := 2, slot := 14, constantValue := 0 }, { name := "places", type := (.object "java/util/Map"), accessFlags := 2, slot := 15, constantValue := 0 }]
  methods := #[k3m0, k3m1, k3m2, k3m3]
  instanceTypes := #[(.array .int), .int, (.array .double), .int, (.array .int), (.array .int), (.array .int), (.array .int), (.array .int), (.array .int), (.array .double), .int, .int, .int, .int, (.object "java/util/Map")]
  staticTypes := #[.int]
  resolved := Array.replicate 117 none
  statics := none }

def pool4 : Array CpInfo := pool [(2, .class_ 4), (1, u "java/lang/Object"), (0, u "<init>"), (0, u "()V"), (1, .class_ 10), (1, u "java/lang/System"), (0, u "allowSecurityManager"), (0, u "I"), (16, u "cons"), (0, u "Ljava/io/Console;"), (77, .class_ 110), (1, u "java/lang/System$CallersHolder"), (43, u "initialErrStream"), (0, u "Ljava/io/PrintStream;"), (19, u "security"), (0, u "Ljava/lang/SecurityManager;"), (31, .class_ 209), (0, u "java/lang/System$1"), (7, u "props"), (0, u "Ljava/util/Properties;"), (2, u "lineSeparator"), (0, u "Ljava/lang/String;"), (96, .class_ 321), (1, u "java/lang/System$LoggerFinder"), (5, .class_ 328), (0, u "java/lang/System$Logger"), (67, u "err"), (2, u "out"), (91, u "notSupportedJnuEncoding"), (15, u "in"), (17, u "initialIn"), (0, u "Ljava/io/InputStream;"), (35, u "bootLayer"), (0, u "Ljava/lang/ModuleLayer;"), (99, .class_ 664), (0, u "java/lang/System$2"), (9, u "NEVER"), (2, u "MAYBE"), (49, u "arraycopy"), (0, u "(Ljava/lang/Object;ILjava/lang/Object;II)V"), (72, .class_ 802), (0, u "java/lang/System$Logger$Level")] 31

def k4m0 : Method := { name := "<init>", desc := "()V", sig := { parameters := [], returnType := none }, accessFlags := 2, code := none }
def k4m1 : Method := { name := "arraycopy", desc := "(Ljava/lang/Object;ILjava/lang/Object;II)V", sig := { parameters := [(.object "java/lang/Object"), .int, (.object "java/lang/Object"), .int, .int], returnType := none }, accessFlags := 265, code := none }
/-- java/lang/System -/
def k4 : Class := { plain "java/lang/System" (some 0) with
  accessFlags := 49
  interfaces := #[]
  cf := some (fileOf pool4 8 #[.nestMembers #[319, 327, 801, 108, 663, 208]] #[{ accessFlags := 2, nameIndex := 5, descriptorIndex := 6, attributes := #[] }, { accessFlags := 265, nameIndex := 727, descriptorIndex := 728, attributes := #[] }] 49 2 #[] #[{ accessFlags := 25, nameIndex := 507, descriptorIndex := 526, attributes := #[] }, { accessFlags := 25, nameIndex := 399, descriptorIndex := 155, attributes := #[] }, { accessFlags := 25, nameIndex := 396, descriptorIndex := 155, attributes := #[] }, { accessFlags := 10, nameIndex := 525, descriptorIndex := 526, attributes := #[] }, { accessFlags := 26, nameIndex := 674, descriptorIndex := 12, attributes := #[] }, { accessFlags := 26, nameIndex := 677, descriptorIndex := 12, attributes := #[] }, { accessFlags := 10, nameIndex := 11, descriptorIndex := 12, attributes := #[] }, { accessFlags := 74, nameIndex := 175, descriptorIndex := 176, attributes := #[] }, { accessFlags := 10, nameIndex := 491, descriptorIndex := 222, attributes := #[] }, { accessFlags := 74, nameIndex := 29, descriptorIndex := 30, attributes := #[] }, { accessFlags := 74, nameIndex := 154, descriptorIndex := 155, attributes := #[] }, { accessFlags := 10, nameIndex := 217, descriptorIndex := 218, attributes := #[] }, { accessFlags := 10, nameIndex := 221, descriptorIndex := 222, attributes := #[] }, { accessFlags := 8, nameIndex := 562, descriptorIndex := 563, attributes := #[] }])
  fields := #[{ name := "in", type := (.object "java/io/InputStream"), accessFlags := 25, slot := 0, constantValue := 0 }, { name := "out", type := (.object "java/io/PrintStream"), accessFlags := 25, slot := 1, constantValue := 0 }, { name := "err", type := (.object "java/io/PrintStream"), accessFlags := 25, slot := 2, constantValue := 0 }, { name := "initialIn", type := (.object "java/io/InputStream"), accessFlags := 10, slot := 3, constantValue := 0 }, { name := "NEVER", type := .int, accessFlags := 26, slot := 4, constantValue := 0 }, { name := "MAYBE", type := .int, accessFlags := 26, slot := 5, constantValue := 0 }, { name := "allowSecurityManager", type := .int, accessFlags := 10, slot := 6, constantValue := 0 }, { name := "security", type := (.object "java/lang/SecurityManager"), accessFlags := 74, slot := 7, constantValue := 0 }, { name := "notSupportedJnuEncoding", type := (.object "java/lang/String"), accessFlags := 10, slot := 8, constantValue := 0 }, { name := "cons", type := (.object "java/io/Console"), accessFlags := 74, slot := 9, constantValue := 0 }, { name := "initialErrStream", type := (.object "java/io/PrintStream"), accessFlags := 74, slot := 10, constantValue := 0 }, { name := "props", type := (.object "java/util/Properties"), accessFlags := 10, slot := 11, constantValue := 0 }, { name := "lineSeparator", type := (.object "java/lang/String"), accessFlags := 10, slot := 12, constantValue := 0 }, { name := "bootLayer", type := (.object "java/lang/ModuleLayer"), accessFlags := 8, slot := 13, constantValue := 0 }]
  methods := #[k4m0, k4m1]
  instanceTypes := #[]
  staticTypes := #[(.object "java/io/InputStream"), (.object "java/io/PrintStream"), (.object "java/io/PrintStream"), (.object "java/io/InputStream"), .int, .int, .int, (.object "java/lang/SecurityManager"), (.object "java/lang/String"), (.object "java/io/Console"), (.object "java/io/PrintStream"), (.object "java/util/Properties"), (.object "java/lang/String"), (.object "java/lang/ModuleLayer")]
  resolved := Array.replicate 834 none
  statics := none }

def pool5 : Array CpInfo := pool [(2, .class_ 4), (1, u "java/lang/Object"), (0, u "<init>"), (0, u "()V"), (7, .class_ 16), (1, u "java/util/Arrays"), (57, .class_ 76), (1, u "java/util/Arrays$NaturalOrder"), (36, .class_ 115), (1, u "java/util/Arrays$LegacyMergeSort"), (1, u "Z"), (32, .methodref 151 152), (0, .class_ 153), (0, .nameAndType 154 155), (0, u "java/lang/System"), (0, u "arraycopy"), (0, u "(Ljava/lang/Object;ILjava/lang/Object;II)V"), (146, u "copyOf"), (1, .methodref 305 306), (0, .class_ 307), (0, .nameAndType 308 309), (0, u "java/lang/Math"), (0, u "min"), (0, u "(II)I"), (65, .class_ 376), (0, u "java/util/Arrays$ArrayList"), (68, u "$assertionsDisabled"), (269, u "MIN_ARRAY_SORT_GRAN"), (0, u "I"), (2, u "INSERTIONSORT_THRESHOLD"), (151, u "([II)[I"), (103, .class_ 976), (0, u "java/util/Arrays$ArrayItr")] 52

def k5m0 : Method := { name := "<init>", desc := "()V", sig := { parameters := [], returnType := none }, accessFlags := 2, code := none }
def k5c1 : Code := { maxStack := 6, maxLocals := 3, code := jdk_65_method_123_code, exceptionTable := #[], attributes := #[] }
def k5m1 : Method := { name := "copyOf", desc := "([II)[I", sig := { parameters := [(.array .int), .int], returnType := some (.array .int) }, accessFlags := 9, code := some k5c1 }
/-- java/util/Arrays -/
def k5 : Class := { plain "java/util/Arrays" (some 0) with
  accessFlags := 49
  interfaces := #[]
  cf := some (fileOf pool5 14 #[.nestMembers #[975, 375, 113, 74]] #[{ accessFlags := 2, nameIndex := 5, descriptorIndex := 6, attributes := #[] }, { accessFlags := 9, nameIndex := 302, descriptorIndex := 871, attributes := #[] }] 49 2 #[] #[{ accessFlags := 26, nameIndex := 715, descriptorIndex := 716, attributes := #[] }, { accessFlags := 26, nameIndex := 719, descriptorIndex := 716, attributes := #[] }, { accessFlags := 4120, nameIndex := 445, descriptorIndex := 117, attributes := #[] }])
  fields := #[{ name := "MIN_ARRAY_SORT_GRAN", type := .int, accessFlags := 26, slot := 0, constantValue := 0 }, { name := "INSERTIONSORT_THRESHOLD", type := .int, accessFlags := 26, slot := 1, constantValue := 0 }, { name := "$assertionsDisabled", type := .boolean, accessFlags := 4120, slot := 2, constantValue := 0 }]
  methods := #[k5m0, k5m1]
  instanceTypes := #[]
  staticTypes := #[.int, .int, .boolean]
  resolved := Array.replicate 1029 none
  statics := none }

def pool6 : Array CpInfo := pool [(1, .class_ 2), (0, u "java/lang/Math"), (1, .class_ 6), (1, u "java/lang/Object"), (0, u "<init>"), (0, u "()V"), (89, .class_ 100), (1, u "java/lang/Math$RandomNumberGeneratorHolder"), (71, u "negativeZeroFloatBits"), (0, u "J"), (2, u "negativeZeroDoubleBits"), (24, u "min"), (43, u "$assertionsDisabled"), (0, u "Z"), (88, u "(II)I"), (2, u "twoToTheDoubleScaleDown"), (0, u "D"), (4, u "twoToTheDoubleScaleUp"), (9, u "E"), (3, u "PI"), (2, u "TAU"), (2, u "DEGREES_TO_RADIANS"), (0, u "RADIANS_TO_DEGREES")] 94

def k6m0 : Method := { name := "<init>", desc := "()V", sig := { parameters := [], returnType := none }, accessFlags := 2, code := none }
def k6c1 : Code := { maxStack := 2, maxLocals := 2, code := jdk_29_method_69_code, exceptionTable := #[], attributes := #[] }
def k6m1 : Method := { name := "min", desc := "(II)I", sig := { parameters := [.int, .int], returnType := some .int }, accessFlags := 9, code := some k6c1 }
/-- java/lang/Math -/
def k6 : Class := { plain "java/lang/Math" (some 0) with
  accessFlags := 49
  interfaces := #[]
  cf := some (fileOf pool6 1 #[.nestMembers #[98]] #[{ accessFlags := 2, nameIndex := 7, descriptorIndex := 8, attributes := #[] }, { accessFlags := 9, nameIndex := 201, descriptorIndex := 335, attributes := #[] }] 49 4 #[] #[{ accessFlags := 25, nameIndex := 354, descriptorIndex := 339, attributes := #[] }, { accessFlags := 25, nameIndex := 358, descriptorIndex := 339, attributes := #[] }, { accessFlags := 25, nameIndex := 361, descriptorIndex := 339, attributes := #[] }, { accessFlags := 26, nameIndex := 364, descriptorIndex := 339, attributes := #[] }, { accessFlags := 26, nameIndex := 365, descriptorIndex := 339, attributes := #[] }, { accessFlags := 26, nameIndex := 172, descriptorIndex := 173, attributes := #[] }, { accessFlags := 26, nameIndex := 176, descriptorIndex := 173, attributes := #[] }, { accessFlags := 8, nameIndex := 344, descriptorIndex := 339, attributes := #[] }, { accessFlags := 8, nameIndex := 338, descriptorIndex := 339, attributes := #[] }, { accessFlags := 4120, nameIndex := 245, descriptorIndex := 246, attributes := #[] }])
  fields := #[{ name := "E", type := .double, accessFlags := 25, slot := 0, constantValue := 0 }, { name := "PI", type := .double, accessFlags := 25, slot := 1, constantValue := 0 }, { name := "TAU", type := .double, accessFlags := 25, slot := 2, constantValue := 0 }, { name := "DEGREES_TO_RADIANS", type := .double, accessFlags := 26, slot := 3, constantValue := 0 }, { name := "RADIANS_TO_DEGREES", type := .double, accessFlags := 26, slot := 4, constantValue := 0 }, { name := "negativeZeroFloatBits", type := .long, accessFlags := 26, slot := 5, constantValue := 0 }, { name := "negativeZeroDoubleBits", type := .long, accessFlags := 26, slot := 6, constantValue := 0 }, { name := "twoToTheDoubleScaleUp", type := .double, accessFlags := 8, slot := 7, constantValue := 0 }, { name := "twoToTheDoubleScaleDown", type := .double, accessFlags := 8, slot := 8, constantValue := 0 }, { name := "$assertionsDisabled", type := .boolean, accessFlags := 4120, slot := 9, constantValue := 0 }]
  methods := #[k6m0, k6m1]
  instanceTypes := #[]
  staticTypes := #[.double, .double, .double, .double, .double, .long, .long, .double, .double, .boolean]
  resolved := Array.replicate 460 none
  statics := none }

def pool7 : Array CpInfo := pool [(1, u "java/lang/Cloneable"), (0, .class_ 1), (0, u "java/lang/Object"), (0, .class_ 3)] 3

/-- java/lang/Cloneable -/
def k7 : Class := { plain "java/lang/Cloneable" (some 0) with
  accessFlags := 1537
  interfaces := #[]
  cf := some (fileOf pool7 2 #[] #[] 1537 4 #[] #[])
  fields := #[]
  methods := #[]
  instanceTypes := #[]
  staticTypes := #[]
  resolved := Array.replicate 8 none
  statics := none }

def pool8 : Array CpInfo := pool [(1, u "java/io/Serializable"), (0, .class_ 1), (0, u "java/lang/Object"), (0, .class_ 3)] 3

/-- java/io/Serializable -/
def k8 : Class := { plain "java/io/Serializable" (some 0) with
  accessFlags := 1537
  interfaces := #[]
  cf := some (fileOf pool8 2 #[] #[] 1537 4 #[] #[])
  fields := #[]
  methods := #[]
  instanceTypes := #[]
  staticTypes := #[]
  resolved := Array.replicate 8 none
  statics := none }

/-- the primitive byte -/
def k9 : Class := { plain "byte" none with kind := .primitive 'B', accessFlags := 0x411 }
/-- [B -/
def k10 : Class := { plain "[B" (some 0) with kind := .array 9 .byte, interfaces := #[7, 8], accessFlags := 1041 }

/-- the primitive int -/
def k11 : Class := { plain "int" none with kind := .primitive 'I', accessFlags := 0x411 }
/-- [I -/
def k12 : Class := { plain "[I" (some 0) with kind := .array 11 .int, interfaces := #[7, 8], accessFlags := 1041 }

/-- the primitive double -/
def k13 : Class := { plain "double" none with kind := .primitive 'D', accessFlags := 0x411 }
/-- [D -/
def k14 : Class := { plain "[D" (some 0) with kind := .array 13 .double, interfaces := #[7, 8], accessFlags := 1041 }

def heap : Heap := #[]
def classes : Array Class := #[k0, k1, k2, k3, k4, k5, k6, k7, k8, k9, k10, k11, k12, k13, k14]
def interned : List (Array UInt16 × Addr) := []
def slotsUsed : Nat := 0
def theMethod : MethodId := ⟨1, 4⟩
def args0 : Array Value := #[.int 5, .int 6, .int 7, .int 2, .int 9]
def aboutOver (below : List Frame) : State where
  vm := { classes := classes, interned := interned.toArray }
  heap := heap
  slotsUsed := slotsUsed
  threads := #[{ frames := .invoking theMethod args0 :: below }]
def below0 : List Frame := [.native { method := ⟨0, 0⟩, args := #[] }]
def about1 : State := aboutOver below0
def p0 : Program := .bare "" "" ""
def e0 : Env := launch0.env 0 0 0
theorem w_frames : about1.frames = Frame.invoking theMethod args0 :: below0 := rfl
set_option maxRecDepth 65536 in
theorem w_args : argsFit about1.vm theMethod args0 = true := by decide +kernel
set_option maxRecDepth 65536 in
theorem w_heap : heapFits about1 = true := by decide +kernel
set_option maxRecDepth 65536 in
theorem w_runnable : about1.curStatus? = some .runnable := by decide +kernel
set_option maxRecDepth 65536 in
theorem w_alone : about1.alone = true := by decide +kernel
set_option maxRecDepth 65536 in
theorem w_named : about1.methodNamed? x = some theMethod := by decide +kernel
set_option maxRecDepth 65536 in
theorem w_hears : about1.hears theMethod below0 = true := by decide +kernel
set_option maxRecDepth 65536 in
theorem w_ripe : about1.ripe theMethod args0 below0 = true := by decide +kernel
theorem w_running : about1.status = .running := rfl
set_option maxRecDepth 65536 in
theorem w_room : about1.hasRoom e0.platform room_1 = true :=
  launch0.hasRoom_least _ room_1 (by decide +kernel) (by decide +kernel) (by decide +kernel) (by decide +kernel) (by decide +kernel) (by decide +kernel)
theorem allAtoms_all (ts : List Jvm.Cond) (a : Array Jvm.Value) (st : Jvm.State) : (allAtoms ts).before a st = ts.all (fun c => c.before a st) := by
  induction ts with
  | nil => rfl
  | cons c t ih =>
    show (Jvm.Cond.and c (allAtoms t)).before a st = _
    rw [Jvm.Cond.before_and, ih, List.all_cons]
def words1 : List Jvm.Cond := Jvm.Cond.code x code maxLocals ret :: tables_1
/-- a 'code' word, met by the world's own term for the bytes: nothing is compared byte by byte -/
theorem code_word {y : MethodName} {bytes : ByteArray} {mx : Nat} {rt : Option FieldType} {a : Array Value} {s : State} {m : MethodId} {meth : Method} {c : Code} (h1 : s.methodNamed? y = some m) (h2 : s.vm.method? m = some meth) (h3 : meth.code = some c) (h4 : c.code = bytes)
    (h5 : (c.maxLocals == mx && c.exceptionTable.isEmpty && decide (c.maxStack ≤ mostOperands) && decide (meth.sig.returnType = rt) && !meth.locks && decide (parseMethodDescriptor y.desc = some meth.sig)) = true) : (Jvm.Cond.code y bytes mx rt).before a s = true := by
  simp only [Bool.and_eq_true, beq_iff_eq, Bool.not_eq_true', decide_eq_true_eq] at h5
  obtain ⟨⟨⟨⟨⟨g1, g2⟩, g3⟩, g4⟩, g5⟩, g6⟩ := h5
  simp [Cond.before, Cond.holds, Cond.value, h1, h2, h3, h4, g1, g2, g3, g4, g5, g6]
def isCode : Jvm.Cond → Bool
  | .code _ _ _ _ => true
  | _ => false
theorem all_split {L : List Jvm.Cond} {P : Jvm.Cond → Bool} (h1 : L.all (fun c => isCode c || P c) = true) (h2 : ∀ c ∈ L.filter isCode, P c = true) : L.all P = true := by
  refine List.all_eq_true.mpr fun c hc => ?_
  have h := List.all_eq_true.mp h1 c hc
  rcases Bool.eq_false_or_eq_true (isCode c) with hi | hi
  · exact h2 c (List.mem_filter.mpr ⟨hc, hi⟩)
  · simpa [hi] using h
set_option maxRecDepth 65536 in
theorem w_c0 : (Jvm.Cond.code x code maxLocals ret).before args0 about1 = true := code_word (m := ⟨1, 4⟩) (meth := k1m4) (c := k1c4) (by decide +kernel) rfl rfl rfl (by decide +kernel)
set_option maxRecDepth 65536 in
theorem w_c1 : (Jvm.Cond.code ({ cls := "com/example/sambre/sambre/engine/RowsChoiceNamedAsPinLaw", name := "pick", desc := "(IIII)I" } : Jvm.MethodName) method_2_code (4 : Nat) (Option.some Jvm.ClassFile.FieldType.int)).before args0 about1 = true := code_word (m := ⟨1, 1⟩) (meth := k1m1) (c := k1c1) (by decide +kernel) rfl rfl rfl (by decide +kernel)
set_option maxRecDepth 65536 in
theorem w_c2 : (Jvm.Cond.code ({ cls := "com/example/sambre/sambre/engine/RowsChoiceNamedAsPinLaw", name := "same", desc := "(IIIIII)Z" } : Jvm.MethodName) method_3_code (6 : Nat) (Option.some Jvm.ClassFile.FieldType.boolean)).before args0 about1 = true := code_word (m := ⟨1, 2⟩) (meth := k1m2) (c := k1c2) (by decide +kernel) rfl rfl rfl (by decide +kernel)
set_option maxRecDepth 65536 in
theorem w_c3 : (Jvm.Cond.code ({ cls := "com/example/sambre/sambre/engine/Rows", name := "<init>", desc := "()V" } : Jvm.MethodName) prog_87_method_1_code (1 : Nat) (Option.none : Option Jvm.ClassFile.FieldType)).before args0 about1 = true := code_word (m := ⟨2, 0⟩) (meth := k2m0) (c := k2c0) (by decide +kernel) rfl rfl rfl (by decide +kernel)
set_option maxRecDepth 65536 in
theorem w_c4 : (Jvm.Cond.code ({ cls := "java/lang/Object", name := "<init>", desc := "()V" } : Jvm.MethodName) object_method_1_code (1 : Nat) (Option.none : Option Jvm.ClassFile.FieldType)).before args0 about1 = true := code_word (m := ⟨0, 0⟩) (meth := k0m0) (c := k0c0) (by decide +kernel) rfl rfl rfl (by decide +kernel)
set_option maxRecDepth 65536 in
theorem w_c5 : (Jvm.Cond.code ({ cls := "com/example/sambre/sambre/engine/Rows$Builder", name := "<init>", desc := "()V" } : Jvm.MethodName) prog_88_method_1_code (1 : Nat) (Option.none : Option Jvm.ClassFile.FieldType)).before args0 about1 = true := code_word (m := ⟨3, 0⟩) (meth := k3m0) (c := k3c0) (by decide +kernel) rfl rfl rfl (by decide +kernel)
set_option maxRecDepth 65536 in
theorem w_c6 : (Jvm.Cond.code ({ cls := "com/example/sambre/sambre/engine/Rows$Builder", name := "start", desc := "([II[DI)V" } : Jvm.MethodName) prog_88_method_2_code (5 : Nat) (Option.none : Option Jvm.ClassFile.FieldType)).before args0 about1 = true := code_word (m := ⟨3, 1⟩) (meth := k3m1) (c := k3c1) (by decide +kernel) rfl rfl rfl (by decide +kernel)
set_option maxRecDepth 65536 in
theorem w_c7 : (Jvm.Cond.code ({ cls := "com/example/sambre/sambre/engine/RowsChoiceNamedAsPinLaw", name := "choice", desc := "(Lcom/example/sambre/sambre/engine/Rows$Builder;III)V" } : Jvm.MethodName) method_4_code (4 : Nat) (Option.none : Option Jvm.ClassFile.FieldType)).before args0 about1 = true := code_word (m := ⟨1, 3⟩) (meth := k1m3) (c := k1c3) (by decide +kernel) rfl rfl rfl (by decide +kernel)
set_option maxRecDepth 65536 in
theorem w_c8 : (Jvm.Cond.code ({ cls := "com/example/sambre/sambre/engine/Rows$Builder", name := "startChoice", desc := "()V" } : Jvm.MethodName) prog_88_method_3_code (1 : Nat) (Option.none : Option Jvm.ClassFile.FieldType)).before args0 about1 = true := code_word (m := ⟨3, 2⟩) (meth := k3m2) (c := k3c2) (by decide +kernel) rfl rfl rfl (by decide +kernel)
set_option maxRecDepth 65536 in
theorem w_c9 : (Jvm.Cond.code ({ cls := "com/example/sambre/sambre/engine/Rows$Builder", name := "addCommand", desc := "(I)V" } : Jvm.MethodName) prog_88_method_5_code (2 : Nat) (Option.none : Option Jvm.ClassFile.FieldType)).before args0 about1 = true := code_word (m := ⟨3, 3⟩) (meth := k3m3) (c := k3c3) (by decide +kernel) rfl rfl rfl (by decide +kernel)
set_option maxRecDepth 65536 in
theorem w_c10 : (Jvm.Cond.code ({ cls := "com/example/sambre/sambre/engine/Rows", name := "add", desc := "(Lcom/example/sambre/sambre/engine/Rows$Builder;[II)I" } : Jvm.MethodName) prog_87_method_2_code (15 : Nat) (Option.some Jvm.ClassFile.FieldType.int)).before args0 about1 = true := code_word (m := ⟨2, 1⟩) (meth := k2m1) (c := k2c1) (by decide +kernel) rfl rfl rfl (by decide +kernel)
set_option maxRecDepth 65536 in
theorem w_c11 : (Jvm.Cond.code ({ cls := "com/example/sambre/sambre/engine/Rows", name := "choiceNamedAs", desc := "(II)I" } : Jvm.MethodName) prog_87_method_34_code (10 : Nat) (Option.some Jvm.ClassFile.FieldType.int)).before args0 about1 = true := code_word (m := ⟨2, 2⟩) (meth := k2m2) (c := k2c2) (by decide +kernel) rfl rfl rfl (by decide +kernel)
set_option maxRecDepth 65536 in
theorem w_c12 : (Jvm.Cond.code ({ cls := "java/util/Arrays", name := "copyOf", desc := "([II)[I" } : Jvm.MethodName) jdk_65_method_123_code (3 : Nat) (Option.some (Jvm.ClassFile.FieldType.array Jvm.ClassFile.FieldType.int))).before args0 about1 = true := code_word (m := ⟨5, 1⟩) (meth := k5m1) (c := k5c1) (by decide +kernel) rfl rfl rfl (by decide +kernel)
set_option maxRecDepth 65536 in
theorem w_c13 : (Jvm.Cond.code ({ cls := "java/lang/Math", name := "min", desc := "(II)I" } : Jvm.MethodName) jdk_29_method_69_code (2 : Nat) (Option.some Jvm.ClassFile.FieldType.int)).before args0 about1 = true := code_word (m := ⟨6, 1⟩) (meth := k6m1) (c := k6c1) (by decide +kernel) rfl rfl rfl (by decide +kernel)
def codes1 : List Jvm.Cond := [Jvm.Cond.code x code maxLocals ret, Jvm.Cond.code ({ cls := "com/example/sambre/sambre/engine/RowsChoiceNamedAsPinLaw", name := "pick", desc := "(IIII)I" } : Jvm.MethodName) method_2_code (4 : Nat) (Option.some Jvm.ClassFile.FieldType.int), Jvm.Cond.code ({ cls := "com/example/sambre/sambre/engine/RowsChoiceNamedAsPinLaw", name := "same", desc := "(IIIIII)Z" } : Jvm.MethodName) method_3_code (6 : Nat) (Option.some Jvm.ClassFile.FieldType.boolean), Jvm.Cond.code ({ cls := "com/example/sambre/sambre/engine/Rows", name := "<init>", desc := "()V" } : Jvm.MethodName) prog_87_method_1_code (1 : Nat) (Option.none : Option Jvm.ClassFile.FieldType), Jvm.Cond.code ({ cls := "java/lang/Object", name := "<init>", desc := "()V" } : Jvm.MethodName) object_method_1_code (1 : Nat) (Option.none : Option Jvm.ClassFile.FieldType), Jvm.Cond.code ({ cls := "com/example/sambre/sambre/engine/Rows$Builder", name := "<init>", desc := "()V" } : Jvm.MethodName) prog_88_method_1_code (1 : Nat) (Option.none : Option Jvm.ClassFile.FieldType), Jvm.Cond.code ({ cls := "com/example/sambre/sambre/engine/Rows$Builder", name := "start", desc := "([II[DI)V" } : Jvm.MethodName) prog_88_method_2_code (5 : Nat) (Option.none : Option Jvm.ClassFile.FieldType), Jvm.Cond.code ({ cls := "com/example/sambre/sambre/engine/RowsChoiceNamedAsPinLaw", name := "choice", desc := "(Lcom/example/sambre/sambre/engine/Rows$Builder;III)V" } : Jvm.MethodName) method_4_code (4 : Nat) (Option.none : Option Jvm.ClassFile.FieldType), Jvm.Cond.code ({ cls := "com/example/sambre/sambre/engine/Rows$Builder", name := "startChoice", desc := "()V" } : Jvm.MethodName) prog_88_method_3_code (1 : Nat) (Option.none : Option Jvm.ClassFile.FieldType), Jvm.Cond.code ({ cls := "com/example/sambre/sambre/engine/Rows$Builder", name := "addCommand", desc := "(I)V" } : Jvm.MethodName) prog_88_method_5_code (2 : Nat) (Option.none : Option Jvm.ClassFile.FieldType), Jvm.Cond.code ({ cls := "com/example/sambre/sambre/engine/Rows", name := "add", desc := "(Lcom/example/sambre/sambre/engine/Rows$Builder;[II)I" } : Jvm.MethodName) prog_87_method_2_code (15 : Nat) (Option.some Jvm.ClassFile.FieldType.int), Jvm.Cond.code ({ cls := "com/example/sambre/sambre/engine/Rows", name := "choiceNamedAs", desc := "(II)I" } : Jvm.MethodName) prog_87_method_34_code (10 : Nat) (Option.some Jvm.ClassFile.FieldType.int), Jvm.Cond.code ({ cls := "java/util/Arrays", name := "copyOf", desc := "([II)[I" } : Jvm.MethodName) jdk_65_method_123_code (3 : Nat) (Option.some (Jvm.ClassFile.FieldType.array Jvm.ClassFile.FieldType.int)), Jvm.Cond.code ({ cls := "java/lang/Math", name := "min", desc := "(II)I" } : Jvm.MethodName) jdk_29_method_69_code (2 : Nat) (Option.some Jvm.ClassFile.FieldType.int)]
set_option maxRecDepth 65536 in
theorem codes_eq : words1.filter isCode = codes1 := rfl
theorem w_codes : ∀ c ∈ words1.filter isCode, c.before args0 about1 = true := by
  rw [codes_eq]
  intro c hc
  simp only [codes1, List.mem_cons, List.not_mem_nil, or_false] at hc
  rcases hc with rfl | rfl | rfl | rfl | rfl | rfl | rfl | rfl | rfl | rfl | rfl | rfl | rfl | rfl
  · exact w_c0
  · exact w_c1
  · exact w_c2
  · exact w_c3
  · exact w_c4
  · exact w_c5
  · exact w_c6
  · exact w_c7
  · exact w_c8
  · exact w_c9
  · exact w_c10
  · exact w_c11
  · exact w_c12
  · exact w_c13
set_option maxRecDepth 65536 in
theorem w_t1 : (words1.take 24).all (fun c => isCode c || c.before args0 about1) = true := by decide +kernel
set_option maxRecDepth 65536 in
theorem w_t2 : ((words1.drop 24).take 24).all (fun c => isCode c || c.before args0 about1) = true := by decide +kernel
set_option maxRecDepth 65536 in
theorem w_t3 : (((words1.drop 24).drop 24).take 24).all (fun c => isCode c || c.before args0 about1) = true := by decide +kernel
set_option maxRecDepth 65536 in
theorem w_t4 : ((((words1.drop 24).drop 24).drop 24).take 24).all (fun c => isCode c || c.before args0 about1) = true := by decide +kernel
set_option maxRecDepth 65536 in
theorem w_t5 : (((((words1.drop 24).drop 24).drop 24).drop 24).take 24).all (fun c => isCode c || c.before args0 about1) = true := by decide +kernel
set_option maxRecDepth 65536 in
theorem w_t6 : ((((((words1.drop 24).drop 24).drop 24).drop 24).drop 24).take 24).all (fun c => isCode c || c.before args0 about1) = true := by decide +kernel
set_option maxRecDepth 65536 in
theorem w_t7 : ((((((words1.drop 24).drop 24).drop 24).drop 24).drop 24).drop 24).all (fun c => isCode c || c.before args0 about1) = true := by decide +kernel
theorem w_tables : (allAtoms (Jvm.Cond.code x code maxLocals ret :: tables_1)).before args0 about1 = true := by
  rw [allAtoms_all]
  show words1.all (fun c => c.before args0 about1) = true
  refine all_split ?_ w_codes
  rw [← List.take_append_drop 24 words1, List.all_append, w_t1, ← List.take_append_drop 24 (words1.drop 24), List.all_append, w_t2, ← List.take_append_drop 24 ((words1.drop 24).drop 24), List.all_append, w_t3, ← List.take_append_drop 24 (((words1.drop 24).drop 24).drop 24), List.all_append, w_t4, ← List.take_append_drop 24 ((((words1.drop 24).drop 24).drop 24).drop 24), List.all_append, w_t5, ← List.take_append_drop 24 (((((words1.drop 24).drop 24).drop 24).drop 24).drop 24), List.all_append, w_t6, w_t7]
  rfl
set_option maxRecDepth 65536 in
theorem w_case : (Jvm.Cond.and given_1 narrow_1).before args0 about1 = true := by decide +kernel
theorem w_applies : (headSpec (Jvm.Cond.code x code maxLocals ret :: tables_1) room_1).applies x e0.platform about1 = true :=
  (Spec.applies_iff w_frames).mpr ⟨w_running, w_runnable, w_alone, w_named, w_hears, w_ripe, w_room, w_tables⟩
theorem atStart : AtStart classFile x code maxLocals ret World_1 tables_1 room_1 Calls_1 rest_1 Pre_1 launch0 p0 e0 about1 theMethod args0 below0 :=
  ⟨lists_1, trivial, launch0.admits_env _ _ _, launch0.least_env, fairChoices_fair.cas, fairChoices_fair.clock, w_frames, w_args, w_heap, w_applies, trivial, trivial, w_case⟩
end start1
theorem witness_1 : WitnessClaimed_1 := ⟨start1.p0, start1.e0, start1.about1, start1.theMethod, start1.args0, start1.below0, start1.atStart⟩
end Jvm.Pilot.@@N@@
