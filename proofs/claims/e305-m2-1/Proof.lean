import JvmDerived
import JvmDerived.Pilot.@@N@@Statement
import JvmDerived.Pilot.@@N@@Code
set_option linter.unusedVariables false
set_option linter.unusedSimpArgs false
namespace Jvm.RoadKit
open Sem ClassFile Op Lib Jvm.Stand Jvm.Free Jvm.LawKit
section New
variable {p : Program} {l : Launch} {e : Env} {R : Room} {s : State} {m : MethodId} {args : Array Value} {below : List Frame} {meth : Method} {c : Code} {T : State} {locs : List Loc} {cells slots : Nat}
theorem retI (X : Stand p l e R s m args below meth c T locs cells slots) (hx : p.tables.exec = Jvm.exec) {pc : Nat} {Ls : Array Slot} {z : Int32} {rest : List Value} (hret : meth.sig.returnType = some .int) (hd : decode c.code pc = .ok (.ireturn, 1)) {fs : List Frame}
    (hl : ∀ (f : JFrame) (acts : List Action), f.method = m → f.locked = none → f.entered = [] → (doReturn e (T.setTop f) acts (some (.int z))).1 = T.setFrames fs) : Steps p.tables e below (T.setTop (mkF m pc Ls (.int z :: rest))) (T.setFrames fs) := by
  have hm' : T.vm.method? m = some meth := X.method'
  have hn : narrow .int (.int z) = .int z := rfl
  show Steps p.tables e below (T.setTop { method := m, pc := pc, locals := Ls, stack := _ :: rest, locked := none }) _
  jvm_step X.here [X.here.top, hx, hd, hm', hret, hn]
  first | (intro acts; rw [hl _ acts rfl rfl rfl]) | rw [hl _ _ rfl rfl rfl]
  exact Steps.refl _
end New
end Jvm.RoadKit
namespace Jvm.OwnKit
open Sem ClassFile Op Lib Jvm.Stand Jvm.Free Jvm.LawKit Jvm.RoadKit
section Kit
variable {p : Program} {l : Launch} {e : Env} {R : Room} {s : State} {m : MethodId} {args : Array Value} {below : List Frame} {meth : Method} {c : Code} {T : State} {locs : List Loc} {cells slots : Nat} {Z : State} {a0 : Array Value} {h h' : Heap} {a b : Addr} {n0 : Nat} {E E' : List (Addr × (Cell → Prop))} {P P' : Cell → Prop} {i : Nat} {sl : Nat} {v : Value}
/-- what is known of the heap: entries at different addresses, all made since the law began -/
def Wo (n0 : Nat) (h : Heap) (E : List (Addr × (Cell → Prop))) : Prop := n0 ≤ h.size ∧ (E.map Prod.fst).Nodup ∧ ∀ x ∈ E, n0 ≤ x.1 ∧ ∃ c : Cell, h[x.1]? = some c ∧ x.2 c
theorem Wo.nil (q : n0 ≤ h.size) : Wo n0 h [] := ⟨q, List.nodup_nil, fun _ q => nomatch q⟩
theorem Wo.at (W : Wo n0 h E) (hi : E[i]? = some (a, P)) : n0 ≤ a ∧ ∃ c : Cell, h[a]? = some c ∧ P c := W.2.2 (a, P) (List.mem_of_getElem? hi)
theorem Wo.lt (W : Wo n0 h E) {x : Addr × (Cell → Prop)} (hx : x ∈ E) : x.1 < h.size := by
  obtain ⟨-, c, hc, -⟩ := W.2.2 x hx
  exact (Array.getElem?_eq_some_iff.mp hc).1
theorem Wo.ext (W : Wo n0 h E) (X : Ext h h') : Wo n0 h' E := ⟨Nat.le_trans W.1 X.1, W.2.1, fun x hx => by
  obtain ⟨q, c, hc, hp⟩ := W.2.2 x hx
  exact ⟨q, c, X.2 _ _ hc, hp⟩⟩
theorem Wo.push (W : Wo n0 h E) (X : Ext h h') {c : Cell} (hc : h'[h.size]? = some c) (hp : P c) : Wo n0 h' ((h.size, P) :: E) := by
  have W' := W.ext X
  refine ⟨W'.1, ?_, fun x hx => ?_⟩
  · rw [List.map_cons, List.nodup_cons]
    refine ⟨fun q => ?_, W.2.1⟩
    obtain ⟨y, hy, ey⟩ := List.mem_map.mp q
    have h1 := W.lt hy
    rw [ey] at h1
    exact Nat.lt_irrefl _ h1
  · rcases List.mem_cons.mp hx with rfl | hx
    · exact ⟨W.1, c, hc, hp⟩
    · exact W'.2.2 x hx
theorem perm_front {α : Type} {x : α} : ∀ {L : List α} {i : Nat}, L[i]? = some x → (x :: L.eraseIdx i).Perm L
  | [], _, q => by simp at q
  | y :: L, 0, q => by
    have q' : y = x := by simpa using q
    subst q'
    exact List.Perm.refl _
  | y :: L, i + 1, q => (List.Perm.swap y x _).trans (List.Perm.cons y (perm_front (L := L) (i := i) (by simpa using q)))
theorem perm_set {α : Type} {L : List α} {i : Nat} (hl : i < L.length) (x : α) : (L.set i x).Perm (x :: L.eraseIdx i) := by
  rw [List.set_eq_take_append_cons_drop, if_pos hl, List.eraseIdx_eq_take_drop_succ]
  exact List.perm_middle
theorem Wo.perm (W : Wo n0 h E) (q : E'.Perm E) : Wo n0 h E' := ⟨W.1, (q.map _).nodup_iff.mpr W.2.1, fun x hx => W.2.2 x (q.mem_iff.mp hx)⟩
theorem Wo.front (W : Wo n0 h E) {x : Addr × (Cell → Prop)} (hi : E[i]? = some x) : Wo n0 h (x :: E.eraseIdx i) := by
  exact W.perm (perm_front hi)
theorem take_range {α : Type} : ∀ (n : Nat) (L : List α), (List.range n).filterMap (fun i => L[i]?) = L.take n := by
  intro n
  induction n with
  | zero => intro L; rfl
  | succ n ih =>
    intro L
    rw [List.range_succ, List.filterMap_append, ih, List.take_add_one]
    congr 1
theorem Wo.pick (W : Wo n0 h E) (is : List Nat) (n : Nat) (hp : is.Perm (List.range n)) (hE : is.filterMap (fun i => E[i]?) ++ E.drop n = E') : Wo n0 h E' := by
  subst hE
  refine W.perm ?_
  have q := (hp.filterMap (fun i => E[i]?)).append_right (E.drop n)
  rw [take_range, List.take_append_drop] at q
  exact q
theorem Wo.tail {x : Addr × (Cell → Prop)} (W : Wo n0 h (x :: E)) : Wo n0 h E := by
  have hn := W.2.1
  rw [List.map_cons, List.nodup_cons] at hn
  exact ⟨W.1, hn.2, fun y hy => W.2.2 y (List.mem_cons_of_mem _ hy)⟩
theorem Wo.weak (W : Wo n0 h ((a, P) :: E)) (q : ∀ c, P c → P' c) : Wo n0 h ((a, P') :: E) := by
  refine ⟨W.1, W.2.1, fun x hx => ?_⟩
  rcases List.mem_cons.mp hx with rfl | hx
  · obtain ⟨g, c, hc, hP⟩ := W.2.2 (a, P) List.mem_cons_self
    exact ⟨g, c, hc, q c hP⟩
  · exact W.2.2 x (List.mem_cons_of_mem _ hx)
theorem Wo.wr0 (W : Wo n0 h ((a, P) :: E)) (w : Wr h h' a sl v) (hp : ∀ c, P c → P' (c.setSlot sl v)) : Wo n0 h' ((a, P') :: E) := by
  have hn := W.2.1
  rw [List.map_cons, List.nodup_cons] at hn
  refine ⟨by rw [w.size]; exact W.1, by rw [List.map_cons, List.nodup_cons]; exact hn, fun x hx => ?_⟩
  rcases List.mem_cons.mp hx with rfl | hx
  · obtain ⟨q, c, hc, hP⟩ := W.2.2 (a, P) List.mem_cons_self
    obtain ⟨c', e1, -, -, -, -, -, e7⟩ := wr_at w hc
    exact ⟨q, c', e1, by rw [(e7 rfl).1]; exact hp c hP⟩
  · obtain ⟨q, c, hc, hP⟩ := W.2.2 x (List.mem_cons_of_mem _ hx)
    obtain ⟨c', e1, -, -, -, e5, -⟩ := wr_at w hc
    have ne : x.1 ≠ a := fun z => hn.1 (by have q := List.mem_map_of_mem (f := Prod.fst) hx; rw [z] at q; exact q)
    exact ⟨q, c', e1, by rw [e5 ne]; exact hP⟩
theorem Wo.wr (W : Wo n0 h E) (hi : E[i]? = some (a, P)) (w : Wr h h' a sl v) (hp : ∀ c, P c → P' (c.setSlot sl v)) : Wo n0 h' (E.set i (a, P')) := by
  have W1 := (W.front hi).wr0 w hp
  obtain ⟨hl, -⟩ := List.getElem?_eq_some_iff.mp hi
  exact W1.perm (perm_set hl _)
theorem Wo.kp (W : Wo n0 h E) (hi : E[i]? = some (a, P)) (K : Keep h h' [a]) {c : Cell} (hc : h'[a]? = some c) (hp : P' c) : Wo n0 h' (E.set i (a, P')) := by
  have W0 := W.front hi
  have hn := W0.2.1
  rw [List.map_cons, List.nodup_cons] at hn
  have W1 : Wo n0 h' ((a, P') :: E.eraseIdx i) := by
    refine ⟨Nat.le_trans W.1 K.1, by rw [List.map_cons, List.nodup_cons]; exact hn, fun x hx => ?_⟩
    rcases List.mem_cons.mp hx with rfl | hx
    · exact ⟨(W.at hi).1, c, hc, hp⟩
    · obtain ⟨q, c1, hc1, hP⟩ := W0.2.2 x (List.mem_cons_of_mem _ hx)
      have ne : x.1 ∉ [a] := fun z => hn.1 (by have q := List.mem_map_of_mem (f := Prod.fst) hx; rw [List.mem_singleton.mp z] at q; exact q)
      exact ⟨q, c1, K.2.1 _ _ hc1 ne, hP⟩
  obtain ⟨hl, -⟩ := List.getElem?_eq_some_iff.mp hi
  exact W1.perm (perm_set hl _)
/-- an object: her class, and what her fields hold -/
def Ob (Z : State) (C : String) (NS : List (String × String)) (vs : List Value) (c : Cell) : Prop :=
  (∃ k : Class, Z.vm.findClass C = some c.cls ∧ Z.vm.classes[c.cls]? = some k ∧ c.vm.isStatics = false ∧ (k.kind = .ordinary → c.slots.size = k.instanceTypes.size)) ∧
  ∀ (i : Nat) (x : String × String) (v : Value), NS[i]? = some x → vs[i]? = some v → ∃ (cf : ClassId) (k : Class) (j : Nat) (f : Field), Z.fieldFound? C x.1 x.2 = some (cf, k, j, f) ∧ f.isStatic = false ∧ c.vm ≠ .unknown ∧ c.vm.isStatics = false ∧ Z.vm.assignable c.cls cf = true ∧ c.slots[f.slot]? = some v
variable {C : String} {NS : List (String × String)} {vs : List Value}
theorem Wo.exa (W : Wo n0 h E) (hi : E[i]? = some (a, Ob Z C NS vs)) : Exa Z h a C := by
  obtain ⟨-, c, hc, ⟨k, h1, h2, h3, h4⟩, -⟩ := W.at hi
  exact ⟨c, k, hc, h1, h2, h3, h4⟩
theorem Wo.fld (W : Wo n0 h E) (hi : E[i]? = some (a, Ob Z C NS vs)) {j : Nat} {n d : String} (hn : NS[j]? = some (n, d)) (hv : vs[j]? = some v) : Fld Z h a C n d v := by
  obtain ⟨-, c, hc, -, hf⟩ := W.at hi
  obtain ⟨cf, k, q, f, r⟩ := hf j (n, d) v hn hv
  exact ⟨c, cf, k, q, f, hc, r⟩
def Dist (Z : State) (C : String) (NS : List (String × String)) : Prop := ∀ (i j : Nat) (x y : String × String), i ≠ j → NS[i]? = some x → NS[j]? = some y → Jvm.RoadKit.slotOf Z C x.1 x.2 ≠ Jvm.RoadKit.slotOf Z C y.1 y.2
theorem Dist.of (HL : ∀ x ∈ NS, Laid Z a0 C C x.1 x.2) (hn : (NS.map Prod.fst).Nodup) (ht : ∀ x ∈ NS, (parseFieldDescriptor x.2).isSome = true) : Dist Z C NS := by
  intro i j x y ne hx hy
  obtain ⟨t, et⟩ := Option.isSome_iff_exists.mp (ht x (List.mem_of_getElem? hx))
  obtain ⟨t', et'⟩ := Option.isSome_iff_exists.mp (ht y (List.mem_of_getElem? hy))
  refine slot_ne (HL x (List.mem_of_getElem? hx)) (HL y (List.mem_of_getElem? hy)) (fun q => ne ?_) et et'
  have h1 : (NS.map Prod.fst)[i]? = some x.1 := by rw [List.getElem?_map, hx]; rfl
  have h2 : (NS.map Prod.fst)[j]? = some y.1 := by rw [List.getElem?_map, hy]; rfl
  exact (List.getElem?_inj (List.getElem?_eq_some_iff.mp h1).1 hn).mp (h1.trans (q ▸ h2.symm))
theorem Ob.put {c : Cell} (D : Dist Z C NS) (O : Ob Z C NS vs c) {j : Nat} {n d : String} (hn : NS[j]? = some (n, d)) (v : Value) {old : Value} (hv : vs[j]? = some old) : Ob Z C NS (vs.set j v) (c.setSlot (Jvm.RoadKit.slotOf Z C n d) v) := by
  obtain ⟨⟨k, h1, h2, h3, h4⟩, hf⟩ := O
  refine ⟨⟨k, h1, h2, h3, fun q => by rw [sz_set]; exact h4 q⟩, fun i x w hx hw => ?_⟩
  by_cases ij : i = j
  · subst ij
    obtain rfl : x = (n, d) := Option.some.inj (hx.symm.trans hn)
    obtain ⟨cf, kk, q, f, r1, r2, r3, r4, r5, r6⟩ := hf i (n, d) old hx hv
    have hl := (List.getElem?_eq_some_iff.mp hv).1
    have hw' : w = v := by rw [List.getElem?_set_self hl] at hw; exact (Option.some.inj hw).symm
    have es : Jvm.RoadKit.slotOf Z C n d = f.slot := by simp [Jvm.RoadKit.slotOf, r1]
    refine ⟨cf, kk, q, f, r1, r2, r3, r4, r5, ?_⟩
    rw [es, hw']
    show (c.slots.setIfInBounds f.slot v)[f.slot]? = some v
    rw [Array.getElem?_setIfInBounds_self_of_lt (Array.getElem?_eq_some_iff.mp r6).1]
  · rw [List.getElem?_set_ne (Ne.symm ij)] at hw
    obtain ⟨cf, kk, q, f, r1, r2, r3, r4, r5, r6⟩ := hf i x w hx hw
    have es : Jvm.RoadKit.slotOf Z C x.1 x.2 = f.slot := by simp [Jvm.RoadKit.slotOf, r1]
    have hD := D i j x (n, d) ij hx hn
    rw [es] at hD
    refine ⟨cf, kk, q, f, r1, r2, r3, r4, r5, ?_⟩
    show (c.slots.setIfInBounds (Jvm.RoadKit.slotOf Z C n d) v)[f.slot]? = some w
    rw [Array.getElem?_setIfInBounds_ne (Ne.symm hD)]
    exact r6
theorem putW (X : Stand p l e R s m args below meth c T locs cells slots) (hx : p.tables.exec = Jvm.exec) (hZ : Z.Warmed39 s.vm) {own n d host : String} {index kk : Nat} {ty : FieldType} (hown : s.vm.findClass own = some m.cls) (w : (Cond.fieldLink own index C n d).before a0 Z = true ∨ (Cond.fieldLinkNest own index C n d host).before a0 Z = true)
    (eT : T.heap = h) (W : Wo n0 h E) (N : Fr n0 locs) (D : Dist Z C NS) (L : (Cond.lays C C n d).before a0 Z = true ∨ ((Cond.laysFinal C C n d).before a0 Z = true ∧ own = C ∧ meth.name = "<init>")) (wi : (Cond.instantiable C kk).before a0 Z = true) (hty : parseFieldDescriptor d = some ty)
    (hi : E[i]? = some (a, Ob Z C NS vs)) {j : Nat} (hn : NS[j]? = some (n, d)) {old : Value} (hv : vs[j]? = some old) (hnar : narrow ty v = v) (hfit : fits ty v = true) {g : JFrame} (hg : g.method = m) {rest : List Value} (hs : g.stack = v :: .ref a :: rest) (hd : decode c.code g.pc = .ok (.putfield index, 3)) :
    ∃ T' h' L', Stand p l e R s m args below meth c T' L' cells slots ∧ T'.heap = h' ∧ Fr n0 L' ∧ Wo n0 h' (E.set i (a, Ob Z C NS (vs.set j v))) ∧ ∀ target, Steps p.tables e below (T'.setTop { g with pc := g.pc + 3, stack := rest }) target → Steps p.tables e below (T.setTop g) target := by
  obtain ⟨T', h', X', e', w', st⟩ := putF X hx hZ hown (host := host) w Via.refl eT (W.fld hi hn hv) (W.exa hi) L wi hty hnar hfit hg hs hd
  exact ⟨T', h', _, X', e', Fr.snoc X' N (W.at hi).1, W.wr hi w' (fun c q => q.put D hn v hv), st⟩
theorem getR (X : Stand p l e R s m args below meth c T locs cells slots) (hx : p.tables.exec = Jvm.exec) (hZ : Z.Warmed39 s.vm) {own O n d : String} {index : Nat} (hown : s.vm.findClass own = some m.cls) (w : (Cond.fieldRef own index O n d).before a0 Z = true)
    (eT : T.heap = h) (F : Fld Z h a O n d v) {g : JFrame} (hg : g.method = m) {rest : List Value} (hs : g.stack = .ref a :: rest) (hd : decode c.code g.pc = .ok (.getfield index, 3)) : ∃ T', Stand p l e R s m args below meth c T' locs cells slots ∧ T'.heap = h ∧ ∀ target, Steps p.tables e below (T'.setTop { g with pc := g.pc + 3, stack := v :: rest }) target → Steps p.tables e below (T.setTop g) target := by
  obtain ⟨cell, cf, k, i, f, h1, h2, h3, h4, -, -, h7⟩ := F
  have hU : Z.Warmed39 T.vm := wtrans hZ X.warmed
  have w' := Cond.fieldRef_warmed39 hU w
  have hcur : (Z.setVm T.vm).vm.findClass own = some m.cls := by
    show T.vm.findClass own = _
    rw [X.warmed.alike.findClass]; exact hown
  obtain ⟨c', k', i', f', g1, g2⟩ := Cond.fieldRef_spec hcur w'
  obtain ⟨k2, q1, -⟩ := State.fieldFound?_setVm (s := Z) hU.alike h2
  cases g1.symm.trans q1
  refine ⟨T, X, eT, fun target hr => ?_⟩
  subst hg
  have hc : T.heap[a]? = some cell := by rw [eT]; exact h1
  jvm_step X.here [hx, hd, getfield.wp_ready (e := e) (s := T) (index := index) (c := cf) (a := a) (field := f) (rest := rest) (cell := cell) (v := v) (f := g) X.here.top g2 h3 hs hc h4 h7]
  exact hr
theorem newWO (X : Stand p l e R s m args below meth c T locs cells slots) (hx : p.tables.exec = Jvm.exec) (hZ : Z.Warmed39 s.vm) {own : String} {index n : Nat} (hown : s.vm.findClass own = some m.cls) (w : (Cond.classLink own index C).before a0 Z = true) (wi : (Cond.instantiable C n).before a0 Z = true) (wz : (Cond.initialized C).before a0 Z = true) (eT : T.heap = h) (W : Wo n0 h E)
    (HL : ∀ x ∈ NS, Laid Z a0 C C x.1 x.2) (hvs : NS.map (fun x => (parseFieldDescriptor x.2).map defaultValue) = vs.map some) {g : JFrame} (hg : g.method = m) (hd : decode c.code g.pc = .ok (.new index, 3)) (hc : cells + 1 ≤ R.cells) (hl : slots + n ≤ R.slots) :
    ∃ T' h' b, Stand p l e R s m args below meth c T' locs (cells + 1) (slots + n) ∧ T'.heap = h' ∧ Wo n0 h' ((b, Ob Z C NS vs) :: E) ∧ ∀ target, Steps p.tables e below (T'.setTop { g with pc := g.pc + 3, stack := .ref b :: g.stack }) target → Steps p.tables e below (T.setTop g) target := by
  obtain ⟨T', h', X', e', E', A, D, -, st⟩ := newO X hx hZ hown w wi wz eT hg hd hc hl
  obtain ⟨cell, k, h1, h2, h3, h4, h5⟩ := A
  refine ⟨T', h', h.size, X', e', W.push E' h1 ⟨⟨k, h2, h3, h4, h5⟩, fun i x v hx hv => ?_⟩, st⟩
  have q : (NS.map (fun x => (parseFieldDescriptor x.2).map defaultValue))[i]? = (vs.map some)[i]? := by rw [hvs]
  rw [List.getElem?_map, List.getElem?_map, hx, hv] at q
  have q' := Option.some.inj q
  obtain ⟨ty, t1, t2⟩ := Option.map_eq_some_iff.mp q'
  subst t2
  obtain ⟨c2, cf, kk, j, f, r1, r⟩ := D (HL x (List.mem_of_getElem? hx)) t1
  cases h1.symm.trans r1
  exact ⟨cf, kk, j, f, r⟩
/-- an array of n components: component k holds f k -/
def Ar (Z : State) (ty : FieldType) (n : Nat) (f : Nat → Value) (c : Cell) : Prop := Z.isArrayOf c ty ∧ c.vm ≠ .unknown ∧ c.slots.size = n ∧ n < 2 ^ 31 ∧ Z.vm.findClass ("[" ++ ty.toString) = some c.cls ∧ ∀ k, k < n → c.slots[k]? = some (f k) ∧ fits ty (f k) = true
def upd (f : Nat → Value) (j : Nat) (v : Value) : Nat → Value := fun k => if k = j then v else f k
theorem upd_same (f : Nat → Value) (j : Nat) (v : Value) : upd f j v j = v := if_pos rfl
theorem upd_other (f : Nat → Value) {j k : Nat} (v : Value) (q : k ≠ j) : upd f j v k = f k := if_neg q
variable {ty : FieldType} {n n' : Nat} {f f' : Nat → Value}
theorem Ar.set {c : Cell} (A : Ar Z ty n f c) (hv : fits ty v = true) (j : Nat) : Ar Z ty n (upd f j v) (c.setSlot j v) := by
  obtain ⟨h1, h2, h3, h4, h6, h5⟩ := A
  refine ⟨h1, h2, by rw [sz_set]; exact h3, h4, h6, fun k hk => ?_⟩
  by_cases q : k = j
  · subst q
    rw [upd_same]
    refine ⟨?_, hv⟩
    show (c.slots.setIfInBounds k v)[k]? = some v
    rw [Array.getElem?_setIfInBounds_self_of_lt (by rw [h3]; exact hk)]
  · rw [upd_other f v q]
    refine ⟨?_, (h5 k hk).2⟩
    show (c.slots.setIfInBounds j v)[k]? = some (f k)
    rw [Array.getElem?_setIfInBounds_ne (Ne.symm q)]
    exact (h5 k hk).1
theorem Ar.same {c : Cell} (A : Ar Z ty n f c) (q : ∀ k, k < n → f k = f' k) : Ar Z ty n f' c := by
  obtain ⟨h1, h2, h3, h4, h6, h5⟩ := A
  exact ⟨h1, h2, h3, h4, h6, fun k hk => by rw [← q k hk]; exact h5 k hk⟩
theorem Ar.new {k : ClassId} {z : Int32} (A : Arr Z h a (newA k ty z) ty) (hz : ¬ z < 0) (hn : z.toNatClampNeg = n) (hC : Exa Z h a ("[" ++ ty.toString)) : Ar Z ty n (fun _ => defaultValue ty) (newA k ty z) := by
  subst hn
  obtain ⟨c1, k1, q1, q2, -⟩ := hC
  cases A.1.symm.trans q1
  exact ⟨A.2.1, A.2.2, sz_new _ _ _, (back32 hz).2, q2, fun i hi => ⟨by simp [newA, hi], by cases ty <;> rfl⟩⟩
theorem out_of {c : Cell} {j : Int32} {k : Nat} (A3 : c.slots.size = n) (hj : ¬ j < 0) (hk : j.toNatClampNeg = k) (hl : k < n) : ¬ (j < 0 ∨ c.slots.size ≤ j.toNatClampNeg) := by
  rw [A3, hk]
  exact fun q => q.elim hj (fun q => absurd hl (Nat.not_lt.mpr q))
theorem ialW (X : Stand p l e R s m args below meth c T locs cells slots) (hx : p.tables.exec = Jvm.exec) (hZ : Z.Warmed39 s.vm) (eT : T.heap = h) (W : Wo n0 h E) (hi : E[i]? = some (a, Ar Z .int n f)) {j : Int32} {k : Nat} (hj : ¬ j < 0) (hk : j.toNatClampNeg = k) (hl : k < n) (hv : f k = v)
    {g : JFrame} (hg : g.method = m) {rest : List Value} (hs : g.stack = .int j :: .ref a :: rest) (hd : decode c.code g.pc = .ok (.iaload, 1)) (target : State)
    (hr : Steps p.tables e below (T.setTop { g with pc := g.pc + 1, stack := v :: rest }) target) : Steps p.tables e below (T.setTop g) target := by
  obtain ⟨-, c', hc, A1, A2, A3, A4, A6, A5⟩ := W.at hi
  exact X.iaload hx (by rw [eT]; exact hc) (State.isArrayOf_alike hZ.alike A1) A2 (out_of A3 hj hk hl) (by rw [hk, (A5 k hl).1, hv]) hg hs hd target hr
theorem dalW (X : Stand p l e R s m args below meth c T locs cells slots) (hx : p.tables.exec = Jvm.exec) (hZ : Z.Warmed39 s.vm) (eT : T.heap = h) (W : Wo n0 h E) (hi : E[i]? = some (a, Ar Z .double n f)) {j : Int32} {k : Nat} (hj : ¬ j < 0) (hk : j.toNatClampNeg = k) (hl : k < n) (hv : f k = v)
    {g : JFrame} (hg : g.method = m) {rest : List Value} (hs : g.stack = .int j :: .ref a :: rest) (hd : decode c.code g.pc = .ok (.daload, 1)) (target : State)
    (hr : Steps p.tables e below (T.setTop { g with pc := g.pc + 1, stack := v :: rest }) target) : Steps p.tables e below (T.setTop g) target := by
  obtain ⟨-, c', hc, A1, A2, A3, A4, A6, A5⟩ := W.at hi
  exact X.daload hx (by rw [eT]; exact hc) (State.isArrayOf_alike hZ.alike A1) A2 (out_of A3 hj hk hl) (by rw [hk, (A5 k hl).1, hv]) hg hs hd target hr
theorem balW (X : Stand p l e R s m args below meth c T locs cells slots) (hx : p.tables.exec = Jvm.exec) (hZ : Z.Warmed39 s.vm) (eT : T.heap = h) (W : Wo n0 h E) (hi : E[i]? = some (a, Ar Z .byte n f)) {j : Int32} {k : Nat} (hj : ¬ j < 0) (hk : j.toNatClampNeg = k) (hl : k < n) (hv : f k = v)
    {g : JFrame} (hg : g.method = m) {rest : List Value} (hs : g.stack = .int j :: .ref a :: rest) (hd : decode c.code g.pc = .ok (.baload, 1)) (target : State)
    (hr : Steps p.tables e below (T.setTop { g with pc := g.pc + 1, stack := v :: rest }) target) : Steps p.tables e below (T.setTop g) target := by
  obtain ⟨-, c', hc, A1, A2, A3, A4, A6, A5⟩ := W.at hi
  exact X.baloadBytes hx (by rw [eT]; exact hc) (State.isArrayOf_alike hZ.alike A1) A2 (out_of A3 hj hk hl) (by rw [hk, (A5 k hl).1, hv]) hg hs hd target hr
theorem aalW (X : Stand p l e R s m args below meth c T locs cells slots) (hx : p.tables.exec = Jvm.exec) (hZ : Z.Warmed39 s.vm) (eT : T.heap = h) (W : Wo n0 h E) (hi : E[i]? = some (a, P)) (hP : ∀ c, P c → Ar Z ty n f c) (hty : ty.isReference = true) {j : Int32} {k : Nat} (hj : ¬ j < 0) (hk : j.toNatClampNeg = k) (hl : k < n) (hv : f k = v)
    {g : JFrame} (hg : g.method = m) {rest : List Value} (hs : g.stack = .int j :: .ref a :: rest) (hd : decode c.code g.pc = .ok (.aaload, 1)) (target : State)
    (hr : Steps p.tables e below (T.setTop { g with pc := g.pc + 1, stack := v :: rest }) target) : Steps p.tables e below (T.setTop g) target := by
  obtain ⟨-, c', hc, hp⟩ := W.at hi
  obtain ⟨A1, A2, A3, A4, A6, A5⟩ := hP c' hp
  exact X.aaload hx (by rw [eT]; exact hc) (State.isArrayOf_alike hZ.alike A1) hty A2 (out_of A3 hj hk hl) (by rw [hk, (A5 k hl).1, hv]) hg hs hd target hr
theorem lenW (X : Stand p l e R s m args below meth c T locs cells slots) (hx : p.tables.exec = Jvm.exec) (hZ : Z.Warmed39 s.vm) (eT : T.heap = h) (W : Wo n0 h E) (hi : E[i]? = some (a, P)) (hP : ∀ c, P c → Ar Z ty n f c) {z : Int32} (hz : n.toInt32 = z)
    {g : JFrame} (hg : g.method = m) {rest : List Value} (hs : g.stack = .ref a :: rest) (hd : decode c.code g.pc = .ok (.arraylength, 1)) (target : State)
    (hr : Steps p.tables e below (T.setTop { g with pc := g.pc + 1, stack := .int z :: rest }) target) : Steps p.tables e below (T.setTop g) target := by
  obtain ⟨-, c', hc, hp⟩ := W.at hi
  obtain ⟨A1, A2, A3, A4, A6, A5⟩ := hP c' hp
  exact X.arraylength hx (cell := c') (by rw [eT]; exact hc) (State.isArrayOf_alike hZ.alike A1) hg hs hd target (by rw [A3, hz]; exact hr)
theorem iasW (X : Stand p l e R s m args below meth c T locs cells slots) (hx : p.tables.exec = Jvm.exec) (hZ : Z.Warmed39 s.vm) (eT : T.heap = h) (W : Wo n0 h E) (N : Fr n0 locs) (hi : E[i]? = some (a, Ar Z .int n f)) {j x : Int32} {k : Nat} (hj : ¬ j < 0) (hk : j.toNatClampNeg = k) (hl : k < n)
    {g : JFrame} (hg : g.method = m) {rest : List Value} (hs : g.stack = .int x :: .int j :: .ref a :: rest) (hd : decode c.code g.pc = .ok (.iastore, 1)) :
    ∃ T' h' L', Stand p l e R s m args below meth c T' L' cells slots ∧ T'.heap = h' ∧ Fr n0 L' ∧ Wo n0 h' (E.set i (a, Ar Z .int n (upd f k (.int x)))) ∧ ∀ target, Steps p.tables e below (T'.setTop { g with pc := g.pc + 1, stack := rest }) target → Steps p.tables e below (T.setTop g) target := by
  obtain ⟨hge, c', hc, A⟩ := W.at hi
  obtain ⟨T', h', X', e', w', st⟩ := stI X hx hZ eT (a := a) (cl := c') ⟨hc, A.1, A.2.1⟩ (out_of A.2.2.1 hj hk hl) hg hs hd
  rw [hk] at w'
  exact ⟨T', h', _, X', e', Fr.snoc X' N hge, W.wr hi w' (fun c q => q.set rfl k), st⟩
theorem dasW (X : Stand p l e R s m args below meth c T locs cells slots) (hx : p.tables.exec = Jvm.exec) (hZ : Z.Warmed39 s.vm) (eT : T.heap = h) (W : Wo n0 h E) (N : Fr n0 locs) (hi : E[i]? = some (a, Ar Z .double n f)) {j : Int32} {x : UInt64} {k : Nat} (hj : ¬ j < 0) (hk : j.toNatClampNeg = k) (hl : k < n)
    {g : JFrame} (hg : g.method = m) {rest : List Value} (hs : g.stack = .double x :: .int j :: .ref a :: rest) (hd : decode c.code g.pc = .ok (.dastore, 1)) :
    ∃ T' h' L', Stand p l e R s m args below meth c T' L' cells slots ∧ T'.heap = h' ∧ Fr n0 L' ∧ Wo n0 h' (E.set i (a, Ar Z .double n (upd f k (.double x)))) ∧ ∀ target, Steps p.tables e below (T'.setTop { g with pc := g.pc + 1, stack := rest }) target → Steps p.tables e below (T.setTop g) target := by
  obtain ⟨hge, c', hc, A⟩ := W.at hi
  obtain ⟨T', h', X', e', w', st⟩ := stD X hx hZ eT (a := a) (cl := c') ⟨hc, A.1, A.2.1⟩ (out_of A.2.2.1 hj hk hl) hg hs hd
  rw [hk] at w'
  exact ⟨T', h', _, X', e', Fr.snoc X' N hge, W.wr hi w' (fun c q => q.set rfl k), st⟩
theorem basW (X : Stand p l e R s m args below meth c T locs cells slots) (hx : p.tables.exec = Jvm.exec) (hZ : Z.Warmed39 s.vm) (eT : T.heap = h) (W : Wo n0 h E) (N : Fr n0 locs) (hi : E[i]? = some (a, Ar Z .byte n f)) {j x : Int32} {k : Nat} (hj : ¬ j < 0) (hk : j.toNatClampNeg = k) (hl : k < n)
    {g : JFrame} (hg : g.method = m) {rest : List Value} (hs : g.stack = .int x :: .int j :: .ref a :: rest) (hd : decode c.code g.pc = .ok (.bastore, 1)) :
    ∃ T' h' L', Stand p l e R s m args below meth c T' L' cells slots ∧ T'.heap = h' ∧ Fr n0 L' ∧ Wo n0 h' (E.set i (a, Ar Z .byte n (upd f k (.int x.toInt8.toInt32)))) ∧ ∀ target, Steps p.tables e below (T'.setTop { g with pc := g.pc + 1, stack := rest }) target → Steps p.tables e below (T.setTop g) target := by
  obtain ⟨hge, c', hc, A⟩ := W.at hi
  obtain ⟨T', h', X', e', w', st⟩ := stB X hx hZ eT (a := a) (cl := c') ⟨hc, A.1, A.2.1⟩ (out_of A.2.2.1 hj hk hl) hg hs hd
  rw [hk] at w'
  exact ⟨T', h', _, X', e', Fr.snoc X' N hge, W.wr hi w' (fun c q => q.set (fits_nar_byte x) k), st⟩
theorem newWA (X : Stand p l e R s m args below meth c T locs cells slots) (hx : p.tables.exec = Jvm.exec) (hZ : Z.Warmed39 s.vm) {aty : ArrayType} (hty : newarray.typeOf aty = ty) (w : (Cond.arrayClass ty).before a0 Z = true) (eT : T.heap = h) (W : Wo n0 h E) {g : JFrame} (hg : g.method = m) (hd : decode c.code g.pc = .ok (.newarray aty, 2)) {z : Int32} {rest : List Value} (hs : g.stack = .int z :: rest)
    (hz : ¬ z < 0) (hn : z.toNatClampNeg = n) {cap : Nat} (hcap : n ≤ cap) (hb : cap * 8 ≤ 536870912) (hc : cells + 1 ≤ R.cells) (hl : slots + cap ≤ R.slots) :
    ∃ T' h' b, Stand p l e R s m args below meth c T' locs (cells + 1) (slots + cap) ∧ T'.heap = h' ∧ Wo n0 h' ((b, Ar Z ty n (fun _ => defaultValue ty)) :: E) ∧ ∀ target, Steps p.tables e below (T'.setTop { g with pc := g.pc + 2, stack := .ref b :: rest }) target → Steps p.tables e below (T.setTop g) target := by
  subst hty
  obtain ⟨T', h', cA, X', e', E', A, B, st⟩ := newPE X hx hZ w eT hg hd hs hz (by rw [hn]; exact hcap) hb hc hl rfl
  exact ⟨T', h', h.size, X', e', W.push E' A.1 (Ar.new A hz hn B), st⟩
/-- what an array's copy leaves -/
def cpy (f g : Nat → Value) (sp dp nn : Nat) : Nat → Value := fun k => if dp ≤ k ∧ k < dp + nn then f (sp + (k - dp)) else g k
theorem toNat_of (hn : n < 2 ^ 31) : n.toInt32.toNatClampNeg = n ∧ ¬ n.toInt32 < 0 := by
  have q : n.toInt32.toInt = n := len_toInt hn
  refine ⟨by simp only [Int32.toNatClampNeg, q]; rfl, ?_⟩
  rw [Int32.lt_iff_toInt_lt, q]
  show ¬ (n : Int) < 0
  omega
theorem getD_range (f : Nat → Value) (n k : Nat) (d : Value) (hk : k < n) : ((List.range n).map f).getD k d = f k := by
  rw [List.getD_eq_getElem?_getD, List.getElem?_map, List.getElem?_range hk]; rfl
theorem Ar.arv {c : Cell} (A : Ar Z ty n f c) (hc : h[a]? = some c) (d : Value) : Arv Z h a c.cls ty n.toInt32 ((List.range n).map f) d := by
  obtain ⟨A1, A2, A3, A4, A6, A5⟩ := A
  obtain ⟨q1, q2⟩ := toNat_of A4
  exact ⟨c, ⟨hc, A1, A2⟩, rfl, by rw [q1]; exact A3, q2, fun k hk => by rw [A3] at hk; rw [getD_range f n k d hk]; exact (A5 k hk).1, fun k hk => by rw [A3] at hk; rw [getD_range f n k d hk]; exact (A5 k hk).2⟩
theorem Ar.of_arv {k : ClassId} {d : Value} {vs : List Value} (B : Arv Z h a k ty n.toInt32 vs d) (hn : n < 2 ^ 31) (hk : Z.vm.findClass ("[" ++ ty.toString) = some k) (hf : ∀ k, k < n → vs.getD k d = f k) : ∃ c : Cell, h[a]? = some c ∧ Ar Z ty n f c := by
  obtain ⟨c, A, rfl, S, -, H, G⟩ := B
  rw [(toNat_of hn).1] at S
  exact ⟨c, A.1, A.2.1, A.2.2, S, hn, hk, fun k hk => by rw [← hf k hk]; exact ⟨H k (by rw [S]; exact hk), G k (by rw [S]; exact hk)⟩⟩
theorem cpW (X : Stand p l e R s m args below meth c T locs cells slots) (hx : p.tables.exec = Jvm.exec) (hZ : Z.Warmed39 s.vm) {own : String} {index : Nat} (hown : s.vm.findClass own = some m.cls)
    (w1 : (Cond.methodLink own index Jvm.Stand.acN).before a0 Z = true) (w2 : (Cond.native Jvm.Stand.acN).before a0 Z = true) (w3 : (Cond.static Jvm.Stand.acN).before a0 Z = true) (w4 : (Cond.initialized "java/lang/System").before a0 Z = true) (eT : T.heap = h) (W : Wo n0 h E) (N : Fr n0 locs)
    {j : Nat} (hi : E[i]? = some (a, Ar Z ty n f)) (hj : E[j]? = some (b, Ar Z ty n' f')) (hty : refKind ty = false) {sp dp nn : Int32} {s' d' k' : Nat} (h1 : ¬ sp < 0) (h2 : ¬ dp < 0) (h3 : ¬ nn < 0) (es : sp.toNatClampNeg = s') (ed : dp.toNatClampNeg = d') (ek : nn.toNatClampNeg = k') (h4 : s' + k' ≤ n) (h5 : d' + k' ≤ n')
    {g : JFrame} (hg : g.method = m) (hsize : g.locals.size = c.maxLocals) {rest : List Value} (hs : g.stack = .int nn :: .int dp :: .ref b :: .int sp :: .ref a :: rest) (hd : decode c.code g.pc = .ok (.invokestatic index, 3))
    (hf : 1 ≤ R.frames) {W0 : Nat} (hW : 2 * g.monitorRoom + (rest.map fun v => v.category).sum ≤ W0) (hlo : W0 + (nativeFrameWords "java/lang/System" "arraycopy" 5 + 11) ≤ R.locals) :
    ∃ T' h' L', Stand p l e R s m args below meth c T' L' cells slots ∧ T'.heap = h' ∧ Fr n0 L' ∧ Wo n0 h' (E.set j (b, Ar Z ty n' (cpy f f' s' d' k'))) ∧ ∀ target, Steps p.tables e below (T'.setTop { g with pc := g.pc + 3, stack := rest }) target → Steps p.tables e below (T.setTop g) target := by
  obtain ⟨-, c1, hc1, A⟩ := W.at hi
  obtain ⟨ge, c2, hc2, B⟩ := W.at hj
  have nA := A.2.2.2.1
  have nB := B.2.2.2.1
  obtain ⟨T', h', L, X', e', N', K, V, st⟩ := cpA X hx hZ hown w1 w2 w3 w4 eT (A.arv hc1 .null) (B.arv hc2 .null) (us := (List.range nn.toNatClampNeg).map fun i => ((List.range n).map f).getD (sp.toNatClampNeg + i) .null) (Or.inl ⟨rfl, hty⟩) h1 h2 h3
    (by rw [(toNat_of nA).1, es, ek]; exact h4) (by rw [(toNat_of nB).1, ed, ek]; exact h5) rfl (by rw [List.length_map, List.length_range, ed, ek]; exact h5) N ge hg hsize hs hd hf hW hlo
  subst es ed ek
  obtain ⟨c', hc', A'⟩ := Ar.of_arv (f := cpy f f' sp.toNatClampNeg dp.toNatClampNeg nn.toNatClampNeg) V nB B.2.2.2.2.1 (fun k hk => by
    simp only [List.getD_eq_getElem?_getD, cpy]
    by_cases q1 : k < dp.toNatClampNeg
    · rw [if_neg (fun z => absurd z.1 (Nat.not_le.mpr q1))]
      rw [List.append_assoc, List.getElem?_append_left (by rw [List.length_take, List.length_map, List.length_range]; omega)]
      rw [List.getElem?_take_of_lt q1, List.getElem?_map, List.getElem?_range hk]; rfl
    · by_cases q2 : k < dp.toNatClampNeg + nn.toNatClampNeg
      · rw [if_pos ⟨Nat.le_of_not_lt q1, q2⟩]
        have l1 : (((List.range n').map f').take dp.toNatClampNeg).length = dp.toNatClampNeg := by rw [List.length_take, List.length_map, List.length_range]; omega
        rw [List.append_assoc, List.getElem?_append_right (by rw [l1]; omega), l1, List.getElem?_append_left (by rw [List.length_map, List.length_range]; omega)]
        rw [List.getElem?_map, List.getElem?_range (by omega)]
        show (((List.range n).map f)[sp.toNatClampNeg + (k - dp.toNatClampNeg)]?).getD .null = _
        rw [List.getElem?_map, List.getElem?_range (by omega)]; rfl
      · rw [if_neg (fun z => q2 z.2)]
        have l1 : (((List.range n').map f').take dp.toNatClampNeg).length = dp.toNatClampNeg := by rw [List.length_take, List.length_map, List.length_range]; omega
        rw [List.append_assoc, List.getElem?_append_right (by rw [l1]; omega), l1, List.getElem?_append_right (by rw [List.length_map, List.length_range]; omega), List.length_map, List.length_range, List.getElem?_drop]
        rw [show dp.toNatClampNeg + nn.toNatClampNeg + (k - dp.toNatClampNeg - nn.toNatClampNeg) = k by omega, List.getElem?_map, List.getElem?_range hk]; rfl)
  exact ⟨T', h', L, X', e', N', W.kp hj K hc' A', st⟩
/-- an array of arrays -/
def Pg (Z : State) (t : FieldType) (n : Nat) (f : Nat → Value) (c : Cell) : Prop := Ar Z (.array t) n f c ∧ OvrA Z c.cls t (FieldType.array t).toString
theorem Pg.set {c : Cell} {t : FieldType} (A : Pg Z t n f c) (hv : fits (.array t) v = true) (j : Nat) : Pg Z t n (upd f j v) (c.setSlot j v) := ⟨A.1.set hv j, A.2⟩
theorem Wo.sto {t : FieldType} {j : Nat} (W : Wo n0 h E) (hi : E[i]? = some (a, Pg Z t n f)) (hj : E[j]? = some (b, Ar Z t n' f')) : Sto Z h a (.ref b) := by
  obtain ⟨-, c1, hc1, A, O⟩ := W.at hi
  obtain ⟨-, c2, hc2, B⟩ := W.at hj
  have hB : Arr Z h b c2 t := ⟨hc2, B.1, B.2.1⟩
  refine Sto.ofVA (cl := c1) ⟨hc1, A.1, A.2.1⟩ rfl O ⟨c2, c2.cls, hc2, B.2.2.2.2.1, ?_⟩
  simp [hB.plain, Vm.assignable_self]
theorem aasW (X : Stand p l e R s m args below meth c T locs cells slots) (hx : p.tables.exec = Jvm.exec) (hZ : Z.Warmed39 s.vm) (eT : T.heap = h) (W : Wo n0 h E) (N : Fr n0 locs) {t : FieldType} (hi : E[i]? = some (a, Pg Z t n f)) {j : Int32} {k : Nat} (hj : ¬ j < 0) (hk : j.toNatClampNeg = k) (hl : k < n) (hf : fits (.array t) v = true) (F : Sto Z h a v)
    {g : JFrame} (hg : g.method = m) {rest : List Value} (hs : g.stack = v :: .int j :: .ref a :: rest) (hd : decode c.code g.pc = .ok (.aastore, 1)) :
    ∃ T' h' L', Stand p l e R s m args below meth c T' L' cells slots ∧ T'.heap = h' ∧ Fr n0 L' ∧ Wo n0 h' (E.set i (a, Pg Z t n (upd f k v))) ∧ ∀ target, Steps p.tables e below (T'.setTop { g with pc := g.pc + 1, stack := rest }) target → Steps p.tables e below (T.setTop g) target := by
  obtain ⟨hge, c', hc, A, O⟩ := W.at hi
  obtain ⟨T', h', X', e', w', st⟩ := stR X hx hZ eT (a := a) (cl := c') (ty := .array t) ⟨hc, A.1, A.2.1⟩ (out_of A.2.2.1 hj hk hl) rfl F hg hs hd
  rw [hk] at w'
  exact ⟨T', h', _, X', e', Fr.snoc X' N hge, W.wr hi w' (fun c q => q.set hf k), st⟩
theorem newWR (X : Stand p l e R s m args below meth c T locs cells slots) (hx : p.tables.exec = Jvm.exec) (hZ : Z.Warmed39 s.vm) {own C : String} {t : FieldType} {index : Nat} (hown : s.vm.findClass own = some m.cls) (hC : (FieldType.array t).toString = C) (w1 : (Cond.classLink own index C).before a0 Z = true) (w2 : (Cond.arrayOver (.array t)).before a0 Z = true)
    (eT : T.heap = h) (W : Wo n0 h E) {g : JFrame} (hg : g.method = m) (hd : decode c.code g.pc = .ok (.anewarray index, 3)) {z : Int32} {rest : List Value} (hs : g.stack = .int z :: rest) (hz : ¬ z < 0) (hn : z.toNatClampNeg = n) {cap : Nat} (hcap : n ≤ cap) (hb : cap * 8 ≤ 536870912) (hc : cells + 1 ≤ R.cells) (hl : slots + cap ≤ R.slots) :
    ∃ T' h' b, Stand p l e R s m args below meth c T' locs (cells + 1) (slots + cap) ∧ T'.heap = h' ∧ Wo n0 h' ((b, Pg Z t n (fun _ => .null)) :: E) ∧ ∀ target, Steps p.tables e below (T'.setTop { g with pc := g.pc + 3, stack := .ref b :: rest }) target → Steps p.tables e below (T.setTop g) target := by
  subst hC
  obtain ⟨T', h', cA, X', e', E', A, B, O, st⟩ := newRA X hx hZ hown rfl w1 w2 eT hg hd hs hz (by rw [hn]; exact hcap) hb hc hl rfl
  exact ⟨T', h', h.size, X', e', W.push E' A.1 ⟨Ar.new A hz hn B, O⟩, st⟩
/-- the run comes from the frame F0 at S to the frame F at T -/
def Rch (p : Program) (e : Env) (below : List Frame) (S : State) (F0 : JFrame) (T : State) (F : JFrame) : Prop := ∀ t, Steps p.tables e below (T.setTop F) t → Steps p.tables e below (S.setTop F0) t
abbrev Rch.g {p : Program} {e : Env} {below : List Frame} {S : State} {F0 : JFrame} {T : State} {F : JFrame} (_ : Rch p e below S F0 T F) : JFrame := F
abbrev Rc {p : Program} {e : Env} {below : List Frame} {S : State} {F0 : JFrame} {T : State} {F : JFrame} (_ : Rch p e below S F0 T F) (T' : State) (F' : JFrame) : Prop := Rch p e below S F0 T' F'
abbrev kI (z : Int32) : Value := .int z
abbrev kJ (z : Int64) : Value := .long z
abbrev kD (z : UInt64) : Value := .double z
abbrev kR (a : Addr) : Value := .ref a
abbrev sI (z : Int32) : Slot := .val (.int z)
abbrev sJ (z : Int64) : Slot := .val (.long z)
abbrev sD (z : UInt64) : Slot := .val (.double z)
abbrev sR (a : Addr) : Slot := .val (.ref a)
abbrev sU : Slot := .unset
abbrev sV : Slot := .second
def zI : Nat → Value := fun _ => .int 0
def zD : Nat → Value := fun _ => .double 0
def zN : Nat → Value := fun _ => .null
theorem mi {α : Type} {L : List α} {d : α} (i : Nat) (h : L[i]? = some d) : d ∈ L := List.mem_of_getElem? h
theorem all0 {α : Type} {Q : α → Prop} : ∀ x ∈ ([] : List α), Q x := fun _ q => nomatch q
theorem allS {α : Type} {Q : α → Prop} {y : α} {L : List α} (q : Q y) (r : ∀ x ∈ L, Q x) : ∀ x ∈ y :: L, Q x := fun x z => (List.mem_cons.mp z).elim (fun u => u ▸ q) (r x)
theorem retA (X : Stand p l e R s m args below meth c T locs cells slots) (hx : p.tables.exec = Jvm.exec) {pc : Nat} {Ls : Array Slot} {t : FieldType} {rest : List Value} (hret : meth.sig.returnType = some t) (ht : t.isReference = true) (hd : decode c.code pc = .ok (.areturn, 1)) {fs : List Frame}
    (hl : ∀ (f : JFrame) (acts : List Action), f.method = m → f.locked = none → f.entered = [] → (doReturn e (T.setTop f) acts (some (.ref a))).1 = T.setFrames fs) : Steps p.tables e below (T.setTop (mkF m pc Ls (.ref a :: rest))) (T.setFrames fs) := by
  have hm' : T.vm.method? m = some meth := X.method'
  show Steps p.tables e below (T.setTop { method := m, pc := pc, locals := Ls, stack := _ :: rest, locked := none }) _
  jvm_step X.here [X.here.top, hx, hd, hm', hret, Value.isRef, ht]
  first | (intro acts; rw [hl _ acts rfl rfl rfl]) | rw [hl _ _ rfl rfl rfl]
  exact Steps.refl _
theorem retD (X : Stand p l e R s m args below meth c T locs cells slots) (hx : p.tables.exec = Jvm.exec) {pc : Nat} {Ls : Array Slot} {z : UInt64} {rest : List Value} (hret : meth.sig.returnType = some .double) (hd : decode c.code pc = .ok (.dreturn, 1)) {fs : List Frame}
    (hl : ∀ (f : JFrame) (acts : List Action), f.method = m → f.locked = none → f.entered = [] → (doReturn e (T.setTop f) acts (some (.double z))).1 = T.setFrames fs) : Steps p.tables e below (T.setTop (mkF m pc Ls (.double z :: rest))) (T.setFrames fs) := by
  have hm' : T.vm.method? m = some meth := X.method'
  have hn : narrow .double (.double z) = .double z := rfl
  show Steps p.tables e below (T.setTop { method := m, pc := pc, locals := Ls, stack := _ :: rest, locked := none }) _
  jvm_step X.here [X.here.top, hx, hd, hm', hret, hn]
  first | (intro acts; rw [hl _ acts rfl rfl rfl]) | rw [hl _ _ rfl rfl rfl]
  exact Steps.refl _
theorem retL (X : Stand p l e R s m args below meth c T locs cells slots) (hx : p.tables.exec = Jvm.exec) {pc : Nat} {Ls : Array Slot} {z : Int64} {rest : List Value} (hret : meth.sig.returnType = some .long) (hd : decode c.code pc = .ok (.lreturn, 1)) {fs : List Frame}
    (hl : ∀ (f : JFrame) (acts : List Action), f.method = m → f.locked = none → f.entered = [] → (doReturn e (T.setTop f) acts (some (.long z))).1 = T.setFrames fs) : Steps p.tables e below (T.setTop (mkF m pc Ls (.long z :: rest))) (T.setFrames fs) := by
  have hm' : T.vm.method? m = some meth := X.method'
  have hn : narrow .long (.long z) = .long z := rfl
  show Steps p.tables e below (T.setTop { method := m, pc := pc, locals := Ls, stack := _ :: rest, locked := none }) _
  jvm_step X.here [X.here.top, hx, hd, hm', hret, hn]
  first | (intro acts; rw [hl _ acts rfl rfl rfl]) | rw [hl _ _ rfl rfl rfl]
  exact Steps.refl _
theorem privB (X : Stand p l e R s m args below meth c T locs cells slots) (hx : p.tables.exec = Jvm.exec) {own : String} {index kk : Nat} {y : MethodName} {bytes : ByteArray} {maxL : Nat} {ret : Option FieldType}
    (hown : s.vm.findClass own = some m.cls) (hlink : (Cond.methodLink own index y).before args s = true) (hinst : (Cond.instanceMethod y).before args s = true) (hplain : (Cond.instantiable y.cls kk).before args s = true)
    (hpriv : s.PrivateAt y) (hcode : (Cond.code y bytes maxL ret).before args s = true) (hy : y.cls ≠ "java/lang/invoke/MethodHandle" ∧ y.cls ≠ "java/lang/invoke/VarHandle")
    {W : Nat} {Pre : Free.Pt → Array Value → Prop} {Post : Free.Pt → Array Value → Option Value → Free.Pt → Prop} (hK : Free.Back l R p e below s args y 3 W Pre Post)
    {g : JFrame} (hg : g.method = m) (hsize : g.locals.size = c.maxLocals) {s₀ : State} (hcome : Steps p.tables e below s₀ (T.setTop g)) {cell : Cell} (hcell : T.heap[a]? = some cell) (hobj : ∀ q, cell.vm ≠ .statics q)
    {argsL rest : List Value} (hlen : ∀ sig, parseMethodDescriptor y.desc = some sig → argsL.length = sig.parameters.length)
    (hstack : g.stack = argsL.reverse ++ .ref a :: rest) (hW : 2 * g.monitorRoom + (rest.map fun v => v.category).sum ≤ W) (hdg : decode c.code g.pc = .ok (.invokevirtual index, 3))
    (hpre : ∀ vm₁, s.WarmedH vm₁ → Pre ⟨T.setVm vm₁, locs, cells, slots⟩ (.ref a :: argsL).toArray) :
    ∃ (v : Option Value) (vm₁ : Vm) (B : Free.Pt), s.WarmedH vm₁ ∧ Stand p l e R s m args below meth c B.U B.locs B.cells B.slots ∧ Post ⟨T.setVm vm₁, locs, cells, slots⟩ (.ref a :: argsL).toArray v B ∧
      Steps p.tables e below s₀ (B.U.setTop { g with pc := g.pc + 3, stack := v.toList ++ rest }) := by
  obtain ⟨mk, methM, hnamed, hmethM, hstM, habM⟩ := Cond.instanceMethod_spec hinst
  obtain ⟨methM', cM, hmethM', -, -, -, -, -, -, hsigM⟩ := Cond.code_spec hnamed hcode
  cases hmethM.symm.trans hmethM'
  obtain ⟨c2, kP, q1, q2, -, q4, -⟩ := Cond.instantiable_spec hplain
  have q5 := findClass_of_methodNamed hnamed
  cases q1.symm.trans q5
  have hkPi : kP.isInterface = false := by cases hq : kP.isInterface <;> simp [hq] at q4 ⊢
  have hselP : selectMethod e.platform s.vm cell.cls mk = .method mk := selectMethod_private hmethM (hpriv mk methM hnamed hmethM)
  obtain ⟨vm₁, X₁, hstep₁⟩ := X.invokevirtual hx hown hlink hnamed hmethM hstM q2 hkPi hy (a := a) (cell := cell) hcell hobj hselP hmethM habM q2 hkPi (g := g) hg (argsL := argsL) (rest := rest) (hlen _ hsigM) hstack hdg
  have hW₁ : s.WarmedH vm₁ := X₁.warmed
  obtain ⟨v, B, X', hpost, hsteps⟩ := hK m meth c ⟨T.setVm vm₁, locs, cells, slots⟩ { g with stack := rest } (.invokevirtual index) mk (.ref a :: argsL).toArray X₁ hg hsize hdg hW (X₁.named hnamed) (hpre vm₁ hW₁)
  exact ⟨v, vm₁, B, hW₁, X', hpost, (hcome.trans (hstep₁ _ fun acts => by rw [doInvoke_state]; exact Steps.refl _)).trans hsteps⟩
end Kit
end Jvm.OwnKit
namespace Jvm.Pilot.@@N@@
open Jvm Jvm.ClassFile Sem Op Lib Jvm.Free Jvm.Stand Jvm.LawKit Jvm.RoadKit Bundle Jvm.Pilot.@@N@@.Jvm.D
open Jvm.OwnKit (Wo Ob Ar Pg Dist upd upd_same upd_other cpy getR putW newWO newWA newWR ialW dalW balW aalW lenW iasW dasW basW aasW cpW Rch zI zD zN mi Rc kI kJ kD kR sI sJ sD sR sU sV)
theorem own_add (a b : Nat) : Int32.ofNat a + Int32.ofNat b = Int32.ofNat (a + b) := (Int32.ofNat_add a b).symm
theorem own_int {a : Nat} (h : a < 2147483648) : (Int32.ofNat a).toInt = a := Int32.toInt_ofNat_of_lt h
theorem own_sub {a b : Nat} (h : b ≤ a) (ha : a < 2147483648) : Int32.ofNat a - Int32.ofNat b = Int32.ofNat (a - b) := by
  apply Int32.toInt_inj.mp
  have h1 := c_isub (Int32.ofNat a) (Int32.ofNat b)
  have h2 := rng32 (Int32.ofNat a - Int32.ofNat b)
  rw [own_int ha, own_int (by omega)] at h1
  rw [own_int (by omega)]
  omega
theorem own_lt {a b : Nat} (h : a < b) (hb : b < 2147483648) : Int32.ofNat a < Int32.ofNat b := by
  rw [Int32.lt_iff_toInt_lt, own_int (by omega), own_int hb]; omega
theorem own_nlt {a b : Nat} (h : b ≤ a) (ha : a < 2147483648) : ¬ (Int32.ofNat a < Int32.ofNat b) := by
  rw [Int32.lt_iff_toInt_lt, own_int ha, own_int (by omega)]; omega
theorem own_ne {a b : Nat} (h : a ≠ b) (ha : a < 2147483648) (hb : b < 2147483648) : ¬ (Int32.ofNat a = Int32.ofNat b) := fun q => by
  have q' := congrArg Int32.toInt q
  rw [own_int ha, own_int hb] at q'; omega
theorem own_nn {a : Nat} (h : a < 2147483648) : ¬ (Int32.ofNat a < 0) := by
  rw [Int32.lt_iff_toInt_lt, own_int h]; show ¬ (a : Int) < 0; omega
theorem own_tn {a : Nat} (h : a < 2147483648) : (Int32.ofNat a).toNatClampNeg = a := by
  simp only [Int32.toNatClampNeg, own_int h]; rfl
theorem own_rem (x y : Int32) (N : Nat) (hy : y.toInt = N) (hN : 0 < N) (hN' : N < 2147483648) (h0 : 0 ≤ x.toInt) : ∃ r : Nat, r < N ∧ x - x / y * y = Int32.ofNat r := by
  rw [irem_eq_mod]
  have h1 := (c_irem x y N hy).1 h0
  have h2 := Int.emod_nonneg x.toInt (b := (N : Int)) (by omega)
  have h3 := Int.emod_lt_of_pos x.toInt (b := (N : Int)) (by omega)
  refine ⟨(x.toInt % N).toNat, by omega, ?_⟩
  apply Int32.toInt_inj.mp
  rw [h1, Int32.toInt_ofNat_of_lt (by omega)]
  omega
/-- the int in a value -/
def own_iv : Value → Int32
  | .int z => z
  | _ => 0
theorem own_fits {v : Value} (h : fits .int v = true) : v = .int (own_iv v) := by cases v <;> simp [fits] at h ⊢ <;> rfl
theorem own_arI {n0 : Nat} {h : Heap} {E : List (Addr × (Cell → Prop))} {i : Nat} {a : Addr} {Z : State} {n : Nat} {f : Nat → Value} (W : Wo n0 h E) (hi : E[i]? = some (a, Ar Z .int n f)) {k : Nat} (hk : k < n) : f k = .int (own_iv (f k)) := by
  obtain ⟨-, c, -, A⟩ := W.at hi
  exact own_fits (A.2.2.2.2.2 k hk).2
def own_bi (b : Bool) : Int32 := if b then 1 else 0

def nsR : List (String × String) := [("keys", "[I"), ("ranges", "[I"), ("nextShape", "[I"), ("firstChoice", "[I"), ("firstKey", "[I"), ("keyLength", "[I"), ("firstRange", "[I"), ("firstAction", "[I"), ("firstCommand", "[I"), ("firstTransition", "[I"), ("actions", "[I"), ("commands", "[I"), ("successors", "[I"), ("probabilities", "[D"), ("shapeCount", "I"), ("lastRow", "[I"), ("rowCount", "I"), ("shapeOf", "[I"), ("nextRow", "[I"), ("blockOf", "[I"), ("shift", "[I"), ("varyingCount", "[I"), ("blocks", "[[D"), ("blockCount", "I"), ("used", "I")]
theorem own_lR {Z : State} {a0 : Array Value} (hw : ∀ d ∈ tables_1, d.before a0 Z = true) : ∀ x ∈ nsR, Laid Z a0 "com/example/sambre/sambre/engine/Rows" "com/example/sambre/sambre/engine/Rows" x.1 x.2 := Jvm.OwnKit.allS (Or.inl (hw _ (mi 17 rfl))) (Jvm.OwnKit.allS (Or.inl (hw _ (mi 19 rfl))) (Jvm.OwnKit.allS (Or.inl (hw _ (mi 21 rfl))) (Jvm.OwnKit.allS (Or.inl (hw _ (mi 23 rfl))) (Jvm.OwnKit.allS (Or.inl (hw _ (mi 25 rfl))) (Jvm.OwnKit.allS (Or.inl (hw _ (mi 27 rfl))) (Jvm.OwnKit.allS (Or.inl (hw _ (mi 29 rfl))) (Jvm.OwnKit.allS (Or.inl (hw _ (mi 31 rfl))) (Jvm.OwnKit.allS (Or.inl (hw _ (mi 33 rfl))) (Jvm.OwnKit.allS (Or.inl (hw _ (mi 35 rfl))) (Jvm.OwnKit.allS (Or.inl (hw _ (mi 37 rfl))) (Jvm.OwnKit.allS (Or.inl (hw _ (mi 39 rfl))) (Jvm.OwnKit.allS (Or.inl (hw _ (mi 41 rfl))) (Jvm.OwnKit.allS (Or.inl (hw _ (mi 43 rfl))) (Jvm.OwnKit.allS (Or.inl (hw _ (mi 104 rfl))) (Jvm.OwnKit.allS (Or.inl (hw _ (mi 108 rfl))) (Jvm.OwnKit.allS (Or.inl (hw _ (mi 128 rfl))) (Jvm.OwnKit.allS (Or.inl (hw _ (mi 156 rfl))) (Jvm.OwnKit.allS (Or.inl (hw _ (mi 158 rfl))) (Jvm.OwnKit.allS (Or.inl (hw _ (mi 160 rfl))) (Jvm.OwnKit.allS (Or.inl (hw _ (mi 162 rfl))) (Jvm.OwnKit.allS (Or.inl (hw _ (mi 164 rfl))) (Jvm.OwnKit.allS (Or.inl (hw _ (mi 168 rfl))) (Jvm.OwnKit.allS (Or.inl (hw _ (mi 171 rfl))) (Jvm.OwnKit.allS (Or.inl (hw _ (mi 182 rfl))) (Jvm.OwnKit.all0)))))))))))))))))))))))))
theorem own_dR {Z : State} {a0 : Array Value} (hw : ∀ d ∈ tables_1, d.before a0 Z = true) : Dist Z "com/example/sambre/sambre/engine/Rows" nsR := Dist.of (own_lR hw) (by decide +kernel) (by decide +kernel)
theorem own_vR : nsR.map (fun x => (parseFieldDescriptor x.2).map defaultValue) = ([.null, .null, .null, .null, .null, .null, .null, .null, .null, .null, .null, .null, .null, .null, (.int (0 : Int32)), .null, (.int (0 : Int32)), .null, .null, .null, .null, .null, .null, (.int (0 : Int32)), (.int (0 : Int32))] : List Value).map some := by first | rfl | decide +kernel
abbrev oR (Z : State) (vs : List Value) : Cell → Prop := Ob Z "com/example/sambre/sambre/engine/Rows" nsR vs
def nsB : List (String × String) := [("key", "[I"), ("keyLength", "I"), ("varying", "[D"), ("varyingCount", "I"), ("firstAction", "[I"), ("actions", "[I"), ("firstCommand", "[I"), ("commands", "[I"), ("firstTransition", "[I"), ("successors", "[I"), ("probabilities", "[D"), ("choiceCount", "I"), ("actionCount", "I"), ("commandCount", "I"), ("transitionCount", "I"), ("places", "Ljava/util/Map;")]
theorem own_lB {Z : State} {a0 : Array Value} (hw : ∀ d ∈ tables_1, d.before a0 Z = true) : ∀ x ∈ nsB, Laid Z a0 "com/example/sambre/sambre/engine/Rows$Builder" "com/example/sambre/sambre/engine/Rows$Builder" x.1 x.2 := Jvm.OwnKit.allS (Or.inl (hw _ (mi 71 rfl))) (Jvm.OwnKit.allS (Or.inl (hw _ (mi 73 rfl))) (Jvm.OwnKit.allS (Or.inl (hw _ (mi 75 rfl))) (Jvm.OwnKit.allS (Or.inl (hw _ (mi 77 rfl))) (Jvm.OwnKit.allS (Or.inl (hw _ (mi 52 rfl))) (Jvm.OwnKit.allS (Or.inl (hw _ (mi 54 rfl))) (Jvm.OwnKit.allS (Or.inl (hw _ (mi 56 rfl))) (Jvm.OwnKit.allS (Or.inl (hw _ (mi 58 rfl))) (Jvm.OwnKit.allS (Or.inl (hw _ (mi 60 rfl))) (Jvm.OwnKit.allS (Or.inl (hw _ (mi 62 rfl))) (Jvm.OwnKit.allS (Or.inl (hw _ (mi 64 rfl))) (Jvm.OwnKit.allS (Or.inl (hw _ (mi 79 rfl))) (Jvm.OwnKit.allS (Or.inl (hw _ (mi 81 rfl))) (Jvm.OwnKit.allS (Or.inl (hw _ (mi 83 rfl))) (Jvm.OwnKit.allS (Or.inl (hw _ (mi 85 rfl))) (Jvm.OwnKit.allS (Or.inl (hw _ (mi 87 rfl))) (Jvm.OwnKit.all0))))))))))))))))
theorem own_dB {Z : State} {a0 : Array Value} (hw : ∀ d ∈ tables_1, d.before a0 Z = true) : Dist Z "com/example/sambre/sambre/engine/Rows$Builder" nsB := Dist.of (own_lB hw) (by decide +kernel) (by decide +kernel)
theorem own_vB : nsB.map (fun x => (parseFieldDescriptor x.2).map defaultValue) = ([.null, (.int (0 : Int32)), .null, (.int (0 : Int32)), .null, .null, .null, .null, .null, .null, .null, (.int (0 : Int32)), (.int (0 : Int32)), (.int (0 : Int32)), (.int (0 : Int32)), .null] : List Value).map some := by first | rfl | decide +kernel
abbrev oB (Z : State) (vs : List Value) : Cell → Prop := Ob Z "com/example/sambre/sambre/engine/Rows$Builder" nsB vs
abbrev y_inl : MethodName := ⟨"java/lang/Integer", "numberOfLeadingZeros", "(I)I"⟩
theorem pd_inl : parseMethodDescriptor "(I)I" = some ⟨[.int], some .int⟩ := by decide +kernel
theorem pn_Integer : plainName "java/lang/Integer" = true := by first | (simp [plainName, overriddenIn]; done) | decide +kernel
def Ld_inl : List (Nat × Instr × Nat) := [(0, .iload_n 0, 1), (1, .ifCond .gt 14, 3), (15, .bipush 31, 2), (17, .istore_n 1, 1), (18, .iload_n 0, 1), (19, .ldc_w 264, 3), (22, .if_icmp .lt 11, 3), (33, .iload_n 0, 1), (34, .sipush 256, 3), (37, .if_icmp .lt 11, 3), (48, .iload_n 0, 1), (49, .bipush 16, 2), (51, .if_icmp .lt 10, 3), (54, .iinc 1 (-4), 3), (57, .iload_n 0, 1), (58, .iconst 4, 1), (59, .iushr, 1), (60, .istore_n 0, 1), (61, .iload_n 0, 1), (62, .iconst 4, 1), (63, .if_icmp .lt 10, 3), (73, .iload_n 1, 1), (74, .iload_n 0, 1), (75, .iconst 1, 1), (76, .iushr, 1), (77, .isub, 1), (78, .ireturn, 1)]
set_option maxRecDepth 65536 in
theorem d_inl : ∀ x ∈ Ld_inl, decode jdk_33_method_47_code x.1 = .ok (x.2.1, x.2.2) := by decide +kernel
theorem ef_rmIN19 (m : MethodId)  : entryFrame m #[(.int (19 : Int32))] 2 = mkF m 0 #[.val (.int (19 : Int32)), .unset] [] := by first | (simp [entryFrame, mkF, argsToLocals, Value.category]; done) | rfl
def QrmIN19 (Z : State)  (Rr : List (Addr × (Cell → Prop))) (n0 : Nat) (v : Option Value) (h : Heap) (L : List Loc) : Prop := v = some (.int (27 : Int32)) ∧ Fr n0 L ∧ Wo n0 h (Rr)
set_option maxRecDepth 65536 in
set_option maxHeartbeats 40000000 in
theorem rmIN19 (l : Launch) (Z : State) (a0 : Array Value) (hw : ∀ d ∈ tables_1, d.before a0 Z = true) (ws : List Jvm.Cond)  (Rr : List (Addr × (Cell → Prop))) (h0 : Heap) (n0 : Nat) (W0 : Wo n0 h0 (Rr)) :
    MetFree l y_inl (head1 (Jvm.Cond.code y_inl jdk_33_method_47_code 2 (some .int) :: ws) ({ frames := 0, cells := 0, slots := 0, locals := 0 } : Room)) (fun aa U => aa = #[(.int (19 : Int32))] ∧ Z.Warmed39 U.vm ∧ U.heap = h0) (fun _ _ _ _ _ => True) (fun _ U ou U' => ∃ v L, ou = .returned v ∧ QrmIN19 Z  Rr n0 v U'.heap L ∧ FrameEnd U ou U' L ({ frames := 0, cells := 0, slots := 0, locals := 0 } : Room).cells ({ frames := 0, cells := 0, slots := 0, locals := 0 } : Room).slots) := by
  refine MetFree.of_bodySF (plainFor_of_name pn_Integer) hisR ?_
  intro p e s m args below meth c s₁ Bd hml0 hP hK
  obtain ⟨rfl, hZ, hh⟩ := hP
  have hx := Bd.exec
  have hby := Bd.bytes
  have hml : c.maxLocals = 2 := hml0
  have hD : ∀ (k : Nat) {pc : Nat} {i : Instr} {n : Nat}, Ld_inl[k]? = some (pc, i, n) → decode c.code pc = .ok (i, n) := by intro k pc i n h; exact hb hby (d_inl (pc, i, n) (mi k h))
  have hown : s.vm.findClass "java/lang/Integer" = some m.cls := findClass_of_methodNamed Bd.named
  have hnm := (name_of_methodNamed Bd.named Bd.method).1
  have X0 : Stand p l e ({ frames := 0, cells := 0, slots := 0, locals := 0 } : Room) s m #[(.int (19 : Int32))] below meth c s₁ [] 0 0 := Stand.of_body Bd
  have e0 : s₁.heap = h0 := by rw [← hh, Bd.state]; rfl
  have N0 := Fr.nil n0
  obtain ⟨F0, hF0⟩ : ∃ F, F = mkF m 0 #[.val (.int (19 : Int32)), .unset] [] := ⟨_, rfl⟩
  have pre0 : ∀ t, Steps p.tables e below (s₁.setTop F0) t → Steps p.tables e below (s₁.setTop (entryFrame m #[(.int (19 : Int32))] 2)) t := fun t k => castTop ((ef_rmIN19 m ).trans hF0.symm) k
  have K0 : Rch p e below s₁ F0 s₁ (mkF m 0 #[.val (.int (19 : Int32)), .unset] []) := fun t k => castTop hF0 k
  have K1 : Rc K0 s₁ (mkF m 78 #[sI 1, sI 27] [(kI 27)]) := fun t k => K0 t (by
    refine XS.iloadN X0.here hx rfl (hD 0 rfl) rfl ?_
    refine XS.ifYes X0.here hx rfl (pc0 := 1) (pc' := 15) rfl (hD 1 rfl) rfl (by decide) (by decide) (by decide) ?_
    refine XS.bipush X0.here hx rfl (hD 2 rfl) ?_
    refine XS.istoreN X0.here hx rfl (hD 3 rfl) rfl (l' := #[sI 19, sI 31]) rfl ?_
    refine XS.iloadN X0.here hx rfl (hD 4 rfl) rfl ?_
    refine X0.ldcwInt hx hown (mvT hZ (hw _ (mi 146 rfl))) (g := (mkF m 19 #[sI 19, sI 31] [(kI 19)])) rfl (hD 5 rfl) _ ?_
    refine XS.icmpYes X0.here hx rfl (pc0 := 22) (pc' := 33) rfl (hD 6 rfl) rfl (by decide) (by decide) (by decide) ?_
    refine XS.iloadN X0.here hx rfl (hD 7 rfl) rfl ?_
    refine XS.sipush X0.here hx rfl (hD 8 rfl) ?_
    refine XS.icmpYes X0.here hx rfl (pc0 := 37) (pc' := 48) rfl (hD 9 rfl) rfl (by decide) (by decide) (by decide) ?_
    refine XS.iloadN X0.here hx rfl (hD 10 rfl) rfl ?_
    refine XS.bipush X0.here hx rfl (hD 11 rfl) ?_
    refine XS.icmpNo X0.here hx rfl (hD 12 rfl) rfl (by decide) ?_
    refine XS.iinc X0.here hx rfl (hD 13 rfl) rfl (l' := #[sI 19, sI 27]) rfl ?_
    refine XS.iloadN X0.here hx rfl (hD 14 rfl) rfl ?_
    refine XS.iconst X0.here hx rfl (hD 15 rfl) ?_
    refine XS.iushr X0.here hx rfl (hD 16 rfl) rfl ?_
    refine XS.istoreN X0.here hx rfl (hD 17 rfl) rfl (l' := #[sI 1, sI 27]) rfl ?_
    refine XS.iloadN X0.here hx rfl (hD 18 rfl) rfl ?_
    refine XS.iconst X0.here hx rfl (hD 19 rfl) ?_
    refine XS.icmpYes X0.here hx rfl (pc0 := 63) (pc' := 73) rfl (hD 20 rfl) rfl (by decide) (by decide) (by decide) ?_
    refine XS.iloadN X0.here hx rfl (hD 21 rfl) rfl ?_
    refine XS.iloadN X0.here hx rfl (hD 22 rfl) rfl ?_
    refine XS.iconst X0.here hx rfl (hD 23 rfl) ?_
    refine XS.iushr X0.here hx rfl (hD 24 rfl) rfl ?_
    refine XS.isub X0.here hx rfl (hD 25 rfl) rfl ?_
    exact k)
  obtain ⟨fs, hr, hrun, hended, hWm, hsame⟩ := X0.leave (v := some (.int (27 : Int32))) (fun h => by rw [Bd.returns] at h; cases h)
  refine ⟨_, _, pre0 _ (K1 _ (retI X0 hx Bd.returns (hD 26 rfl) hr)), hrun, hended, _, _, rfl, ?_, ⟨_, rfl⟩, hWm, hsame.mono (by decide) (by decide)⟩
  show QrmIN19 Z  Rr n0 _ s₁.heap _
  rw [e0]
  exact ⟨rfl, N0, W0⟩
theorem ef_rmIN23 (m : MethodId)  : entryFrame m #[(.int (23 : Int32))] 2 = mkF m 0 #[.val (.int (23 : Int32)), .unset] [] := by first | (simp [entryFrame, mkF, argsToLocals, Value.category]; done) | rfl
def QrmIN23 (Z : State)  (Rr : List (Addr × (Cell → Prop))) (n0 : Nat) (v : Option Value) (h : Heap) (L : List Loc) : Prop := v = some (.int (27 : Int32)) ∧ Fr n0 L ∧ Wo n0 h (Rr)
set_option maxRecDepth 65536 in
set_option maxHeartbeats 40000000 in
theorem rmIN23 (l : Launch) (Z : State) (a0 : Array Value) (hw : ∀ d ∈ tables_1, d.before a0 Z = true) (ws : List Jvm.Cond)  (Rr : List (Addr × (Cell → Prop))) (h0 : Heap) (n0 : Nat) (W0 : Wo n0 h0 (Rr)) :
    MetFree l y_inl (head1 (Jvm.Cond.code y_inl jdk_33_method_47_code 2 (some .int) :: ws) ({ frames := 0, cells := 0, slots := 0, locals := 0 } : Room)) (fun aa U => aa = #[(.int (23 : Int32))] ∧ Z.Warmed39 U.vm ∧ U.heap = h0) (fun _ _ _ _ _ => True) (fun _ U ou U' => ∃ v L, ou = .returned v ∧ QrmIN23 Z  Rr n0 v U'.heap L ∧ FrameEnd U ou U' L ({ frames := 0, cells := 0, slots := 0, locals := 0 } : Room).cells ({ frames := 0, cells := 0, slots := 0, locals := 0 } : Room).slots) := by
  refine MetFree.of_bodySF (plainFor_of_name pn_Integer) hisR ?_
  intro p e s m args below meth c s₁ Bd hml0 hP hK
  obtain ⟨rfl, hZ, hh⟩ := hP
  have hx := Bd.exec
  have hby := Bd.bytes
  have hml : c.maxLocals = 2 := hml0
  have hD : ∀ (k : Nat) {pc : Nat} {i : Instr} {n : Nat}, Ld_inl[k]? = some (pc, i, n) → decode c.code pc = .ok (i, n) := by intro k pc i n h; exact hb hby (d_inl (pc, i, n) (mi k h))
  have hown : s.vm.findClass "java/lang/Integer" = some m.cls := findClass_of_methodNamed Bd.named
  have hnm := (name_of_methodNamed Bd.named Bd.method).1
  have X0 : Stand p l e ({ frames := 0, cells := 0, slots := 0, locals := 0 } : Room) s m #[(.int (23 : Int32))] below meth c s₁ [] 0 0 := Stand.of_body Bd
  have e0 : s₁.heap = h0 := by rw [← hh, Bd.state]; rfl
  have N0 := Fr.nil n0
  obtain ⟨F0, hF0⟩ : ∃ F, F = mkF m 0 #[.val (.int (23 : Int32)), .unset] [] := ⟨_, rfl⟩
  have pre0 : ∀ t, Steps p.tables e below (s₁.setTop F0) t → Steps p.tables e below (s₁.setTop (entryFrame m #[(.int (23 : Int32))] 2)) t := fun t k => castTop ((ef_rmIN23 m ).trans hF0.symm) k
  have K0 : Rch p e below s₁ F0 s₁ (mkF m 0 #[.val (.int (23 : Int32)), .unset] []) := fun t k => castTop hF0 k
  have K1 : Rc K0 s₁ (mkF m 78 #[sI 1, sI 27] [(kI 27)]) := fun t k => K0 t (by
    refine XS.iloadN X0.here hx rfl (hD 0 rfl) rfl ?_
    refine XS.ifYes X0.here hx rfl (pc0 := 1) (pc' := 15) rfl (hD 1 rfl) rfl (by decide) (by decide) (by decide) ?_
    refine XS.bipush X0.here hx rfl (hD 2 rfl) ?_
    refine XS.istoreN X0.here hx rfl (hD 3 rfl) rfl (l' := #[sI 23, sI 31]) rfl ?_
    refine XS.iloadN X0.here hx rfl (hD 4 rfl) rfl ?_
    refine X0.ldcwInt hx hown (mvT hZ (hw _ (mi 146 rfl))) (g := (mkF m 19 #[sI 23, sI 31] [(kI 23)])) rfl (hD 5 rfl) _ ?_
    refine XS.icmpYes X0.here hx rfl (pc0 := 22) (pc' := 33) rfl (hD 6 rfl) rfl (by decide) (by decide) (by decide) ?_
    refine XS.iloadN X0.here hx rfl (hD 7 rfl) rfl ?_
    refine XS.sipush X0.here hx rfl (hD 8 rfl) ?_
    refine XS.icmpYes X0.here hx rfl (pc0 := 37) (pc' := 48) rfl (hD 9 rfl) rfl (by decide) (by decide) (by decide) ?_
    refine XS.iloadN X0.here hx rfl (hD 10 rfl) rfl ?_
    refine XS.bipush X0.here hx rfl (hD 11 rfl) ?_
    refine XS.icmpNo X0.here hx rfl (hD 12 rfl) rfl (by decide) ?_
    refine XS.iinc X0.here hx rfl (hD 13 rfl) rfl (l' := #[sI 23, sI 27]) rfl ?_
    refine XS.iloadN X0.here hx rfl (hD 14 rfl) rfl ?_
    refine XS.iconst X0.here hx rfl (hD 15 rfl) ?_
    refine XS.iushr X0.here hx rfl (hD 16 rfl) rfl ?_
    refine XS.istoreN X0.here hx rfl (hD 17 rfl) rfl (l' := #[sI 1, sI 27]) rfl ?_
    refine XS.iloadN X0.here hx rfl (hD 18 rfl) rfl ?_
    refine XS.iconst X0.here hx rfl (hD 19 rfl) ?_
    refine XS.icmpYes X0.here hx rfl (pc0 := 63) (pc' := 73) rfl (hD 20 rfl) rfl (by decide) (by decide) (by decide) ?_
    refine XS.iloadN X0.here hx rfl (hD 21 rfl) rfl ?_
    refine XS.iloadN X0.here hx rfl (hD 22 rfl) rfl ?_
    refine XS.iconst X0.here hx rfl (hD 23 rfl) ?_
    refine XS.iushr X0.here hx rfl (hD 24 rfl) rfl ?_
    refine XS.isub X0.here hx rfl (hD 25 rfl) rfl ?_
    exact k)
  obtain ⟨fs, hr, hrun, hended, hWm, hsame⟩ := X0.leave (v := some (.int (27 : Int32))) (fun h => by rw [Bd.returns] at h; cases h)
  refine ⟨_, _, pre0 _ (K1 _ (retI X0 hx Bd.returns (hD 26 rfl) hr)), hrun, hended, _, _, rfl, ?_, ⟨_, rfl⟩, hWm, hsame.mono (by decide) (by decide)⟩
  show QrmIN23 Z  Rr n0 _ s₁.heap _
  rw [e0]
  exact ⟨rfl, N0, W0⟩
abbrev y_lnl : MethodName := ⟨"java/lang/Long", "numberOfLeadingZeros", "(J)I"⟩
theorem pd_lnl : parseMethodDescriptor "(J)I" = some ⟨[.long], some .int⟩ := by decide +kernel
theorem pn_Long : plainName "java/lang/Long" = true := by first | (simp [plainName, overriddenIn]; done) | decide +kernel
def Ld_lnl : List (Nat × Instr × Nat) := [(0, .lload_n 0, 1), (1, .bipush 32, 2), (3, .lushr, 1), (4, .l2i, 1), (5, .istore_n 2, 1), (6, .iload_n 2, 1), (7, .ifCond .ne 14, 3), (10, .bipush 32, 2), (12, .lload_n 0, 1), (13, .l2i, 1), (14, .invokestatic 308, 3), (17, .iadd, 1), (18, .goto 7, 3), (25, .ireturn, 1)]
set_option maxRecDepth 65536 in
theorem d_lnl : ∀ x ∈ Ld_lnl, decode jdk_35_method_48_code x.1 = .ok (x.2.1, x.2.2) := by decide +kernel
theorem ef_rmLN19 (m : MethodId)  : entryFrame m #[(.long (19 : Int64))] 3 = mkF m 0 #[.val (.long (19 : Int64)), .second, .unset] [] := by first | (simp [entryFrame, mkF, argsToLocals, Value.category]; done) | rfl
def QrmLN19 (Z : State)  (Rr : List (Addr × (Cell → Prop))) (n0 : Nat) (v : Option Value) (h : Heap) (L : List Loc) : Prop := v = some (.int (59 : Int32)) ∧ Fr n0 L ∧ Wo n0 h (Rr)
set_option maxRecDepth 65536 in
set_option maxHeartbeats 40000000 in
theorem rmLN19 (l : Launch) (Z : State) (a0 : Array Value) (hw : ∀ d ∈ tables_1, d.before a0 Z = true) (ws : List Jvm.Cond)  (Rr : List (Addr × (Cell → Prop))) (h0 : Heap) (n0 : Nat) (W0 : Wo n0 h0 (Rr)) :
    MetFree l y_lnl (head1 (Jvm.Cond.code y_lnl jdk_35_method_48_code 3 (some .int) :: ws) ({ frames := 1, cells := 0, slots := 0, locals := 14 } : Room)) (fun aa U => aa = #[(.long (19 : Int64))] ∧ Z.Warmed39 U.vm ∧ U.heap = h0) (fun _ _ _ _ _ => True) (fun _ U ou U' => ∃ v L, ou = .returned v ∧ QrmLN19 Z  Rr n0 v U'.heap L ∧ FrameEnd U ou U' L ({ frames := 1, cells := 0, slots := 0, locals := 14 } : Room).cells ({ frames := 1, cells := 0, slots := 0, locals := 14 } : Room).slots) := by
  refine MetFree.of_bodySF (plainFor_of_name pn_Long) hisR ?_
  intro p e s m args below meth c s₁ Bd hml0 hP hK
  obtain ⟨rfl, hZ, hh⟩ := hP
  have hx := Bd.exec
  have hby := Bd.bytes
  have hml : c.maxLocals = 3 := hml0
  have hD : ∀ (k : Nat) {pc : Nat} {i : Instr} {n : Nat}, Ld_lnl[k]? = some (pc, i, n) → decode c.code pc = .ok (i, n) := by intro k pc i n h; exact hb hby (d_lnl (pc, i, n) (mi k h))
  have hown : s.vm.findClass "java/lang/Long" = some m.cls := findClass_of_methodNamed Bd.named
  have hnm := (name_of_methodNamed Bd.named Bd.method).1
  have X0 : Stand p l e ({ frames := 1, cells := 0, slots := 0, locals := 14 } : Room) s m #[(.long (19 : Int64))] below meth c s₁ [] 0 0 := Stand.of_body Bd
  have e0 : s₁.heap = h0 := by rw [← hh, Bd.state]; rfl
  have N0 := Fr.nil n0
  obtain ⟨F0, hF0⟩ : ∃ F, F = mkF m 0 #[.val (.long (19 : Int64)), .second, .unset] [] := ⟨_, rfl⟩
  have pre0 : ∀ t, Steps p.tables e below (s₁.setTop F0) t → Steps p.tables e below (s₁.setTop (entryFrame m #[(.long (19 : Int64))] 3)) t := fun t k => castTop ((ef_rmLN19 m ).trans hF0.symm) k
  have K0 : Rch p e below s₁ F0 s₁ (mkF m 0 #[.val (.long (19 : Int64)), .second, .unset] []) := fun t k => castTop hF0 k
  have K1 : Rc K0 s₁ (mkF m 14 #[sJ 19, sV, sI 0] [(kI 19), (kI 32)]) := fun t k => K0 t (by
    refine XS.lloadN X0.here hx rfl (hD 0 rfl) rfl ?_
    refine XS.bipush X0.here hx rfl (hD 1 rfl) ?_
    refine XS.lushr X0.here hx rfl (hD 2 rfl) rfl ?_
    refine XS.l2i X0.here hx rfl (hD 3 rfl) rfl ?_
    refine XS.istoreN X0.here hx rfl (hD 4 rfl) rfl (l' := #[sJ 19, sV, sI 0]) rfl ?_
    refine XS.iloadN X0.here hx rfl (hD 5 rfl) rfl ?_
    refine XS.ifNo X0.here hx rfl (hD 6 rfl) rfl (by decide) ?_
    refine XS.bipush X0.here hx rfl (hD 7 rfl) ?_
    refine XS.lloadN X0.here hx rfl (hD 8 rfl) rfl ?_
    refine XS.l2i X0.here hx rfl (hD 9 rfl) rfl ?_
    exact k)
  obtain ⟨_, _, ⟨T2, L2, k2, n2⟩, -, X2, ⟨Lc2, hQ2, l2, y2, z2⟩, st2⟩ := Jvm.LawKit.callS X0 hx (y := y_inl) hown (mvT hZ (hw _ (mi 142 rfl))) (mvT hZ (hw _ (mi 143 rfl))) (mvT hZ (hw _ (mi 144 rfl))) (mvT hZ (hw _ (mi 145 rfl))) (by decide) (backOf (W := 1) (rmIN19 l Z a0 hw []  (Rr) h0 n0 W0) hZ (hw _ (mi 145 rfl)) (hw _ (mi 144 rfl)) (by decide) (by decide)) (g := K1.g) rfl (by rw [hml]; rfl) (argsL := [(.int (19 : Int32))]) (rest := [(.int (32 : Int32))]) (lenOf pd_inl rfl) rfl (by show 2 * 0 + _ ≤ _; exact Nat.le_of_eq rfl) (hD 10 rfl) (fun _ _ => ⟨rfl, e0, (by decide : 0 + 0 ≤ _), (by decide : 0 + 0 ≤ _)⟩)
  dsimp only [Pt.U, Pt.locs, Pt.cells, Pt.slots] at X2 l2 y2 z2 st2 hQ2
  subst l2 y2 z2
  obtain ⟨rfl, N2q, W2⟩ := hQ2
  have N2 := Fr.app N0 N2q
  have K3 : Rc K0 T2 (mkF m 25 #[sJ 19, sV, sI 0] [(kI 59)]) := fun t k => K1 t (st2 t (by
    refine XS.iadd X2.here hx rfl (hD 11 rfl) rfl ?_
    refine XS.goto X2.here hx rfl (pc0 := 18) (pc' := 25) rfl (hD 12 rfl) (by decide) (by decide) ?_
    exact k))
  obtain ⟨fs, hr, hrun, hended, hWm, hsame⟩ := X2.leave (v := some (.int (59 : Int32))) (fun h => by rw [Bd.returns] at h; cases h)
  refine ⟨_, _, pre0 _ (K3 _ (retI X2 hx Bd.returns (hD 13 rfl) hr)), hrun, hended, _, _, rfl, ?_, ⟨_, rfl⟩, hWm, hsame.mono (by decide) (by decide)⟩
  show QrmLN19 Z  Rr n0 _ T2.heap _
  exact ⟨rfl, N2, W2⟩
theorem ef_rmLN23 (m : MethodId)  : entryFrame m #[(.long (23 : Int64))] 3 = mkF m 0 #[.val (.long (23 : Int64)), .second, .unset] [] := by first | (simp [entryFrame, mkF, argsToLocals, Value.category]; done) | rfl
def QrmLN23 (Z : State)  (Rr : List (Addr × (Cell → Prop))) (n0 : Nat) (v : Option Value) (h : Heap) (L : List Loc) : Prop := v = some (.int (59 : Int32)) ∧ Fr n0 L ∧ Wo n0 h (Rr)
set_option maxRecDepth 65536 in
set_option maxHeartbeats 40000000 in
theorem rmLN23 (l : Launch) (Z : State) (a0 : Array Value) (hw : ∀ d ∈ tables_1, d.before a0 Z = true) (ws : List Jvm.Cond)  (Rr : List (Addr × (Cell → Prop))) (h0 : Heap) (n0 : Nat) (W0 : Wo n0 h0 (Rr)) :
    MetFree l y_lnl (head1 (Jvm.Cond.code y_lnl jdk_35_method_48_code 3 (some .int) :: ws) ({ frames := 1, cells := 0, slots := 0, locals := 14 } : Room)) (fun aa U => aa = #[(.long (23 : Int64))] ∧ Z.Warmed39 U.vm ∧ U.heap = h0) (fun _ _ _ _ _ => True) (fun _ U ou U' => ∃ v L, ou = .returned v ∧ QrmLN23 Z  Rr n0 v U'.heap L ∧ FrameEnd U ou U' L ({ frames := 1, cells := 0, slots := 0, locals := 14 } : Room).cells ({ frames := 1, cells := 0, slots := 0, locals := 14 } : Room).slots) := by
  refine MetFree.of_bodySF (plainFor_of_name pn_Long) hisR ?_
  intro p e s m args below meth c s₁ Bd hml0 hP hK
  obtain ⟨rfl, hZ, hh⟩ := hP
  have hx := Bd.exec
  have hby := Bd.bytes
  have hml : c.maxLocals = 3 := hml0
  have hD : ∀ (k : Nat) {pc : Nat} {i : Instr} {n : Nat}, Ld_lnl[k]? = some (pc, i, n) → decode c.code pc = .ok (i, n) := by intro k pc i n h; exact hb hby (d_lnl (pc, i, n) (mi k h))
  have hown : s.vm.findClass "java/lang/Long" = some m.cls := findClass_of_methodNamed Bd.named
  have hnm := (name_of_methodNamed Bd.named Bd.method).1
  have X0 : Stand p l e ({ frames := 1, cells := 0, slots := 0, locals := 14 } : Room) s m #[(.long (23 : Int64))] below meth c s₁ [] 0 0 := Stand.of_body Bd
  have e0 : s₁.heap = h0 := by rw [← hh, Bd.state]; rfl
  have N0 := Fr.nil n0
  obtain ⟨F0, hF0⟩ : ∃ F, F = mkF m 0 #[.val (.long (23 : Int64)), .second, .unset] [] := ⟨_, rfl⟩
  have pre0 : ∀ t, Steps p.tables e below (s₁.setTop F0) t → Steps p.tables e below (s₁.setTop (entryFrame m #[(.long (23 : Int64))] 3)) t := fun t k => castTop ((ef_rmLN23 m ).trans hF0.symm) k
  have K0 : Rch p e below s₁ F0 s₁ (mkF m 0 #[.val (.long (23 : Int64)), .second, .unset] []) := fun t k => castTop hF0 k
  have K1 : Rc K0 s₁ (mkF m 14 #[sJ 23, sV, sI 0] [(kI 23), (kI 32)]) := fun t k => K0 t (by
    refine XS.lloadN X0.here hx rfl (hD 0 rfl) rfl ?_
    refine XS.bipush X0.here hx rfl (hD 1 rfl) ?_
    refine XS.lushr X0.here hx rfl (hD 2 rfl) rfl ?_
    refine XS.l2i X0.here hx rfl (hD 3 rfl) rfl ?_
    refine XS.istoreN X0.here hx rfl (hD 4 rfl) rfl (l' := #[sJ 23, sV, sI 0]) rfl ?_
    refine XS.iloadN X0.here hx rfl (hD 5 rfl) rfl ?_
    refine XS.ifNo X0.here hx rfl (hD 6 rfl) rfl (by decide) ?_
    refine XS.bipush X0.here hx rfl (hD 7 rfl) ?_
    refine XS.lloadN X0.here hx rfl (hD 8 rfl) rfl ?_
    refine XS.l2i X0.here hx rfl (hD 9 rfl) rfl ?_
    exact k)
  obtain ⟨_, _, ⟨T2, L2, k2, n2⟩, -, X2, ⟨Lc2, hQ2, l2, y2, z2⟩, st2⟩ := Jvm.LawKit.callS X0 hx (y := y_inl) hown (mvT hZ (hw _ (mi 142 rfl))) (mvT hZ (hw _ (mi 143 rfl))) (mvT hZ (hw _ (mi 144 rfl))) (mvT hZ (hw _ (mi 145 rfl))) (by decide) (backOf (W := 1) (rmIN23 l Z a0 hw []  (Rr) h0 n0 W0) hZ (hw _ (mi 145 rfl)) (hw _ (mi 144 rfl)) (by decide) (by decide)) (g := K1.g) rfl (by rw [hml]; rfl) (argsL := [(.int (23 : Int32))]) (rest := [(.int (32 : Int32))]) (lenOf pd_inl rfl) rfl (by show 2 * 0 + _ ≤ _; exact Nat.le_of_eq rfl) (hD 10 rfl) (fun _ _ => ⟨rfl, e0, (by decide : 0 + 0 ≤ _), (by decide : 0 + 0 ≤ _)⟩)
  dsimp only [Pt.U, Pt.locs, Pt.cells, Pt.slots] at X2 l2 y2 z2 st2 hQ2
  subst l2 y2 z2
  obtain ⟨rfl, N2q, W2⟩ := hQ2
  have N2 := Fr.app N0 N2q
  have K3 : Rc K0 T2 (mkF m 25 #[sJ 23, sV, sI 0] [(kI 59)]) := fun t k => K1 t (st2 t (by
    refine XS.iadd X2.here hx rfl (hD 11 rfl) rfl ?_
    refine XS.goto X2.here hx rfl (pc0 := 18) (pc' := 25) rfl (hD 12 rfl) (by decide) (by decide) ?_
    exact k))
  obtain ⟨fs, hr, hrun, hended, hWm, hsame⟩ := X2.leave (v := some (.int (59 : Int32))) (fun h => by rw [Bd.returns] at h; cases h)
  refine ⟨_, _, pre0 _ (K3 _ (retI X2 hx Bd.returns (hD 13 rfl) hr)), hrun, hended, _, _, rfl, ?_, ⟨_, rfl⟩, hWm, hsame.mono (by decide) (by decide)⟩
  show QrmLN23 Z  Rr n0 _ T2.heap _
  exact ⟨rfl, N2, W2⟩
abbrev y_hob : MethodName := ⟨"java/lang/Long", "highestOneBit", "(J)J"⟩
theorem pd_hob : parseMethodDescriptor "(J)J" = some ⟨[.long], some .long⟩ := by decide +kernel
def Ld_hob : List (Nat × Instr × Nat) := [(0, .lload_n 0, 1), (1, .ldc2_w 168, 3), (4, .lload_n 0, 1), (5, .invokestatic 98, 3), (8, .lushr, 1), (9, .land, 1), (10, .lreturn, 1)]
set_option maxRecDepth 65536 in
theorem d_hob : ∀ x ∈ Ld_hob, decode jdk_35_method_46_code x.1 = .ok (x.2.1, x.2.2) := by decide +kernel
theorem ef_rmHO19 (m : MethodId)  : entryFrame m #[(.long (19 : Int64))] 2 = mkF m 0 #[.val (.long (19 : Int64)), .second] [] := by first | (simp [entryFrame, mkF, argsToLocals, Value.category]; done) | rfl
def QrmHO19 (Z : State)  (Rr : List (Addr × (Cell → Prop))) (n0 : Nat) (v : Option Value) (h : Heap) (L : List Loc) : Prop := v = some (.long (16 : Int64)) ∧ Fr n0 L ∧ Wo n0 h (Rr)
set_option maxRecDepth 65536 in
set_option maxHeartbeats 40000000 in
theorem rmHO19 (l : Launch) (Z : State) (a0 : Array Value) (hw : ∀ d ∈ tables_1, d.before a0 Z = true) (ws : List Jvm.Cond)  (Rr : List (Addr × (Cell → Prop))) (h0 : Heap) (n0 : Nat) (W0 : Wo n0 h0 (Rr)) :
    MetFree l y_hob (head1 (Jvm.Cond.code y_hob jdk_35_method_46_code 2 (some .long) :: ws) ({ frames := 2, cells := 0, slots := 0, locals := 32 } : Room)) (fun aa U => aa = #[(.long (19 : Int64))] ∧ Z.Warmed39 U.vm ∧ U.heap = h0) (fun _ _ _ _ _ => True) (fun _ U ou U' => ∃ v L, ou = .returned v ∧ QrmHO19 Z  Rr n0 v U'.heap L ∧ FrameEnd U ou U' L ({ frames := 2, cells := 0, slots := 0, locals := 32 } : Room).cells ({ frames := 2, cells := 0, slots := 0, locals := 32 } : Room).slots) := by
  refine MetFree.of_bodySF (plainFor_of_name pn_Long) hisR ?_
  intro p e s m args below meth c s₁ Bd hml0 hP hK
  obtain ⟨rfl, hZ, hh⟩ := hP
  have hx := Bd.exec
  have hby := Bd.bytes
  have hml : c.maxLocals = 2 := hml0
  have hD : ∀ (k : Nat) {pc : Nat} {i : Instr} {n : Nat}, Ld_hob[k]? = some (pc, i, n) → decode c.code pc = .ok (i, n) := by intro k pc i n h; exact hb hby (d_hob (pc, i, n) (mi k h))
  have hown : s.vm.findClass "java/lang/Long" = some m.cls := findClass_of_methodNamed Bd.named
  have hnm := (name_of_methodNamed Bd.named Bd.method).1
  have X0 : Stand p l e ({ frames := 2, cells := 0, slots := 0, locals := 32 } : Room) s m #[(.long (19 : Int64))] below meth c s₁ [] 0 0 := Stand.of_body Bd
  have e0 : s₁.heap = h0 := by rw [← hh, Bd.state]; rfl
  have N0 := Fr.nil n0
  obtain ⟨F0, hF0⟩ : ∃ F, F = mkF m 0 #[.val (.long (19 : Int64)), .second] [] := ⟨_, rfl⟩
  have pre0 : ∀ t, Steps p.tables e below (s₁.setTop F0) t → Steps p.tables e below (s₁.setTop (entryFrame m #[(.long (19 : Int64))] 2)) t := fun t k => castTop ((ef_rmHO19 m ).trans hF0.symm) k
  have K0 : Rch p e below s₁ F0 s₁ (mkF m 0 #[.val (.long (19 : Int64)), .second] []) := fun t k => castTop hF0 k
  have K1 : Rc K0 s₁ (mkF m 5 #[sJ 19, sV] [(kJ 19), (kJ (-9223372036854775808)), (kJ 19)]) := fun t k => K0 t (by
    refine XS.lloadN X0.here hx rfl (hD 0 rfl) rfl ?_
    refine X0.ldc2Long hx hown (mvT hZ (hw _ (mi 138 rfl))) (g := (mkF m 1 #[sJ 19, sV] [(kJ 19)])) rfl (hD 1 rfl) _ ?_
    refine XS.lloadN X0.here hx rfl (hD 2 rfl) rfl ?_
    exact k)
  obtain ⟨_, _, ⟨T2, L2, k2, n2⟩, -, X2, ⟨Lc2, hQ2, l2, y2, z2⟩, st2⟩ := Jvm.LawKit.callS X0 hx (y := y_lnl) hown (mvT hZ (hw _ (mi 139 rfl))) (mvT hZ (hw _ (mi 140 rfl))) (mvT hZ (hw _ (mi 136 rfl))) (mvT hZ (hw _ (mi 141 rfl))) (by decide) (backOf (W := 4) (rmLN19 l Z a0 hw []  (Rr) h0 n0 W0) hZ (hw _ (mi 141 rfl)) (hw _ (mi 136 rfl)) (by decide) (by decide)) (g := K1.g) rfl (by rw [hml]; rfl) (argsL := [(.long (19 : Int64))]) (rest := [(.long (-9223372036854775808 : Int64)), (.long (19 : Int64))]) (lenOf pd_lnl rfl) rfl (by show 2 * 0 + _ ≤ _; exact Nat.le_of_eq rfl) (hD 3 rfl) (fun _ _ => ⟨rfl, e0, (by decide : 0 + 0 ≤ _), (by decide : 0 + 0 ≤ _)⟩)
  dsimp only [Pt.U, Pt.locs, Pt.cells, Pt.slots] at X2 l2 y2 z2 st2 hQ2
  subst l2 y2 z2
  obtain ⟨rfl, N2q, W2⟩ := hQ2
  have N2 := Fr.app N0 N2q
  have K3 : Rc K0 T2 (mkF m 10 #[sJ 19, sV] [(kJ 16)]) := fun t k => K1 t (st2 t (by
    refine XS.lushr X2.here hx rfl (hD 4 rfl) rfl ?_
    refine XS.land X2.here hx rfl (hD 5 rfl) rfl ?_
    exact k))
  obtain ⟨fs, hr, hrun, hended, hWm, hsame⟩ := X2.leave (v := some (.long (16 : Int64))) (fun h => by rw [Bd.returns] at h; cases h)
  refine ⟨_, _, pre0 _ (K3 _ (Jvm.OwnKit.retL X2 hx Bd.returns (hD 6 rfl) hr)), hrun, hended, _, _, rfl, ?_, ⟨_, rfl⟩, hWm, hsame.mono (by decide) (by decide)⟩
  show QrmHO19 Z  Rr n0 _ T2.heap _
  exact ⟨rfl, N2, W2⟩
theorem ef_rmHO23 (m : MethodId)  : entryFrame m #[(.long (23 : Int64))] 2 = mkF m 0 #[.val (.long (23 : Int64)), .second] [] := by first | (simp [entryFrame, mkF, argsToLocals, Value.category]; done) | rfl
def QrmHO23 (Z : State)  (Rr : List (Addr × (Cell → Prop))) (n0 : Nat) (v : Option Value) (h : Heap) (L : List Loc) : Prop := v = some (.long (16 : Int64)) ∧ Fr n0 L ∧ Wo n0 h (Rr)
set_option maxRecDepth 65536 in
set_option maxHeartbeats 40000000 in
theorem rmHO23 (l : Launch) (Z : State) (a0 : Array Value) (hw : ∀ d ∈ tables_1, d.before a0 Z = true) (ws : List Jvm.Cond)  (Rr : List (Addr × (Cell → Prop))) (h0 : Heap) (n0 : Nat) (W0 : Wo n0 h0 (Rr)) :
    MetFree l y_hob (head1 (Jvm.Cond.code y_hob jdk_35_method_46_code 2 (some .long) :: ws) ({ frames := 2, cells := 0, slots := 0, locals := 32 } : Room)) (fun aa U => aa = #[(.long (23 : Int64))] ∧ Z.Warmed39 U.vm ∧ U.heap = h0) (fun _ _ _ _ _ => True) (fun _ U ou U' => ∃ v L, ou = .returned v ∧ QrmHO23 Z  Rr n0 v U'.heap L ∧ FrameEnd U ou U' L ({ frames := 2, cells := 0, slots := 0, locals := 32 } : Room).cells ({ frames := 2, cells := 0, slots := 0, locals := 32 } : Room).slots) := by
  refine MetFree.of_bodySF (plainFor_of_name pn_Long) hisR ?_
  intro p e s m args below meth c s₁ Bd hml0 hP hK
  obtain ⟨rfl, hZ, hh⟩ := hP
  have hx := Bd.exec
  have hby := Bd.bytes
  have hml : c.maxLocals = 2 := hml0
  have hD : ∀ (k : Nat) {pc : Nat} {i : Instr} {n : Nat}, Ld_hob[k]? = some (pc, i, n) → decode c.code pc = .ok (i, n) := by intro k pc i n h; exact hb hby (d_hob (pc, i, n) (mi k h))
  have hown : s.vm.findClass "java/lang/Long" = some m.cls := findClass_of_methodNamed Bd.named
  have hnm := (name_of_methodNamed Bd.named Bd.method).1
  have X0 : Stand p l e ({ frames := 2, cells := 0, slots := 0, locals := 32 } : Room) s m #[(.long (23 : Int64))] below meth c s₁ [] 0 0 := Stand.of_body Bd
  have e0 : s₁.heap = h0 := by rw [← hh, Bd.state]; rfl
  have N0 := Fr.nil n0
  obtain ⟨F0, hF0⟩ : ∃ F, F = mkF m 0 #[.val (.long (23 : Int64)), .second] [] := ⟨_, rfl⟩
  have pre0 : ∀ t, Steps p.tables e below (s₁.setTop F0) t → Steps p.tables e below (s₁.setTop (entryFrame m #[(.long (23 : Int64))] 2)) t := fun t k => castTop ((ef_rmHO23 m ).trans hF0.symm) k
  have K0 : Rch p e below s₁ F0 s₁ (mkF m 0 #[.val (.long (23 : Int64)), .second] []) := fun t k => castTop hF0 k
  have K1 : Rc K0 s₁ (mkF m 5 #[sJ 23, sV] [(kJ 23), (kJ (-9223372036854775808)), (kJ 23)]) := fun t k => K0 t (by
    refine XS.lloadN X0.here hx rfl (hD 0 rfl) rfl ?_
    refine X0.ldc2Long hx hown (mvT hZ (hw _ (mi 138 rfl))) (g := (mkF m 1 #[sJ 23, sV] [(kJ 23)])) rfl (hD 1 rfl) _ ?_
    refine XS.lloadN X0.here hx rfl (hD 2 rfl) rfl ?_
    exact k)
  obtain ⟨_, _, ⟨T2, L2, k2, n2⟩, -, X2, ⟨Lc2, hQ2, l2, y2, z2⟩, st2⟩ := Jvm.LawKit.callS X0 hx (y := y_lnl) hown (mvT hZ (hw _ (mi 139 rfl))) (mvT hZ (hw _ (mi 140 rfl))) (mvT hZ (hw _ (mi 136 rfl))) (mvT hZ (hw _ (mi 141 rfl))) (by decide) (backOf (W := 4) (rmLN23 l Z a0 hw []  (Rr) h0 n0 W0) hZ (hw _ (mi 141 rfl)) (hw _ (mi 136 rfl)) (by decide) (by decide)) (g := K1.g) rfl (by rw [hml]; rfl) (argsL := [(.long (23 : Int64))]) (rest := [(.long (-9223372036854775808 : Int64)), (.long (23 : Int64))]) (lenOf pd_lnl rfl) rfl (by show 2 * 0 + _ ≤ _; exact Nat.le_of_eq rfl) (hD 3 rfl) (fun _ _ => ⟨rfl, e0, (by decide : 0 + 0 ≤ _), (by decide : 0 + 0 ≤ _)⟩)
  dsimp only [Pt.U, Pt.locs, Pt.cells, Pt.slots] at X2 l2 y2 z2 st2 hQ2
  subst l2 y2 z2
  obtain ⟨rfl, N2q, W2⟩ := hQ2
  have N2 := Fr.app N0 N2q
  have K3 : Rc K0 T2 (mkF m 10 #[sJ 23, sV] [(kJ 16)]) := fun t k => K1 t (st2 t (by
    refine XS.lushr X2.here hx rfl (hD 4 rfl) rfl ?_
    refine XS.land X2.here hx rfl (hD 5 rfl) rfl ?_
    exact k))
  obtain ⟨fs, hr, hrun, hended, hWm, hsame⟩ := X2.leave (v := some (.long (16 : Int64))) (fun h => by rw [Bd.returns] at h; cases h)
  refine ⟨_, _, pre0 _ (K3 _ (Jvm.OwnKit.retL X2 hx Bd.returns (hD 6 rfl) hr)), hrun, hended, _, _, rfl, ?_, ⟨_, rfl⟩, hWm, hsame.mono (by decide) (by decide)⟩
  show QrmHO23 Z  Rr n0 _ T2.heap _
  exact ⟨rfl, N2, W2⟩
abbrev y_minl : MethodName := ⟨"java/lang/Math", "min", "(JJ)J"⟩
theorem pd_minl : parseMethodDescriptor "(JJ)J" = some ⟨[.long, .long], some .long⟩ := by decide +kernel
def Ld_minl : List (Nat × Instr × Nat) := [(0, .lload_n 0, 1), (1, .lload_n 2, 1), (2, .lcmp, 1), (3, .ifCond .gt 7, 3), (6, .lload_n 0, 1), (7, .goto 4, 3), (11, .lreturn, 1)]
set_option maxRecDepth 65536 in
theorem d_minl : ∀ x ∈ Ld_minl, decode jdk_29_method_70_code x.1 = .ok (x.2.1, x.2.2) := by decide +kernel
theorem ef_rmML (m : MethodId)  : entryFrame m #[(.long (4 : Int64)), (.long (2147483639 : Int64))] 4 = mkF m 0 #[.val (.long (4 : Int64)), .second, .val (.long (2147483639 : Int64)), .second] [] := by first | (simp [entryFrame, mkF, argsToLocals, Value.category]; done) | rfl
def QrmML (Z : State)  (Rr : List (Addr × (Cell → Prop))) (n0 : Nat) (v : Option Value) (h : Heap) (L : List Loc) : Prop := v = some (.long (4 : Int64)) ∧ Fr n0 L ∧ Wo n0 h (Rr)
set_option maxRecDepth 65536 in
set_option maxHeartbeats 40000000 in
theorem rmML (l : Launch) (Z : State) (a0 : Array Value) (hw : ∀ d ∈ tables_1, d.before a0 Z = true) (ws : List Jvm.Cond)  (Rr : List (Addr × (Cell → Prop))) (h0 : Heap) (n0 : Nat) (W0 : Wo n0 h0 (Rr)) :
    MetFree l y_minl (head1 (Jvm.Cond.code y_minl jdk_29_method_70_code 4 (some .long) :: ws) ({ frames := 0, cells := 0, slots := 0, locals := 0 } : Room)) (fun aa U => aa = #[(.long (4 : Int64)), (.long (2147483639 : Int64))] ∧ Z.Warmed39 U.vm ∧ U.heap = h0) (fun _ _ _ _ _ => True) (fun _ U ou U' => ∃ v L, ou = .returned v ∧ QrmML Z  Rr n0 v U'.heap L ∧ FrameEnd U ou U' L ({ frames := 0, cells := 0, slots := 0, locals := 0 } : Room).cells ({ frames := 0, cells := 0, slots := 0, locals := 0 } : Room).slots) := by
  refine MetFree.of_bodySF (Jvm.Free.JP.mathPlain rfl (by decide +kernel)) hisR ?_
  intro p e s m args below meth c s₁ Bd hml0 hP hK
  obtain ⟨rfl, hZ, hh⟩ := hP
  have hx := Bd.exec
  have hby := Bd.bytes
  have hml : c.maxLocals = 4 := hml0
  have hD : ∀ (k : Nat) {pc : Nat} {i : Instr} {n : Nat}, Ld_minl[k]? = some (pc, i, n) → decode c.code pc = .ok (i, n) := by intro k pc i n h; exact hb hby (d_minl (pc, i, n) (mi k h))
  have hown : s.vm.findClass "java/lang/Math" = some m.cls := findClass_of_methodNamed Bd.named
  have hnm := (name_of_methodNamed Bd.named Bd.method).1
  have X0 : Stand p l e ({ frames := 0, cells := 0, slots := 0, locals := 0 } : Room) s m #[(.long (4 : Int64)), (.long (2147483639 : Int64))] below meth c s₁ [] 0 0 := Stand.of_body Bd
  have e0 : s₁.heap = h0 := by rw [← hh, Bd.state]; rfl
  have N0 := Fr.nil n0
  obtain ⟨F0, hF0⟩ : ∃ F, F = mkF m 0 #[.val (.long (4 : Int64)), .second, .val (.long (2147483639 : Int64)), .second] [] := ⟨_, rfl⟩
  have pre0 : ∀ t, Steps p.tables e below (s₁.setTop F0) t → Steps p.tables e below (s₁.setTop (entryFrame m #[(.long (4 : Int64)), (.long (2147483639 : Int64))] 4)) t := fun t k => castTop ((ef_rmML m ).trans hF0.symm) k
  have K0 : Rch p e below s₁ F0 s₁ (mkF m 0 #[.val (.long (4 : Int64)), .second, .val (.long (2147483639 : Int64)), .second] []) := fun t k => castTop hF0 k
  have K1 : Rc K0 s₁ (mkF m 11 #[sJ 4, sV, sJ 2147483639, sV] [(kJ 4)]) := fun t k => K0 t (by
    refine XS.lloadN X0.here hx rfl (hD 0 rfl) rfl ?_
    refine XS.lloadN X0.here hx rfl (hD 1 rfl) rfl ?_
    refine XS.lcmp X0.here hx rfl (hD 2 rfl) rfl ?_
    refine XS.ifNo X0.here hx rfl (hD 3 rfl) rfl (by decide) ?_
    refine XS.lloadN X0.here hx rfl (hD 4 rfl) rfl ?_
    refine XS.goto X0.here hx rfl (pc0 := 7) (pc' := 11) rfl (hD 5 rfl) (by decide) (by decide) ?_
    exact k)
  obtain ⟨fs, hr, hrun, hended, hWm, hsame⟩ := X0.leave (v := some (.long (4 : Int64))) (fun h => by rw [Bd.returns] at h; cases h)
  refine ⟨_, _, pre0 _ (K1 _ (Jvm.OwnKit.retL X0 hx Bd.returns (hD 6 rfl) hr)), hrun, hended, _, _, rfl, ?_, ⟨_, rfl⟩, hWm, hsame.mono (by decide) (by decide)⟩
  show QrmML Z  Rr n0 _ s₁.heap _
  rw [e0]
  exact ⟨rfl, N0, W0⟩
abbrev y_fil : MethodName := ⟨"com/example/sambre/sambre/engine/ArrayLengths", "filling", "(JI)I"⟩
theorem pd_fil : parseMethodDescriptor "(JI)I" = some ⟨[.long, .int], some .int⟩ := by decide +kernel
theorem pn_ArrayLengths : plainName "com/example/sambre/sambre/engine/ArrayLengths" = true := by first | (simp [plainName, overriddenIn]; done) | decide +kernel
def Ld_fil : List (Nat × Instr × Nat) := [(0, .lload_n 0, 1), (1, .ldc2_w 11, 3), (4, .lsub, 1), (5, .iload_n 2, 1), (6, .i2l, 1), (7, .ldiv, 1), (8, .ldc2_w 13, 3), (11, .invokestatic 15, 3), (14, .l2i, 1), (15, .ireturn, 1)]
set_option maxRecDepth 65536 in
theorem d_fil : ∀ x ∈ Ld_fil, decode prog_6_method_2_code x.1 = .ok (x.2.1, x.2.2) := by decide +kernel
theorem ef_rmFI (m : MethodId)  : entryFrame m #[(.long (32 : Int64)), (.int (4 : Int32))] 3 = mkF m 0 #[.val (.long (32 : Int64)), .second, .val (.int (4 : Int32))] [] := by first | (simp [entryFrame, mkF, argsToLocals, Value.category]; done) | rfl
def QrmFI (Z : State)  (Rr : List (Addr × (Cell → Prop))) (n0 : Nat) (v : Option Value) (h : Heap) (L : List Loc) : Prop := v = some (.int (4 : Int32)) ∧ Fr n0 L ∧ Wo n0 h (Rr)
set_option maxRecDepth 65536 in
set_option maxHeartbeats 40000000 in
theorem rmFI (l : Launch) (Z : State) (a0 : Array Value) (hw : ∀ d ∈ tables_1, d.before a0 Z = true) (ws : List Jvm.Cond)  (Rr : List (Addr × (Cell → Prop))) (h0 : Heap) (n0 : Nat) (W0 : Wo n0 h0 (Rr)) :
    MetFree l y_fil (head1 (Jvm.Cond.code y_fil prog_6_method_2_code 3 (some .int) :: ws) ({ frames := 1, cells := 0, slots := 0, locals := 15 } : Room)) (fun aa U => aa = #[(.long (32 : Int64)), (.int (4 : Int32))] ∧ Z.Warmed39 U.vm ∧ U.heap = h0) (fun _ _ _ _ _ => True) (fun _ U ou U' => ∃ v L, ou = .returned v ∧ QrmFI Z  Rr n0 v U'.heap L ∧ FrameEnd U ou U' L ({ frames := 1, cells := 0, slots := 0, locals := 15 } : Room).cells ({ frames := 1, cells := 0, slots := 0, locals := 15 } : Room).slots) := by
  refine MetFree.of_bodySF (plainFor_of_name pn_ArrayLengths) hisR ?_
  intro p e s m args below meth c s₁ Bd hml0 hP hK
  obtain ⟨rfl, hZ, hh⟩ := hP
  have hx := Bd.exec
  have hby := Bd.bytes
  have hml : c.maxLocals = 3 := hml0
  have hD : ∀ (k : Nat) {pc : Nat} {i : Instr} {n : Nat}, Ld_fil[k]? = some (pc, i, n) → decode c.code pc = .ok (i, n) := by intro k pc i n h; exact hb hby (d_fil (pc, i, n) (mi k h))
  have hown : s.vm.findClass "com/example/sambre/sambre/engine/ArrayLengths" = some m.cls := findClass_of_methodNamed Bd.named
  have hnm := (name_of_methodNamed Bd.named Bd.method).1
  have X0 : Stand p l e ({ frames := 1, cells := 0, slots := 0, locals := 15 } : Room) s m #[(.long (32 : Int64)), (.int (4 : Int32))] below meth c s₁ [] 0 0 := Stand.of_body Bd
  have e0 : s₁.heap = h0 := by rw [← hh, Bd.state]; rfl
  have N0 := Fr.nil n0
  obtain ⟨F0, hF0⟩ : ∃ F, F = mkF m 0 #[.val (.long (32 : Int64)), .second, .val (.int (4 : Int32))] [] := ⟨_, rfl⟩
  have pre0 : ∀ t, Steps p.tables e below (s₁.setTop F0) t → Steps p.tables e below (s₁.setTop (entryFrame m #[(.long (32 : Int64)), (.int (4 : Int32))] 3)) t := fun t k => castTop ((ef_rmFI m ).trans hF0.symm) k
  have K0 : Rch p e below s₁ F0 s₁ (mkF m 0 #[.val (.long (32 : Int64)), .second, .val (.int (4 : Int32))] []) := fun t k => castTop hF0 k
  have K1 : Rc K0 s₁ (mkF m 11 #[sJ 32, sV, sI 4] [(kJ 2147483639), (kJ 4)]) := fun t k => K0 t (by
    refine XS.lloadN X0.here hx rfl (hD 0 rfl) rfl ?_
    refine X0.ldc2Long hx hown (mvT hZ (hw _ (mi 133 rfl))) (g := (mkF m 1 #[sJ 32, sV, sI 4] [(kJ 32)])) rfl (hD 1 rfl) _ ?_
    refine XS.lsub X0.here hx rfl (hD 2 rfl) rfl ?_
    refine XS.iloadN X0.here hx rfl (hD 3 rfl) rfl ?_
    refine XS.i2l X0.here hx rfl (hD 4 rfl) rfl ?_
    refine XS.ldiv X0.here hx rfl (hD 5 rfl) rfl (by decide) ?_
    refine X0.ldc2Long hx hown (mvT hZ (hw _ (mi 150 rfl))) (g := (mkF m 8 #[sJ 32, sV, sI 4] [(kJ 4)])) rfl (hD 6 rfl) _ ?_
    exact k)
  obtain ⟨_, _, ⟨T2, L2, k2, n2⟩, -, X2, ⟨Lc2, hQ2, l2, y2, z2⟩, st2⟩ := Jvm.LawKit.callS X0 hx (y := y_minl) hown (mvT hZ (hw _ (mi 151 rfl))) (mvT hZ (hw _ (mi 152 rfl))) (mvT hZ (hw _ (mi 153 rfl))) (mvT hZ (hw _ (mi 154 rfl))) (by decide) (backOf (W := 0) (rmML l Z a0 hw []  (Rr) h0 n0 W0) hZ (hw _ (mi 154 rfl)) (hw _ (mi 153 rfl)) (by decide) (by decide)) (g := K1.g) rfl (by rw [hml]; rfl) (argsL := [(.long (4 : Int64)), (.long (2147483639 : Int64))]) (rest := []) (lenOf pd_minl rfl) rfl (by show 2 * 0 + _ ≤ _; exact Nat.le_of_eq rfl) (hD 7 rfl) (fun _ _ => ⟨rfl, e0, (by decide : 0 + 0 ≤ _), (by decide : 0 + 0 ≤ _)⟩)
  dsimp only [Pt.U, Pt.locs, Pt.cells, Pt.slots] at X2 l2 y2 z2 st2 hQ2
  subst l2 y2 z2
  obtain ⟨rfl, N2q, W2⟩ := hQ2
  have N2 := Fr.app N0 N2q
  have K3 : Rc K0 T2 (mkF m 15 #[sJ 32, sV, sI 4] [(kI 4)]) := fun t k => K1 t (st2 t (XS.l2i X2.here hx rfl (hD 8 rfl) rfl k))
  obtain ⟨fs, hr, hrun, hended, hWm, hsame⟩ := X2.leave (v := some (.int (4 : Int32))) (fun h => by rw [Bd.returns] at h; cases h)
  refine ⟨_, _, pre0 _ (K3 _ (retI X2 hx Bd.returns (hD 9 rfl) hr)), hrun, hended, _, _, rfl, ?_, ⟨_, rfl⟩, hWm, hsame.mono (by decide) (by decide)⟩
  show QrmFI Z  Rr n0 _ T2.heap _
  exact ⟨rfl, N2, W2⟩
abbrev y_atl : MethodName := ⟨"com/example/sambre/sambre/engine/ArrayLengths", "atLeast", "(II)I"⟩
theorem pd_atl : parseMethodDescriptor "(II)I" = some ⟨[.int, .int], some .int⟩ := by decide +kernel
def Ld_atl : List (Nat × Instr × Nat) := [(0, .ldc2_w 11, 3), (3, .iload_n 0, 1), (4, .i2l, 1), (5, .iload_n 1, 1), (6, .i2l, 1), (7, .lmul, 1), (8, .ladd, 1), (9, .lstore_n 2, 1), (10, .lload_n 2, 1), (11, .lconst 1, 1), (12, .lsub, 1), (13, .invokestatic 21, 3), (16, .iconst 1, 1), (17, .lshl, 1), (18, .iload_n 1, 1), (19, .invokestatic 27, 3), (22, .ireturn, 1)]
set_option maxRecDepth 65536 in
theorem d_atl : ∀ x ∈ Ld_atl, decode prog_6_method_3_code x.1 = .ok (x.2.1, x.2.2) := by decide +kernel
theorem ef_rmAL1 (m : MethodId)  : entryFrame m #[(.int (1 : Int32)), (.int (4 : Int32))] 4 = mkF m 0 #[.val (.int (1 : Int32)), .val (.int (4 : Int32)), .unset, .unset] [] := by first | (simp [entryFrame, mkF, argsToLocals, Value.category]; done) | rfl
def QrmAL1 (Z : State)  (Rr : List (Addr × (Cell → Prop))) (n0 : Nat) (v : Option Value) (h : Heap) (L : List Loc) : Prop := v = some (.int (4 : Int32)) ∧ Fr n0 L ∧ Wo n0 h (Rr)
set_option maxRecDepth 65536 in
set_option maxHeartbeats 40000000 in
theorem rmAL1 (l : Launch) (Z : State) (a0 : Array Value) (hw : ∀ d ∈ tables_1, d.before a0 Z = true) (ws : List Jvm.Cond)  (Rr : List (Addr × (Cell → Prop))) (h0 : Heap) (n0 : Nat) (W0 : Wo n0 h0 (Rr)) :
    MetFree l y_atl (head1 (Jvm.Cond.code y_atl prog_6_method_3_code 4 (some .int) :: ws) ({ frames := 3, cells := 0, slots := 0, locals := 45 } : Room)) (fun aa U => aa = #[(.int (1 : Int32)), (.int (4 : Int32))] ∧ Z.Warmed39 U.vm ∧ U.heap = h0) (fun _ _ _ _ _ => True) (fun _ U ou U' => ∃ v L, ou = .returned v ∧ QrmAL1 Z  Rr n0 v U'.heap L ∧ FrameEnd U ou U' L ({ frames := 3, cells := 0, slots := 0, locals := 45 } : Room).cells ({ frames := 3, cells := 0, slots := 0, locals := 45 } : Room).slots) := by
  refine MetFree.of_bodySF (plainFor_of_name pn_ArrayLengths) hisR ?_
  intro p e s m args below meth c s₁ Bd hml0 hP hK
  obtain ⟨rfl, hZ, hh⟩ := hP
  have hx := Bd.exec
  have hby := Bd.bytes
  have hml : c.maxLocals = 4 := hml0
  have hD : ∀ (k : Nat) {pc : Nat} {i : Instr} {n : Nat}, Ld_atl[k]? = some (pc, i, n) → decode c.code pc = .ok (i, n) := by intro k pc i n h; exact hb hby (d_atl (pc, i, n) (mi k h))
  have hown : s.vm.findClass "com/example/sambre/sambre/engine/ArrayLengths" = some m.cls := findClass_of_methodNamed Bd.named
  have hnm := (name_of_methodNamed Bd.named Bd.method).1
  have X0 : Stand p l e ({ frames := 3, cells := 0, slots := 0, locals := 45 } : Room) s m #[(.int (1 : Int32)), (.int (4 : Int32))] below meth c s₁ [] 0 0 := Stand.of_body Bd
  have e0 : s₁.heap = h0 := by rw [← hh, Bd.state]; rfl
  have N0 := Fr.nil n0
  obtain ⟨F0, hF0⟩ : ∃ F, F = mkF m 0 #[.val (.int (1 : Int32)), .val (.int (4 : Int32)), .unset, .unset] [] := ⟨_, rfl⟩
  have pre0 : ∀ t, Steps p.tables e below (s₁.setTop F0) t → Steps p.tables e below (s₁.setTop (entryFrame m #[(.int (1 : Int32)), (.int (4 : Int32))] 4)) t := fun t k => castTop ((ef_rmAL1 m ).trans hF0.symm) k
  have K0 : Rch p e below s₁ F0 s₁ (mkF m 0 #[.val (.int (1 : Int32)), .val (.int (4 : Int32)), .unset, .unset] []) := fun t k => castTop hF0 k
  have K1 : Rc K0 s₁ (mkF m 13 #[sI 1, sI 4, sJ 20, sV] [(kJ 19)]) := fun t k => K0 t (by
    refine X0.ldc2Long hx hown (mvT hZ (hw _ (mi 133 rfl))) (g := (mkF m 0 #[sI 1, sI 4, sU, sU] [])) rfl (hD 0 rfl) _ ?_
    refine XS.iloadN X0.here hx rfl (hD 1 rfl) rfl ?_
    refine XS.i2l X0.here hx rfl (hD 2 rfl) rfl ?_
    refine XS.iloadN X0.here hx rfl (hD 3 rfl) rfl ?_
    refine XS.i2l X0.here hx rfl (hD 4 rfl) rfl ?_
    refine XS.lmul X0.here hx rfl (hD 5 rfl) rfl ?_
    refine XS.ladd X0.here hx rfl (hD 6 rfl) rfl ?_
    refine XS.lstoreN X0.here hx rfl (hD 7 rfl) rfl (l' := #[sI 1, sI 4, sJ 20, sV]) rfl ?_
    refine XS.lloadN X0.here hx rfl (hD 8 rfl) rfl ?_
    refine XS.lconst X0.here hx rfl (hD 9 rfl) ?_
    refine XS.lsub X0.here hx rfl (hD 10 rfl) rfl ?_
    exact k)
  obtain ⟨_, _, ⟨T2, L2, k2, n2⟩, -, X2, ⟨Lc2, hQ2, l2, y2, z2⟩, st2⟩ := Jvm.LawKit.callS X0 hx (y := y_hob) hown (mvT hZ (hw _ (mi 134 rfl))) (mvT hZ (hw _ (mi 135 rfl))) (mvT hZ (hw _ (mi 136 rfl))) (mvT hZ (hw _ (mi 137 rfl))) (by decide) (backOf (W := 0) (rmHO19 l Z a0 hw []  (Rr) h0 n0 W0) hZ (hw _ (mi 137 rfl)) (hw _ (mi 136 rfl)) (by decide) (by decide)) (g := K1.g) rfl (by rw [hml]; rfl) (argsL := [(.long (19 : Int64))]) (rest := []) (lenOf pd_hob rfl) rfl (by show 2 * 0 + _ ≤ _; exact Nat.le_of_eq rfl) (hD 11 rfl) (fun _ _ => ⟨rfl, e0, (by decide : 0 + 0 ≤ _), (by decide : 0 + 0 ≤ _)⟩)
  dsimp only [Pt.U, Pt.locs, Pt.cells, Pt.slots] at X2 l2 y2 z2 st2 hQ2
  subst l2 y2 z2
  obtain ⟨rfl, N2q, W2⟩ := hQ2
  have N2 := Fr.app N0 N2q
  have K3 : Rc K0 T2 (mkF m 19 #[sI 1, sI 4, sJ 20, sV] [(kI 4), (kJ 32)]) := fun t k => K1 t (st2 t (by
    refine XS.iconst X2.here hx rfl (hD 12 rfl) ?_
    refine XS.lshl X2.here hx rfl (hD 13 rfl) rfl ?_
    refine XS.iloadN X2.here hx rfl (hD 14 rfl) rfl ?_
    exact k))
  obtain ⟨_, _, ⟨T4, L4, k4, n4⟩, -, X4, ⟨Lc4, hQ4, l4, y4, z4⟩, st4⟩ := Jvm.LawKit.callS X2 hx (y := y_fil) hown (mvT hZ (hw _ (mi 147 rfl))) (mvT hZ (hw _ (mi 148 rfl))) (mvT hZ (hw _ (mi 131 rfl))) (mvT hZ (hw _ (mi 149 rfl))) (by decide) (backOf (W := 0) (rmFI l Z a0 hw []  (Rr) T2.heap n0 W2) hZ (hw _ (mi 149 rfl)) (hw _ (mi 131 rfl)) (by decide) (by decide)) (g := K3.g) rfl (by rw [hml]; rfl) (argsL := [(.long (32 : Int64)), (.int (4 : Int32))]) (rest := []) (lenOf pd_fil rfl) rfl (by show 2 * 0 + _ ≤ _; exact Nat.le_of_eq rfl) (hD 15 rfl) (fun _ _ => ⟨rfl, (rfl : T2.heap = T2.heap), (by decide : 0 + 0 ≤ _), (by decide : 0 + 0 ≤ _)⟩)
  dsimp only [Pt.U, Pt.locs, Pt.cells, Pt.slots] at X4 l4 y4 z4 st4 hQ4
  subst l4 y4 z4
  obtain ⟨rfl, N4q, W4⟩ := hQ4
  have N4 := Fr.app N2 N4q
  have K5 : Rc K0 T4 (mkF m 22 #[sI 1, sI 4, sJ 20, sV] [(kI 4)]) := fun t k => K3 t (st4 t (k))
  obtain ⟨fs, hr, hrun, hended, hWm, hsame⟩ := X4.leave (v := some (.int (4 : Int32))) (fun h => by rw [Bd.returns] at h; cases h)
  refine ⟨_, _, pre0 _ (K5 _ (retI X4 hx Bd.returns (hD 16 rfl) hr)), hrun, hended, _, _, rfl, ?_, ⟨_, rfl⟩, hWm, hsame.mono (by decide) (by decide)⟩
  show QrmAL1 Z  Rr n0 _ T4.heap _
  exact ⟨rfl, N4, W4⟩
theorem ef_rmAL2 (m : MethodId)  : entryFrame m #[(.int (2 : Int32)), (.int (4 : Int32))] 4 = mkF m 0 #[.val (.int (2 : Int32)), .val (.int (4 : Int32)), .unset, .unset] [] := by first | (simp [entryFrame, mkF, argsToLocals, Value.category]; done) | rfl
def QrmAL2 (Z : State)  (Rr : List (Addr × (Cell → Prop))) (n0 : Nat) (v : Option Value) (h : Heap) (L : List Loc) : Prop := v = some (.int (4 : Int32)) ∧ Fr n0 L ∧ Wo n0 h (Rr)
set_option maxRecDepth 65536 in
set_option maxHeartbeats 40000000 in
theorem rmAL2 (l : Launch) (Z : State) (a0 : Array Value) (hw : ∀ d ∈ tables_1, d.before a0 Z = true) (ws : List Jvm.Cond)  (Rr : List (Addr × (Cell → Prop))) (h0 : Heap) (n0 : Nat) (W0 : Wo n0 h0 (Rr)) :
    MetFree l y_atl (head1 (Jvm.Cond.code y_atl prog_6_method_3_code 4 (some .int) :: ws) ({ frames := 3, cells := 0, slots := 0, locals := 45 } : Room)) (fun aa U => aa = #[(.int (2 : Int32)), (.int (4 : Int32))] ∧ Z.Warmed39 U.vm ∧ U.heap = h0) (fun _ _ _ _ _ => True) (fun _ U ou U' => ∃ v L, ou = .returned v ∧ QrmAL2 Z  Rr n0 v U'.heap L ∧ FrameEnd U ou U' L ({ frames := 3, cells := 0, slots := 0, locals := 45 } : Room).cells ({ frames := 3, cells := 0, slots := 0, locals := 45 } : Room).slots) := by
  refine MetFree.of_bodySF (plainFor_of_name pn_ArrayLengths) hisR ?_
  intro p e s m args below meth c s₁ Bd hml0 hP hK
  obtain ⟨rfl, hZ, hh⟩ := hP
  have hx := Bd.exec
  have hby := Bd.bytes
  have hml : c.maxLocals = 4 := hml0
  have hD : ∀ (k : Nat) {pc : Nat} {i : Instr} {n : Nat}, Ld_atl[k]? = some (pc, i, n) → decode c.code pc = .ok (i, n) := by intro k pc i n h; exact hb hby (d_atl (pc, i, n) (mi k h))
  have hown : s.vm.findClass "com/example/sambre/sambre/engine/ArrayLengths" = some m.cls := findClass_of_methodNamed Bd.named
  have hnm := (name_of_methodNamed Bd.named Bd.method).1
  have X0 : Stand p l e ({ frames := 3, cells := 0, slots := 0, locals := 45 } : Room) s m #[(.int (2 : Int32)), (.int (4 : Int32))] below meth c s₁ [] 0 0 := Stand.of_body Bd
  have e0 : s₁.heap = h0 := by rw [← hh, Bd.state]; rfl
  have N0 := Fr.nil n0
  obtain ⟨F0, hF0⟩ : ∃ F, F = mkF m 0 #[.val (.int (2 : Int32)), .val (.int (4 : Int32)), .unset, .unset] [] := ⟨_, rfl⟩
  have pre0 : ∀ t, Steps p.tables e below (s₁.setTop F0) t → Steps p.tables e below (s₁.setTop (entryFrame m #[(.int (2 : Int32)), (.int (4 : Int32))] 4)) t := fun t k => castTop ((ef_rmAL2 m ).trans hF0.symm) k
  have K0 : Rch p e below s₁ F0 s₁ (mkF m 0 #[.val (.int (2 : Int32)), .val (.int (4 : Int32)), .unset, .unset] []) := fun t k => castTop hF0 k
  have K1 : Rc K0 s₁ (mkF m 13 #[sI 2, sI 4, sJ 24, sV] [(kJ 23)]) := fun t k => K0 t (by
    refine X0.ldc2Long hx hown (mvT hZ (hw _ (mi 133 rfl))) (g := (mkF m 0 #[sI 2, sI 4, sU, sU] [])) rfl (hD 0 rfl) _ ?_
    refine XS.iloadN X0.here hx rfl (hD 1 rfl) rfl ?_
    refine XS.i2l X0.here hx rfl (hD 2 rfl) rfl ?_
    refine XS.iloadN X0.here hx rfl (hD 3 rfl) rfl ?_
    refine XS.i2l X0.here hx rfl (hD 4 rfl) rfl ?_
    refine XS.lmul X0.here hx rfl (hD 5 rfl) rfl ?_
    refine XS.ladd X0.here hx rfl (hD 6 rfl) rfl ?_
    refine XS.lstoreN X0.here hx rfl (hD 7 rfl) rfl (l' := #[sI 2, sI 4, sJ 24, sV]) rfl ?_
    refine XS.lloadN X0.here hx rfl (hD 8 rfl) rfl ?_
    refine XS.lconst X0.here hx rfl (hD 9 rfl) ?_
    refine XS.lsub X0.here hx rfl (hD 10 rfl) rfl ?_
    exact k)
  obtain ⟨_, _, ⟨T2, L2, k2, n2⟩, -, X2, ⟨Lc2, hQ2, l2, y2, z2⟩, st2⟩ := Jvm.LawKit.callS X0 hx (y := y_hob) hown (mvT hZ (hw _ (mi 134 rfl))) (mvT hZ (hw _ (mi 135 rfl))) (mvT hZ (hw _ (mi 136 rfl))) (mvT hZ (hw _ (mi 137 rfl))) (by decide) (backOf (W := 0) (rmHO23 l Z a0 hw []  (Rr) h0 n0 W0) hZ (hw _ (mi 137 rfl)) (hw _ (mi 136 rfl)) (by decide) (by decide)) (g := K1.g) rfl (by rw [hml]; rfl) (argsL := [(.long (23 : Int64))]) (rest := []) (lenOf pd_hob rfl) rfl (by show 2 * 0 + _ ≤ _; exact Nat.le_of_eq rfl) (hD 11 rfl) (fun _ _ => ⟨rfl, e0, (by decide : 0 + 0 ≤ _), (by decide : 0 + 0 ≤ _)⟩)
  dsimp only [Pt.U, Pt.locs, Pt.cells, Pt.slots] at X2 l2 y2 z2 st2 hQ2
  subst l2 y2 z2
  obtain ⟨rfl, N2q, W2⟩ := hQ2
  have N2 := Fr.app N0 N2q
  have K3 : Rc K0 T2 (mkF m 19 #[sI 2, sI 4, sJ 24, sV] [(kI 4), (kJ 32)]) := fun t k => K1 t (st2 t (by
    refine XS.iconst X2.here hx rfl (hD 12 rfl) ?_
    refine XS.lshl X2.here hx rfl (hD 13 rfl) rfl ?_
    refine XS.iloadN X2.here hx rfl (hD 14 rfl) rfl ?_
    exact k))
  obtain ⟨_, _, ⟨T4, L4, k4, n4⟩, -, X4, ⟨Lc4, hQ4, l4, y4, z4⟩, st4⟩ := Jvm.LawKit.callS X2 hx (y := y_fil) hown (mvT hZ (hw _ (mi 147 rfl))) (mvT hZ (hw _ (mi 148 rfl))) (mvT hZ (hw _ (mi 131 rfl))) (mvT hZ (hw _ (mi 149 rfl))) (by decide) (backOf (W := 0) (rmFI l Z a0 hw []  (Rr) T2.heap n0 W2) hZ (hw _ (mi 149 rfl)) (hw _ (mi 131 rfl)) (by decide) (by decide)) (g := K3.g) rfl (by rw [hml]; rfl) (argsL := [(.long (32 : Int64)), (.int (4 : Int32))]) (rest := []) (lenOf pd_fil rfl) rfl (by show 2 * 0 + _ ≤ _; exact Nat.le_of_eq rfl) (hD 15 rfl) (fun _ _ => ⟨rfl, (rfl : T2.heap = T2.heap), (by decide : 0 + 0 ≤ _), (by decide : 0 + 0 ≤ _)⟩)
  dsimp only [Pt.U, Pt.locs, Pt.cells, Pt.slots] at X4 l4 y4 z4 st4 hQ4
  subst l4 y4 z4
  obtain ⟨rfl, N4q, W4⟩ := hQ4
  have N4 := Fr.app N2 N4q
  have K5 : Rc K0 T4 (mkF m 22 #[sI 2, sI 4, sJ 24, sV] [(kI 4)]) := fun t k => K3 t (st4 t (k))
  obtain ⟨fs, hr, hrun, hended, hWm, hsame⟩ := X4.leave (v := some (.int (4 : Int32))) (fun h => by rw [Bd.returns] at h; cases h)
  refine ⟨_, _, pre0 _ (K5 _ (retI X4 hx Bd.returns (hD 16 rfl) hr)), hrun, hended, _, _, rfl, ?_, ⟨_, rfl⟩, hWm, hsame.mono (by decide) (by decide)⟩
  show QrmAL2 Z  Rr n0 _ T4.heap _
  exact ⟨rfl, N4, W4⟩
abbrev y_ri : MethodName := ⟨"com/example/sambre/sambre/engine/Rows", "<init>", "()V"⟩
theorem pd_ri : parseMethodDescriptor "()V" = some ⟨[], none⟩ := by decide +kernel
theorem pn_Rows : plainName "com/example/sambre/sambre/engine/Rows" = true := by first | (simp [plainName, overriddenIn]; done) | decide +kernel
def Ld_ri : List (Nat × Instr × Nat) := [(0, .aload_n 0, 1), (1, .invokespecial 1, 3), (4, .aload_n 0, 1), (5, .iconst 0, 1), (6, .newarray .int, 2), (8, .putfield 7, 3), (11, .aload_n 0, 1), (12, .iconst 0, 1), (13, .newarray .int, 2), (15, .putfield 13, 3), (18, .aload_n 0, 1), (19, .bipush 16, 2), (21, .newarray .int, 2), (23, .putfield 16, 3), (26, .aload_n 0, 1), (27, .bipush 17, 2), (29, .newarray .int, 2), (31, .putfield 19, 3), (34, .aload_n 0, 1), (35, .bipush 17, 2), (37, .newarray .int, 2), (39, .putfield 22, 3), (42, .aload_n 0, 1), (43, .bipush 16, 2), (45, .newarray .int, 2), (47, .putfield 25, 3), (50, .aload_n 0, 1), (51, .bipush 17, 2), (53, .newarray .int, 2), (55, .putfield 28, 3), (58, .aload_n 0, 1), (59, .bipush 17, 2), (61, .newarray .int, 2), (63, .putfield 31, 3), (66, .aload_n 0, 1), (67, .bipush 17, 2), (69, .newarray .int, 2), (71, .putfield 34, 3), (74, .aload_n 0, 1), (75, .bipush 17, 2), (77, .newarray .int, 2), (79, .putfield 37, 3), (82, .aload_n 0, 1), (83, .bipush 16, 2), (85, .newarray .int, 2), (87, .putfield 40, 3), (90, .aload_n 0, 1), (91, .bipush 16, 2), (93, .newarray .int, 2), (95, .putfield 43, 3), (98, .aload_n 0, 1), (99, .bipush 64, 2), (101, .newarray .int, 2), (103, .putfield 46, 3), (106, .aload_n 0, 1), (107, .bipush 64, 2), (109, .newarray .double, 2), (111, .putfield 49, 3), (114, .return_, 1)]
set_option maxRecDepth 65536 in
theorem d_ri : ∀ x ∈ Ld_ri, decode prog_87_method_1_code x.1 = .ok (x.2.1, x.2.2) := by decide +kernel
theorem ef_rmRI (m : MethodId) (r : Addr) : entryFrame m #[(.ref r)] 1 = mkF m 0 #[.val (.ref r)] [] := by first | (simp [entryFrame, mkF, argsToLocals, Value.category]; done) | rfl
def QrmRI (Z : State) (r : Addr) (Rr : List (Addr × (Cell → Prop))) (n0 : Nat) (v : Option Value) (h : Heap) (L : List Loc) : Prop := ∃ a43 a40 a37 a34 a31 a28 a25 a22 a19 a16 a13 a10 a7 a4, v = none ∧ Fr n0 L ∧ Wo n0 h ((a43, Ar Z .double 64 zD) :: (a40, Ar Z .int 64 zI) :: (a37, Ar Z .int 16 zI) :: (a34, Ar Z .int 16 zI) :: (a31, Ar Z .int 17 zI) :: (a28, Ar Z .int 17 zI) :: (a25, Ar Z .int 17 zI) :: (a22, Ar Z .int 17 zI) :: (a19, Ar Z .int 16 zI) :: (a16, Ar Z .int 17 zI) :: (a13, Ar Z .int 17 zI) :: (a10, Ar Z .int 16 zI) :: (a7, Ar Z .int 0 zI) :: (a4, Ar Z .int 0 zI) :: (r, oR Z [(kR a4), (kR a7), (kR a10), (kR a13), (kR a16), (kR a19), (kR a22), (kR a25), (kR a28), (kR a31), (kR a34), (kR a37), (kR a40), (kR a43), (kI 0), .null, (kI 0), .null, .null, .null, .null, .null, .null, (kI 0), (kI 0)]) :: Rr)
set_option maxRecDepth 65536 in
set_option maxHeartbeats 40000000 in
theorem rmRI (l : Launch) (Z : State) (a0 : Array Value) (hw : ∀ d ∈ tables_1, d.before a0 Z = true) (ws : List Jvm.Cond) (r : Addr) (Rr : List (Addr × (Cell → Prop))) (h0 : Heap) (n0 : Nat) (W0 : Wo n0 h0 ((r, oR Z [.null, .null, .null, .null, .null, .null, .null, .null, .null, .null, .null, .null, .null, .null, (kI 0), .null, (kI 0), .null, .null, .null, .null, .null, .null, (kI 0), (kI 0)]) :: Rr)) :
    MetFree l y_ri (head1 (Jvm.Cond.code y_ri prog_87_method_1_code 1 none :: ws) ({ frames := 1, cells := 14, slots := 294, locals := 12 } : Room)) (fun aa U => aa = #[(.ref r)] ∧ Z.Warmed39 U.vm ∧ U.heap = h0) (fun _ _ _ _ _ => True) (fun _ U ou U' => ∃ v L, ou = .returned v ∧ QrmRI Z r Rr n0 v U'.heap L ∧ FrameEnd U ou U' L ({ frames := 1, cells := 14, slots := 294, locals := 12 } : Room).cells ({ frames := 1, cells := 14, slots := 294, locals := 12 } : Room).slots) := by
  refine MetFree.of_bodySF (plainFor_of_name pn_Rows) hisR ?_
  intro p e s m args below meth c s₁ Bd hml0 hP hK
  obtain ⟨rfl, hZ, hh⟩ := hP
  have hx := Bd.exec
  have hby := Bd.bytes
  have hml : c.maxLocals = 1 := hml0
  have hD : ∀ (k : Nat) {pc : Nat} {i : Instr} {n : Nat}, Ld_ri[k]? = some (pc, i, n) → decode c.code pc = .ok (i, n) := by intro k pc i n h; exact hb hby (d_ri (pc, i, n) (mi k h))
  have hown : s.vm.findClass "com/example/sambre/sambre/engine/Rows" = some m.cls := findClass_of_methodNamed Bd.named
  have hnm := (name_of_methodNamed Bd.named Bd.method).1
  have X0 : Stand p l e ({ frames := 1, cells := 14, slots := 294, locals := 12 } : Room) s m #[(.ref r)] below meth c s₁ [] 0 0 := Stand.of_body Bd
  have e0 : s₁.heap = h0 := by rw [← hh, Bd.state]; rfl
  have N0 := Fr.nil n0
  obtain ⟨F0, hF0⟩ : ∃ F, F = mkF m 0 #[.val (.ref r)] [] := ⟨_, rfl⟩
  have pre0 : ∀ t, Steps p.tables e below (s₁.setTop F0) t → Steps p.tables e below (s₁.setTop (entryFrame m #[(.ref r)] 1)) t := fun t k => castTop ((ef_rmRI m r).trans hF0.symm) k
  have K0 : Rch p e below s₁ F0 s₁ (mkF m 0 #[.val (.ref r)] []) := fun t k => castTop hF0 k
  have K1 : Rc K0 s₁ (mkF m 1 #[sR r] [(kR r)]) := fun t k => K0 t (XS.aloadN X0.here hx rfl (hD 0 rfl) rfl rfl k)
  obtain ⟨T2, X2, e2, st2⟩ := initO X0 hx hZ hown (hw _ (mi 13 rfl)) (hw _ (mi 14 rfl)) (hw _ (mi 15 rfl)) e0 (g := K1.g) rfl (by rw [hml]; rfl) rfl (hD 1 rfl) (by decide) (W := 0) (by show 2 * 0 + _ ≤ _; exact Nat.le_of_eq rfl) (by decide)
  have K3 : Rc K0 T2 (mkF m 6 #[sR r] [(kI 0), (kR r)]) := fun t k => K1 t (st2 t (by
    refine XS.aloadN X2.here hx rfl (hD 2 rfl) rfl rfl ?_
    refine XS.iconst X2.here hx rfl (hD 3 rfl) ?_
    exact k))
  obtain ⟨T4, h4, a4, X4, e4, W4q, st4⟩ := newWA X2 hx hZ (aty := .int) (ty := .int) rfl (hw _ (mi 6 rfl)) e2 W0 (g := K3.g) rfl (hD 4 rfl) (z := (0 : Int32)) (n := 0) rfl (by decide) (by decide) (cap := 0) (by decide) (by decide) (by decide : 0 + 1 ≤ _) (by decide : 0 + 0 ≤ _)
  obtain ⟨T5, h5, L5, X5, e5, N5, W5q, st5⟩ := putW X4 hx hZ hown (host := "") (Or.inl (hw _ (mi 16 rfl))) e4 W4q N0 (own_dR hw) (Or.inl (hw _ (mi 17 rfl))) (hw _ (mi 8 rfl)) (ty := (.array .int)) (by decide +kernel) (i := 1) (a := r) rfl (j := 0) rfl rfl (v := (.ref a4)) rfl rfl (g := (mkF m 8 #[sR r] [(kR a4), (kR r)])) rfl rfl (hD 5 rfl)
  have K6 : Rc K0 T5 (mkF m 13 #[sR r] [(kI 0), (kR r)]) := fun t k => K3 t (st4 t (st5 t (by
    refine XS.aloadN X5.here hx rfl (hD 6 rfl) rfl rfl ?_
    refine XS.iconst X5.here hx rfl (hD 7 rfl) ?_
    exact k)))
  obtain ⟨T7, h7, a7, X7, e7, W7q, st7⟩ := newWA X5 hx hZ (aty := .int) (ty := .int) rfl (hw _ (mi 6 rfl)) e5 W5q (g := K6.g) rfl (hD 8 rfl) (z := (0 : Int32)) (n := 0) rfl (by decide) (by decide) (cap := 0) (by decide) (by decide) (by decide : 1 + 1 ≤ _) (by decide : 0 + 0 ≤ _)
  obtain ⟨T8, h8, L8, X8, e8, N8, W8q, st8⟩ := putW X7 hx hZ hown (host := "") (Or.inl (hw _ (mi 18 rfl))) e7 W7q N5 (own_dR hw) (Or.inl (hw _ (mi 19 rfl))) (hw _ (mi 8 rfl)) (ty := (.array .int)) (by decide +kernel) (i := 2) (a := r) rfl (j := 1) rfl rfl (v := (.ref a7)) rfl rfl (g := (mkF m 15 #[sR r] [(kR a7), (kR r)])) rfl rfl (hD 9 rfl)
  have W8 : Wo n0 h8 ((a7, Ar Z .int 0 zI) :: (a4, Ar Z .int 0 zI) :: (r, oR Z [(kR a4), (kR a7), .null, .null, .null, .null, .null, .null, .null, .null, .null, .null, .null, .null, (kI 0), .null, (kI 0), .null, .null, .null, .null, .null, .null, (kI 0), (kI 0)]) :: Rr) := W8q
  have K9 : Rc K0 T8 (mkF m 21 #[sR r] [(kI 16), (kR r)]) := fun t k => K6 t (st7 t (st8 t (by
    refine XS.aloadN X8.here hx rfl (hD 10 rfl) rfl rfl ?_
    refine XS.bipush X8.here hx rfl (hD 11 rfl) ?_
    exact k)))
  obtain ⟨T10, h10, a10, X10, e10, W10q, st10⟩ := newWA X8 hx hZ (aty := .int) (ty := .int) rfl (hw _ (mi 6 rfl)) e8 W8 (g := K9.g) rfl (hD 12 rfl) (z := (16 : Int32)) (n := 16) rfl (by decide) (by decide) (cap := 16) (by decide) (by decide) (by decide : 2 + 1 ≤ _) (by decide : 0 + 16 ≤ _)
  obtain ⟨T11, h11, L11, X11, e11, N11, W11q, st11⟩ := putW X10 hx hZ hown (host := "") (Or.inl (hw _ (mi 20 rfl))) e10 W10q N8 (own_dR hw) (Or.inl (hw _ (mi 21 rfl))) (hw _ (mi 8 rfl)) (ty := (.array .int)) (by decide +kernel) (i := 3) (a := r) rfl (j := 2) rfl rfl (v := (.ref a10)) rfl rfl (g := (mkF m 23 #[sR r] [(kR a10), (kR r)])) rfl rfl (hD 13 rfl)
  have K12 : Rc K0 T11 (mkF m 29 #[sR r] [(kI 17), (kR r)]) := fun t k => K9 t (st10 t (st11 t (by
    refine XS.aloadN X11.here hx rfl (hD 14 rfl) rfl rfl ?_
    refine XS.bipush X11.here hx rfl (hD 15 rfl) ?_
    exact k)))
  obtain ⟨T13, h13, a13, X13, e13, W13q, st13⟩ := newWA X11 hx hZ (aty := .int) (ty := .int) rfl (hw _ (mi 6 rfl)) e11 W11q (g := K12.g) rfl (hD 16 rfl) (z := (17 : Int32)) (n := 17) rfl (by decide) (by decide) (cap := 17) (by decide) (by decide) (by decide : 3 + 1 ≤ _) (by decide : 16 + 17 ≤ _)
  obtain ⟨T14, h14, L14, X14, e14, N14, W14q, st14⟩ := putW X13 hx hZ hown (host := "") (Or.inl (hw _ (mi 22 rfl))) e13 W13q N11 (own_dR hw) (Or.inl (hw _ (mi 23 rfl))) (hw _ (mi 8 rfl)) (ty := (.array .int)) (by decide +kernel) (i := 4) (a := r) rfl (j := 3) rfl rfl (v := (.ref a13)) rfl rfl (g := (mkF m 31 #[sR r] [(kR a13), (kR r)])) rfl rfl (hD 17 rfl)
  have W14 : Wo n0 h14 ((a13, Ar Z .int 17 zI) :: (a10, Ar Z .int 16 zI) :: (a7, Ar Z .int 0 zI) :: (a4, Ar Z .int 0 zI) :: (r, oR Z [(kR a4), (kR a7), (kR a10), (kR a13), .null, .null, .null, .null, .null, .null, .null, .null, .null, .null, (kI 0), .null, (kI 0), .null, .null, .null, .null, .null, .null, (kI 0), (kI 0)]) :: Rr) := W14q
  have K15 : Rc K0 T14 (mkF m 37 #[sR r] [(kI 17), (kR r)]) := fun t k => K12 t (st13 t (st14 t (by
    refine XS.aloadN X14.here hx rfl (hD 18 rfl) rfl rfl ?_
    refine XS.bipush X14.here hx rfl (hD 19 rfl) ?_
    exact k)))
  obtain ⟨T16, h16, a16, X16, e16, W16q, st16⟩ := newWA X14 hx hZ (aty := .int) (ty := .int) rfl (hw _ (mi 6 rfl)) e14 W14 (g := K15.g) rfl (hD 20 rfl) (z := (17 : Int32)) (n := 17) rfl (by decide) (by decide) (cap := 17) (by decide) (by decide) (by decide : 4 + 1 ≤ _) (by decide : 33 + 17 ≤ _)
  obtain ⟨T17, h17, L17, X17, e17, N17, W17q, st17⟩ := putW X16 hx hZ hown (host := "") (Or.inl (hw _ (mi 24 rfl))) e16 W16q N14 (own_dR hw) (Or.inl (hw _ (mi 25 rfl))) (hw _ (mi 8 rfl)) (ty := (.array .int)) (by decide +kernel) (i := 5) (a := r) rfl (j := 4) rfl rfl (v := (.ref a16)) rfl rfl (g := (mkF m 39 #[sR r] [(kR a16), (kR r)])) rfl rfl (hD 21 rfl)
  have K18 : Rc K0 T17 (mkF m 45 #[sR r] [(kI 16), (kR r)]) := fun t k => K15 t (st16 t (st17 t (by
    refine XS.aloadN X17.here hx rfl (hD 22 rfl) rfl rfl ?_
    refine XS.bipush X17.here hx rfl (hD 23 rfl) ?_
    exact k)))
  obtain ⟨T19, h19, a19, X19, e19, W19q, st19⟩ := newWA X17 hx hZ (aty := .int) (ty := .int) rfl (hw _ (mi 6 rfl)) e17 W17q (g := K18.g) rfl (hD 24 rfl) (z := (16 : Int32)) (n := 16) rfl (by decide) (by decide) (cap := 16) (by decide) (by decide) (by decide : 5 + 1 ≤ _) (by decide : 50 + 16 ≤ _)
  obtain ⟨T20, h20, L20, X20, e20, N20, W20q, st20⟩ := putW X19 hx hZ hown (host := "") (Or.inl (hw _ (mi 26 rfl))) e19 W19q N17 (own_dR hw) (Or.inl (hw _ (mi 27 rfl))) (hw _ (mi 8 rfl)) (ty := (.array .int)) (by decide +kernel) (i := 6) (a := r) rfl (j := 5) rfl rfl (v := (.ref a19)) rfl rfl (g := (mkF m 47 #[sR r] [(kR a19), (kR r)])) rfl rfl (hD 25 rfl)
  have W20 : Wo n0 h20 ((a19, Ar Z .int 16 zI) :: (a16, Ar Z .int 17 zI) :: (a13, Ar Z .int 17 zI) :: (a10, Ar Z .int 16 zI) :: (a7, Ar Z .int 0 zI) :: (a4, Ar Z .int 0 zI) :: (r, oR Z [(kR a4), (kR a7), (kR a10), (kR a13), (kR a16), (kR a19), .null, .null, .null, .null, .null, .null, .null, .null, (kI 0), .null, (kI 0), .null, .null, .null, .null, .null, .null, (kI 0), (kI 0)]) :: Rr) := W20q
  have K21 : Rc K0 T20 (mkF m 53 #[sR r] [(kI 17), (kR r)]) := fun t k => K18 t (st19 t (st20 t (by
    refine XS.aloadN X20.here hx rfl (hD 26 rfl) rfl rfl ?_
    refine XS.bipush X20.here hx rfl (hD 27 rfl) ?_
    exact k)))
  obtain ⟨T22, h22, a22, X22, e22, W22q, st22⟩ := newWA X20 hx hZ (aty := .int) (ty := .int) rfl (hw _ (mi 6 rfl)) e20 W20 (g := K21.g) rfl (hD 28 rfl) (z := (17 : Int32)) (n := 17) rfl (by decide) (by decide) (cap := 17) (by decide) (by decide) (by decide : 6 + 1 ≤ _) (by decide : 66 + 17 ≤ _)
  obtain ⟨T23, h23, L23, X23, e23, N23, W23q, st23⟩ := putW X22 hx hZ hown (host := "") (Or.inl (hw _ (mi 28 rfl))) e22 W22q N20 (own_dR hw) (Or.inl (hw _ (mi 29 rfl))) (hw _ (mi 8 rfl)) (ty := (.array .int)) (by decide +kernel) (i := 7) (a := r) rfl (j := 6) rfl rfl (v := (.ref a22)) rfl rfl (g := (mkF m 55 #[sR r] [(kR a22), (kR r)])) rfl rfl (hD 29 rfl)
  have K24 : Rc K0 T23 (mkF m 61 #[sR r] [(kI 17), (kR r)]) := fun t k => K21 t (st22 t (st23 t (by
    refine XS.aloadN X23.here hx rfl (hD 30 rfl) rfl rfl ?_
    refine XS.bipush X23.here hx rfl (hD 31 rfl) ?_
    exact k)))
  obtain ⟨T25, h25, a25, X25, e25, W25q, st25⟩ := newWA X23 hx hZ (aty := .int) (ty := .int) rfl (hw _ (mi 6 rfl)) e23 W23q (g := K24.g) rfl (hD 32 rfl) (z := (17 : Int32)) (n := 17) rfl (by decide) (by decide) (cap := 17) (by decide) (by decide) (by decide : 7 + 1 ≤ _) (by decide : 83 + 17 ≤ _)
  obtain ⟨T26, h26, L26, X26, e26, N26, W26q, st26⟩ := putW X25 hx hZ hown (host := "") (Or.inl (hw _ (mi 30 rfl))) e25 W25q N23 (own_dR hw) (Or.inl (hw _ (mi 31 rfl))) (hw _ (mi 8 rfl)) (ty := (.array .int)) (by decide +kernel) (i := 8) (a := r) rfl (j := 7) rfl rfl (v := (.ref a25)) rfl rfl (g := (mkF m 63 #[sR r] [(kR a25), (kR r)])) rfl rfl (hD 33 rfl)
  have W26 : Wo n0 h26 ((a25, Ar Z .int 17 zI) :: (a22, Ar Z .int 17 zI) :: (a19, Ar Z .int 16 zI) :: (a16, Ar Z .int 17 zI) :: (a13, Ar Z .int 17 zI) :: (a10, Ar Z .int 16 zI) :: (a7, Ar Z .int 0 zI) :: (a4, Ar Z .int 0 zI) :: (r, oR Z [(kR a4), (kR a7), (kR a10), (kR a13), (kR a16), (kR a19), (kR a22), (kR a25), .null, .null, .null, .null, .null, .null, (kI 0), .null, (kI 0), .null, .null, .null, .null, .null, .null, (kI 0), (kI 0)]) :: Rr) := W26q
  have K27 : Rc K0 T26 (mkF m 69 #[sR r] [(kI 17), (kR r)]) := fun t k => K24 t (st25 t (st26 t (by
    refine XS.aloadN X26.here hx rfl (hD 34 rfl) rfl rfl ?_
    refine XS.bipush X26.here hx rfl (hD 35 rfl) ?_
    exact k)))
  obtain ⟨T28, h28, a28, X28, e28, W28q, st28⟩ := newWA X26 hx hZ (aty := .int) (ty := .int) rfl (hw _ (mi 6 rfl)) e26 W26 (g := K27.g) rfl (hD 36 rfl) (z := (17 : Int32)) (n := 17) rfl (by decide) (by decide) (cap := 17) (by decide) (by decide) (by decide : 8 + 1 ≤ _) (by decide : 100 + 17 ≤ _)
  obtain ⟨T29, h29, L29, X29, e29, N29, W29q, st29⟩ := putW X28 hx hZ hown (host := "") (Or.inl (hw _ (mi 32 rfl))) e28 W28q N26 (own_dR hw) (Or.inl (hw _ (mi 33 rfl))) (hw _ (mi 8 rfl)) (ty := (.array .int)) (by decide +kernel) (i := 9) (a := r) rfl (j := 8) rfl rfl (v := (.ref a28)) rfl rfl (g := (mkF m 71 #[sR r] [(kR a28), (kR r)])) rfl rfl (hD 37 rfl)
  have K30 : Rc K0 T29 (mkF m 77 #[sR r] [(kI 17), (kR r)]) := fun t k => K27 t (st28 t (st29 t (by
    refine XS.aloadN X29.here hx rfl (hD 38 rfl) rfl rfl ?_
    refine XS.bipush X29.here hx rfl (hD 39 rfl) ?_
    exact k)))
  obtain ⟨T31, h31, a31, X31, e31, W31q, st31⟩ := newWA X29 hx hZ (aty := .int) (ty := .int) rfl (hw _ (mi 6 rfl)) e29 W29q (g := K30.g) rfl (hD 40 rfl) (z := (17 : Int32)) (n := 17) rfl (by decide) (by decide) (cap := 17) (by decide) (by decide) (by decide : 9 + 1 ≤ _) (by decide : 117 + 17 ≤ _)
  obtain ⟨T32, h32, L32, X32, e32, N32, W32q, st32⟩ := putW X31 hx hZ hown (host := "") (Or.inl (hw _ (mi 34 rfl))) e31 W31q N29 (own_dR hw) (Or.inl (hw _ (mi 35 rfl))) (hw _ (mi 8 rfl)) (ty := (.array .int)) (by decide +kernel) (i := 10) (a := r) rfl (j := 9) rfl rfl (v := (.ref a31)) rfl rfl (g := (mkF m 79 #[sR r] [(kR a31), (kR r)])) rfl rfl (hD 41 rfl)
  have W32 : Wo n0 h32 ((a31, Ar Z .int 17 zI) :: (a28, Ar Z .int 17 zI) :: (a25, Ar Z .int 17 zI) :: (a22, Ar Z .int 17 zI) :: (a19, Ar Z .int 16 zI) :: (a16, Ar Z .int 17 zI) :: (a13, Ar Z .int 17 zI) :: (a10, Ar Z .int 16 zI) :: (a7, Ar Z .int 0 zI) :: (a4, Ar Z .int 0 zI) :: (r, oR Z [(kR a4), (kR a7), (kR a10), (kR a13), (kR a16), (kR a19), (kR a22), (kR a25), (kR a28), (kR a31), .null, .null, .null, .null, (kI 0), .null, (kI 0), .null, .null, .null, .null, .null, .null, (kI 0), (kI 0)]) :: Rr) := W32q
  have K33 : Rc K0 T32 (mkF m 85 #[sR r] [(kI 16), (kR r)]) := fun t k => K30 t (st31 t (st32 t (by
    refine XS.aloadN X32.here hx rfl (hD 42 rfl) rfl rfl ?_
    refine XS.bipush X32.here hx rfl (hD 43 rfl) ?_
    exact k)))
  obtain ⟨T34, h34, a34, X34, e34, W34q, st34⟩ := newWA X32 hx hZ (aty := .int) (ty := .int) rfl (hw _ (mi 6 rfl)) e32 W32 (g := K33.g) rfl (hD 44 rfl) (z := (16 : Int32)) (n := 16) rfl (by decide) (by decide) (cap := 16) (by decide) (by decide) (by decide : 10 + 1 ≤ _) (by decide : 134 + 16 ≤ _)
  obtain ⟨T35, h35, L35, X35, e35, N35, W35q, st35⟩ := putW X34 hx hZ hown (host := "") (Or.inl (hw _ (mi 36 rfl))) e34 W34q N32 (own_dR hw) (Or.inl (hw _ (mi 37 rfl))) (hw _ (mi 8 rfl)) (ty := (.array .int)) (by decide +kernel) (i := 11) (a := r) rfl (j := 10) rfl rfl (v := (.ref a34)) rfl rfl (g := (mkF m 87 #[sR r] [(kR a34), (kR r)])) rfl rfl (hD 45 rfl)
  have K36 : Rc K0 T35 (mkF m 93 #[sR r] [(kI 16), (kR r)]) := fun t k => K33 t (st34 t (st35 t (by
    refine XS.aloadN X35.here hx rfl (hD 46 rfl) rfl rfl ?_
    refine XS.bipush X35.here hx rfl (hD 47 rfl) ?_
    exact k)))
  obtain ⟨T37, h37, a37, X37, e37, W37q, st37⟩ := newWA X35 hx hZ (aty := .int) (ty := .int) rfl (hw _ (mi 6 rfl)) e35 W35q (g := K36.g) rfl (hD 48 rfl) (z := (16 : Int32)) (n := 16) rfl (by decide) (by decide) (cap := 16) (by decide) (by decide) (by decide : 11 + 1 ≤ _) (by decide : 150 + 16 ≤ _)
  obtain ⟨T38, h38, L38, X38, e38, N38, W38q, st38⟩ := putW X37 hx hZ hown (host := "") (Or.inl (hw _ (mi 38 rfl))) e37 W37q N35 (own_dR hw) (Or.inl (hw _ (mi 39 rfl))) (hw _ (mi 8 rfl)) (ty := (.array .int)) (by decide +kernel) (i := 12) (a := r) rfl (j := 11) rfl rfl (v := (.ref a37)) rfl rfl (g := (mkF m 95 #[sR r] [(kR a37), (kR r)])) rfl rfl (hD 49 rfl)
  have W38 : Wo n0 h38 ((a37, Ar Z .int 16 zI) :: (a34, Ar Z .int 16 zI) :: (a31, Ar Z .int 17 zI) :: (a28, Ar Z .int 17 zI) :: (a25, Ar Z .int 17 zI) :: (a22, Ar Z .int 17 zI) :: (a19, Ar Z .int 16 zI) :: (a16, Ar Z .int 17 zI) :: (a13, Ar Z .int 17 zI) :: (a10, Ar Z .int 16 zI) :: (a7, Ar Z .int 0 zI) :: (a4, Ar Z .int 0 zI) :: (r, oR Z [(kR a4), (kR a7), (kR a10), (kR a13), (kR a16), (kR a19), (kR a22), (kR a25), (kR a28), (kR a31), (kR a34), (kR a37), .null, .null, (kI 0), .null, (kI 0), .null, .null, .null, .null, .null, .null, (kI 0), (kI 0)]) :: Rr) := W38q
  have K39 : Rc K0 T38 (mkF m 101 #[sR r] [(kI 64), (kR r)]) := fun t k => K36 t (st37 t (st38 t (by
    refine XS.aloadN X38.here hx rfl (hD 50 rfl) rfl rfl ?_
    refine XS.bipush X38.here hx rfl (hD 51 rfl) ?_
    exact k)))
  obtain ⟨T40, h40, a40, X40, e40, W40q, st40⟩ := newWA X38 hx hZ (aty := .int) (ty := .int) rfl (hw _ (mi 6 rfl)) e38 W38 (g := K39.g) rfl (hD 52 rfl) (z := (64 : Int32)) (n := 64) rfl (by decide) (by decide) (cap := 64) (by decide) (by decide) (by decide : 12 + 1 ≤ _) (by decide : 166 + 64 ≤ _)
  obtain ⟨T41, h41, L41, X41, e41, N41, W41q, st41⟩ := putW X40 hx hZ hown (host := "") (Or.inl (hw _ (mi 40 rfl))) e40 W40q N38 (own_dR hw) (Or.inl (hw _ (mi 41 rfl))) (hw _ (mi 8 rfl)) (ty := (.array .int)) (by decide +kernel) (i := 13) (a := r) rfl (j := 12) rfl rfl (v := (.ref a40)) rfl rfl (g := (mkF m 103 #[sR r] [(kR a40), (kR r)])) rfl rfl (hD 53 rfl)
  have K42 : Rc K0 T41 (mkF m 109 #[sR r] [(kI 64), (kR r)]) := fun t k => K39 t (st40 t (st41 t (by
    refine XS.aloadN X41.here hx rfl (hD 54 rfl) rfl rfl ?_
    refine XS.bipush X41.here hx rfl (hD 55 rfl) ?_
    exact k)))
  obtain ⟨T43, h43, a43, X43, e43, W43q, st43⟩ := newWA X41 hx hZ (aty := .double) (ty := .double) rfl (hw _ (mi 0 rfl)) e41 W41q (g := K42.g) rfl (hD 56 rfl) (z := (64 : Int32)) (n := 64) rfl (by decide) (by decide) (cap := 64) (by decide) (by decide) (by decide : 13 + 1 ≤ _) (by decide : 230 + 64 ≤ _)
  obtain ⟨T44, h44, L44, X44, e44, N44, W44q, st44⟩ := putW X43 hx hZ hown (host := "") (Or.inl (hw _ (mi 42 rfl))) e43 W43q N41 (own_dR hw) (Or.inl (hw _ (mi 43 rfl))) (hw _ (mi 8 rfl)) (ty := (.array .double)) (by decide +kernel) (i := 14) (a := r) rfl (j := 13) rfl rfl (v := (.ref a43)) rfl rfl (g := (mkF m 111 #[sR r] [(kR a43), (kR r)])) rfl rfl (hD 57 rfl)
  have W44 : Wo n0 h44 ((a43, Ar Z .double 64 zD) :: (a40, Ar Z .int 64 zI) :: (a37, Ar Z .int 16 zI) :: (a34, Ar Z .int 16 zI) :: (a31, Ar Z .int 17 zI) :: (a28, Ar Z .int 17 zI) :: (a25, Ar Z .int 17 zI) :: (a22, Ar Z .int 17 zI) :: (a19, Ar Z .int 16 zI) :: (a16, Ar Z .int 17 zI) :: (a13, Ar Z .int 17 zI) :: (a10, Ar Z .int 16 zI) :: (a7, Ar Z .int 0 zI) :: (a4, Ar Z .int 0 zI) :: (r, oR Z [(kR a4), (kR a7), (kR a10), (kR a13), (kR a16), (kR a19), (kR a22), (kR a25), (kR a28), (kR a31), (kR a34), (kR a37), (kR a40), (kR a43), (kI 0), .null, (kI 0), .null, .null, .null, .null, .null, .null, (kI 0), (kI 0)]) :: Rr) := W44q
  have K45 : Rc K0 T44 (mkF m 114 #[sR r] []) := fun t k => K42 t (st43 t (st44 t (k)))
  obtain ⟨fs, hr, hrun, hended, hWm, hsame⟩ := X44.leave (v := none) (fun _ => rfl)
  refine ⟨_, _, pre0 _ (K45 _ (X44.returnOut hx Bd.returns (hD 58 rfl) hr)), hrun, hended, _, _, rfl, ?_, ⟨_, rfl⟩, hWm, hsame.mono (by decide) (by decide)⟩
  show QrmRI Z r Rr n0 _ T44.heap _
  rw [e44]
  exact ⟨a43, a40, a37, a34, a31, a28, a25, a22, a19, a16, a13, a10, a7, a4, rfl, N44, W44⟩
abbrev y_bi : MethodName := ⟨"com/example/sambre/sambre/engine/Rows$Builder", "<init>", "()V"⟩
theorem pd_bi : parseMethodDescriptor "()V" = some ⟨[], none⟩ := by decide +kernel
theorem pn_Rows_Builder : plainName "com/example/sambre/sambre/engine/Rows$Builder" = true := by first | (simp [plainName, overriddenIn]; done) | decide +kernel
def Ld_bi : List (Nat × Instr × Nat) := [(0, .aload_n 0, 1), (1, .invokespecial 1, 3), (4, .aload_n 0, 1), (5, .iconst 2, 1), (6, .newarray .int, 2), (8, .putfield 7, 3), (11, .aload_n 0, 1), (12, .iconst 2, 1), (13, .newarray .int, 2), (15, .putfield 13, 3), (18, .aload_n 0, 1), (19, .iconst 2, 1), (20, .newarray .int, 2), (22, .putfield 16, 3), (25, .aload_n 0, 1), (26, .iconst 2, 1), (27, .newarray .int, 2), (29, .putfield 19, 3), (32, .aload_n 0, 1), (33, .iconst 2, 1), (34, .newarray .int, 2), (36, .putfield 22, 3), (39, .aload_n 0, 1), (40, .iconst 4, 1), (41, .newarray .int, 2), (43, .putfield 25, 3), (46, .aload_n 0, 1), (47, .iconst 4, 1), (48, .newarray .double, 2), (50, .putfield 28, 3), (53, .return_, 1)]
set_option maxRecDepth 65536 in
theorem d_bi : ∀ x ∈ Ld_bi, decode prog_88_method_1_code x.1 = .ok (x.2.1, x.2.2) := by decide +kernel
theorem ef_rmBI (m : MethodId) (b : Addr) : entryFrame m #[(.ref b)] 1 = mkF m 0 #[.val (.ref b)] [] := by first | (simp [entryFrame, mkF, argsToLocals, Value.category]; done) | rfl
def QrmBI (Z : State) (b : Addr) (Rr : List (Addr × (Cell → Prop))) (n0 : Nat) (v : Option Value) (h : Heap) (L : List Loc) : Prop := ∃ a22 a19 a16 a13 a10 a7 a4, v = none ∧ Fr n0 L ∧ Wo n0 h ((a22, Ar Z .double 4 zD) :: (a19, Ar Z .int 4 zI) :: (a16, Ar Z .int 2 zI) :: (a13, Ar Z .int 2 zI) :: (a10, Ar Z .int 2 zI) :: (a7, Ar Z .int 2 zI) :: (a4, Ar Z .int 2 zI) :: (b, oB Z [.null, (kI 0), .null, (kI 0), (kR a4), (kR a7), (kR a10), (kR a13), (kR a16), (kR a19), (kR a22), (kI 0), (kI 0), (kI 0), (kI 0), .null]) :: Rr)
set_option maxRecDepth 65536 in
set_option maxHeartbeats 40000000 in
theorem rmBI (l : Launch) (Z : State) (a0 : Array Value) (hw : ∀ d ∈ tables_1, d.before a0 Z = true) (ws : List Jvm.Cond) (b : Addr) (Rr : List (Addr × (Cell → Prop))) (h0 : Heap) (n0 : Nat) (W0 : Wo n0 h0 ((b, oB Z [.null, (kI 0), .null, (kI 0), .null, .null, .null, .null, .null, .null, .null, (kI 0), (kI 0), (kI 0), (kI 0), .null]) :: Rr)) :
    MetFree l y_bi (head1 (Jvm.Cond.code y_bi prog_88_method_1_code 1 none :: ws) ({ frames := 1, cells := 7, slots := 18, locals := 12 } : Room)) (fun aa U => aa = #[(.ref b)] ∧ Z.Warmed39 U.vm ∧ U.heap = h0) (fun _ _ _ _ _ => True) (fun _ U ou U' => ∃ v L, ou = .returned v ∧ QrmBI Z b Rr n0 v U'.heap L ∧ FrameEnd U ou U' L ({ frames := 1, cells := 7, slots := 18, locals := 12 } : Room).cells ({ frames := 1, cells := 7, slots := 18, locals := 12 } : Room).slots) := by
  refine MetFree.of_bodySF (plainFor_of_name pn_Rows_Builder) hisR ?_
  intro p e s m args below meth c s₁ Bd hml0 hP hK
  obtain ⟨rfl, hZ, hh⟩ := hP
  have hx := Bd.exec
  have hby := Bd.bytes
  have hml : c.maxLocals = 1 := hml0
  have hD : ∀ (k : Nat) {pc : Nat} {i : Instr} {n : Nat}, Ld_bi[k]? = some (pc, i, n) → decode c.code pc = .ok (i, n) := by intro k pc i n h; exact hb hby (d_bi (pc, i, n) (mi k h))
  have hown : s.vm.findClass "com/example/sambre/sambre/engine/Rows$Builder" = some m.cls := findClass_of_methodNamed Bd.named
  have hnm := (name_of_methodNamed Bd.named Bd.method).1
  have X0 : Stand p l e ({ frames := 1, cells := 7, slots := 18, locals := 12 } : Room) s m #[(.ref b)] below meth c s₁ [] 0 0 := Stand.of_body Bd
  have e0 : s₁.heap = h0 := by rw [← hh, Bd.state]; rfl
  have N0 := Fr.nil n0
  obtain ⟨F0, hF0⟩ : ∃ F, F = mkF m 0 #[.val (.ref b)] [] := ⟨_, rfl⟩
  have pre0 : ∀ t, Steps p.tables e below (s₁.setTop F0) t → Steps p.tables e below (s₁.setTop (entryFrame m #[(.ref b)] 1)) t := fun t k => castTop ((ef_rmBI m b).trans hF0.symm) k
  have K0 : Rch p e below s₁ F0 s₁ (mkF m 0 #[.val (.ref b)] []) := fun t k => castTop hF0 k
  have K1 : Rc K0 s₁ (mkF m 1 #[sR b] [(kR b)]) := fun t k => K0 t (XS.aloadN X0.here hx rfl (hD 0 rfl) rfl rfl k)
  obtain ⟨T2, X2, e2, st2⟩ := initO X0 hx hZ hown (hw _ (mi 50 rfl)) (hw _ (mi 14 rfl)) (hw _ (mi 15 rfl)) e0 (g := K1.g) rfl (by rw [hml]; rfl) rfl (hD 1 rfl) (by decide) (W := 0) (by show 2 * 0 + _ ≤ _; exact Nat.le_of_eq rfl) (by decide)
  have K3 : Rc K0 T2 (mkF m 6 #[sR b] [(kI 2), (kR b)]) := fun t k => K1 t (st2 t (by
    refine XS.aloadN X2.here hx rfl (hD 2 rfl) rfl rfl ?_
    refine XS.iconst X2.here hx rfl (hD 3 rfl) ?_
    exact k))
  obtain ⟨T4, h4, a4, X4, e4, W4q, st4⟩ := newWA X2 hx hZ (aty := .int) (ty := .int) rfl (hw _ (mi 6 rfl)) e2 W0 (g := K3.g) rfl (hD 4 rfl) (z := (2 : Int32)) (n := 2) rfl (by decide) (by decide) (cap := 2) (by decide) (by decide) (by decide : 0 + 1 ≤ _) (by decide : 0 + 2 ≤ _)
  obtain ⟨T5, h5, L5, X5, e5, N5, W5q, st5⟩ := putW X4 hx hZ hown (host := "") (Or.inl (hw _ (mi 51 rfl))) e4 W4q N0 (own_dB hw) (Or.inl (hw _ (mi 52 rfl))) (hw _ (mi 45 rfl)) (ty := (.array .int)) (by decide +kernel) (i := 1) (a := b) rfl (j := 4) rfl rfl (v := (.ref a4)) rfl rfl (g := (mkF m 8 #[sR b] [(kR a4), (kR b)])) rfl rfl (hD 5 rfl)
  have K6 : Rc K0 T5 (mkF m 13 #[sR b] [(kI 2), (kR b)]) := fun t k => K3 t (st4 t (st5 t (by
    refine XS.aloadN X5.here hx rfl (hD 6 rfl) rfl rfl ?_
    refine XS.iconst X5.here hx rfl (hD 7 rfl) ?_
    exact k)))
  obtain ⟨T7, h7, a7, X7, e7, W7q, st7⟩ := newWA X5 hx hZ (aty := .int) (ty := .int) rfl (hw _ (mi 6 rfl)) e5 W5q (g := K6.g) rfl (hD 8 rfl) (z := (2 : Int32)) (n := 2) rfl (by decide) (by decide) (cap := 2) (by decide) (by decide) (by decide : 1 + 1 ≤ _) (by decide : 2 + 2 ≤ _)
  obtain ⟨T8, h8, L8, X8, e8, N8, W8q, st8⟩ := putW X7 hx hZ hown (host := "") (Or.inl (hw _ (mi 53 rfl))) e7 W7q N5 (own_dB hw) (Or.inl (hw _ (mi 54 rfl))) (hw _ (mi 45 rfl)) (ty := (.array .int)) (by decide +kernel) (i := 2) (a := b) rfl (j := 5) rfl rfl (v := (.ref a7)) rfl rfl (g := (mkF m 15 #[sR b] [(kR a7), (kR b)])) rfl rfl (hD 9 rfl)
  have W8 : Wo n0 h8 ((a7, Ar Z .int 2 zI) :: (a4, Ar Z .int 2 zI) :: (b, oB Z [.null, (kI 0), .null, (kI 0), (kR a4), (kR a7), .null, .null, .null, .null, .null, (kI 0), (kI 0), (kI 0), (kI 0), .null]) :: Rr) := W8q
  have K9 : Rc K0 T8 (mkF m 20 #[sR b] [(kI 2), (kR b)]) := fun t k => K6 t (st7 t (st8 t (by
    refine XS.aloadN X8.here hx rfl (hD 10 rfl) rfl rfl ?_
    refine XS.iconst X8.here hx rfl (hD 11 rfl) ?_
    exact k)))
  obtain ⟨T10, h10, a10, X10, e10, W10q, st10⟩ := newWA X8 hx hZ (aty := .int) (ty := .int) rfl (hw _ (mi 6 rfl)) e8 W8 (g := K9.g) rfl (hD 12 rfl) (z := (2 : Int32)) (n := 2) rfl (by decide) (by decide) (cap := 2) (by decide) (by decide) (by decide : 2 + 1 ≤ _) (by decide : 4 + 2 ≤ _)
  obtain ⟨T11, h11, L11, X11, e11, N11, W11q, st11⟩ := putW X10 hx hZ hown (host := "") (Or.inl (hw _ (mi 55 rfl))) e10 W10q N8 (own_dB hw) (Or.inl (hw _ (mi 56 rfl))) (hw _ (mi 45 rfl)) (ty := (.array .int)) (by decide +kernel) (i := 3) (a := b) rfl (j := 6) rfl rfl (v := (.ref a10)) rfl rfl (g := (mkF m 22 #[sR b] [(kR a10), (kR b)])) rfl rfl (hD 13 rfl)
  have K12 : Rc K0 T11 (mkF m 27 #[sR b] [(kI 2), (kR b)]) := fun t k => K9 t (st10 t (st11 t (by
    refine XS.aloadN X11.here hx rfl (hD 14 rfl) rfl rfl ?_
    refine XS.iconst X11.here hx rfl (hD 15 rfl) ?_
    exact k)))
  obtain ⟨T13, h13, a13, X13, e13, W13q, st13⟩ := newWA X11 hx hZ (aty := .int) (ty := .int) rfl (hw _ (mi 6 rfl)) e11 W11q (g := K12.g) rfl (hD 16 rfl) (z := (2 : Int32)) (n := 2) rfl (by decide) (by decide) (cap := 2) (by decide) (by decide) (by decide : 3 + 1 ≤ _) (by decide : 6 + 2 ≤ _)
  obtain ⟨T14, h14, L14, X14, e14, N14, W14q, st14⟩ := putW X13 hx hZ hown (host := "") (Or.inl (hw _ (mi 57 rfl))) e13 W13q N11 (own_dB hw) (Or.inl (hw _ (mi 58 rfl))) (hw _ (mi 45 rfl)) (ty := (.array .int)) (by decide +kernel) (i := 4) (a := b) rfl (j := 7) rfl rfl (v := (.ref a13)) rfl rfl (g := (mkF m 29 #[sR b] [(kR a13), (kR b)])) rfl rfl (hD 17 rfl)
  have W14 : Wo n0 h14 ((a13, Ar Z .int 2 zI) :: (a10, Ar Z .int 2 zI) :: (a7, Ar Z .int 2 zI) :: (a4, Ar Z .int 2 zI) :: (b, oB Z [.null, (kI 0), .null, (kI 0), (kR a4), (kR a7), (kR a10), (kR a13), .null, .null, .null, (kI 0), (kI 0), (kI 0), (kI 0), .null]) :: Rr) := W14q
  have K15 : Rc K0 T14 (mkF m 34 #[sR b] [(kI 2), (kR b)]) := fun t k => K12 t (st13 t (st14 t (by
    refine XS.aloadN X14.here hx rfl (hD 18 rfl) rfl rfl ?_
    refine XS.iconst X14.here hx rfl (hD 19 rfl) ?_
    exact k)))
  obtain ⟨T16, h16, a16, X16, e16, W16q, st16⟩ := newWA X14 hx hZ (aty := .int) (ty := .int) rfl (hw _ (mi 6 rfl)) e14 W14 (g := K15.g) rfl (hD 20 rfl) (z := (2 : Int32)) (n := 2) rfl (by decide) (by decide) (cap := 2) (by decide) (by decide) (by decide : 4 + 1 ≤ _) (by decide : 8 + 2 ≤ _)
  obtain ⟨T17, h17, L17, X17, e17, N17, W17q, st17⟩ := putW X16 hx hZ hown (host := "") (Or.inl (hw _ (mi 59 rfl))) e16 W16q N14 (own_dB hw) (Or.inl (hw _ (mi 60 rfl))) (hw _ (mi 45 rfl)) (ty := (.array .int)) (by decide +kernel) (i := 5) (a := b) rfl (j := 8) rfl rfl (v := (.ref a16)) rfl rfl (g := (mkF m 36 #[sR b] [(kR a16), (kR b)])) rfl rfl (hD 21 rfl)
  have K18 : Rc K0 T17 (mkF m 41 #[sR b] [(kI 4), (kR b)]) := fun t k => K15 t (st16 t (st17 t (by
    refine XS.aloadN X17.here hx rfl (hD 22 rfl) rfl rfl ?_
    refine XS.iconst X17.here hx rfl (hD 23 rfl) ?_
    exact k)))
  obtain ⟨T19, h19, a19, X19, e19, W19q, st19⟩ := newWA X17 hx hZ (aty := .int) (ty := .int) rfl (hw _ (mi 6 rfl)) e17 W17q (g := K18.g) rfl (hD 24 rfl) (z := (4 : Int32)) (n := 4) rfl (by decide) (by decide) (cap := 4) (by decide) (by decide) (by decide : 5 + 1 ≤ _) (by decide : 10 + 4 ≤ _)
  obtain ⟨T20, h20, L20, X20, e20, N20, W20q, st20⟩ := putW X19 hx hZ hown (host := "") (Or.inl (hw _ (mi 61 rfl))) e19 W19q N17 (own_dB hw) (Or.inl (hw _ (mi 62 rfl))) (hw _ (mi 45 rfl)) (ty := (.array .int)) (by decide +kernel) (i := 6) (a := b) rfl (j := 9) rfl rfl (v := (.ref a19)) rfl rfl (g := (mkF m 43 #[sR b] [(kR a19), (kR b)])) rfl rfl (hD 25 rfl)
  have W20 : Wo n0 h20 ((a19, Ar Z .int 4 zI) :: (a16, Ar Z .int 2 zI) :: (a13, Ar Z .int 2 zI) :: (a10, Ar Z .int 2 zI) :: (a7, Ar Z .int 2 zI) :: (a4, Ar Z .int 2 zI) :: (b, oB Z [.null, (kI 0), .null, (kI 0), (kR a4), (kR a7), (kR a10), (kR a13), (kR a16), (kR a19), .null, (kI 0), (kI 0), (kI 0), (kI 0), .null]) :: Rr) := W20q
  have K21 : Rc K0 T20 (mkF m 48 #[sR b] [(kI 4), (kR b)]) := fun t k => K18 t (st19 t (st20 t (by
    refine XS.aloadN X20.here hx rfl (hD 26 rfl) rfl rfl ?_
    refine XS.iconst X20.here hx rfl (hD 27 rfl) ?_
    exact k)))
  obtain ⟨T22, h22, a22, X22, e22, W22q, st22⟩ := newWA X20 hx hZ (aty := .double) (ty := .double) rfl (hw _ (mi 0 rfl)) e20 W20 (g := K21.g) rfl (hD 28 rfl) (z := (4 : Int32)) (n := 4) rfl (by decide) (by decide) (cap := 4) (by decide) (by decide) (by decide : 6 + 1 ≤ _) (by decide : 14 + 4 ≤ _)
  obtain ⟨T23, h23, L23, X23, e23, N23, W23q, st23⟩ := putW X22 hx hZ hown (host := "") (Or.inl (hw _ (mi 63 rfl))) e22 W22q N20 (own_dB hw) (Or.inl (hw _ (mi 64 rfl))) (hw _ (mi 45 rfl)) (ty := (.array .double)) (by decide +kernel) (i := 7) (a := b) rfl (j := 10) rfl rfl (v := (.ref a22)) rfl rfl (g := (mkF m 50 #[sR b] [(kR a22), (kR b)])) rfl rfl (hD 29 rfl)
  have K24 : Rc K0 T23 (mkF m 53 #[sR b] []) := fun t k => K21 t (st22 t (st23 t (k)))
  obtain ⟨fs, hr, hrun, hended, hWm, hsame⟩ := X23.leave (v := none) (fun _ => rfl)
  refine ⟨_, _, pre0 _ (K24 _ (X23.returnOut hx Bd.returns (hD 30 rfl) hr)), hrun, hended, _, _, rfl, ?_, ⟨_, rfl⟩, hWm, hsame.mono (by decide) (by decide)⟩
  show QrmBI Z b Rr n0 _ T23.heap _
  rw [e23]
  exact ⟨a22, a19, a16, a13, a10, a7, a4, rfl, N23, W23q⟩
abbrev y_st : MethodName := ⟨"com/example/sambre/sambre/engine/Rows$Builder", "start", "([II[DI)V"⟩
theorem pd_st : parseMethodDescriptor "([II[DI)V" = some ⟨[(.array .int), .int, (.array .double), .int], none⟩ := by decide +kernel
def Ld_st : List (Nat × Instr × Nat) := [(0, .aload_n 0, 1), (1, .aload_n 1, 1), (2, .putfield 32, 3), (5, .aload_n 0, 1), (6, .iload_n 2, 1), (7, .putfield 35, 3), (10, .aload_n 0, 1), (11, .aload_n 3, 1), (12, .putfield 39, 3), (15, .aload_n 0, 1), (16, .iload 4, 2), (18, .putfield 42, 3), (21, .aload_n 0, 1), (22, .iconst 0, 1), (23, .putfield 45, 3), (26, .aload_n 0, 1), (27, .iconst 0, 1), (28, .putfield 48, 3), (31, .aload_n 0, 1), (32, .iconst 0, 1), (33, .putfield 51, 3), (36, .aload_n 0, 1), (37, .iconst 0, 1), (38, .putfield 54, 3), (41, .aload_n 0, 1), (42, .aconst_null, 1), (43, .putfield 57, 3), (46, .return_, 1)]
set_option maxRecDepth 65536 in
theorem d_st : ∀ x ∈ Ld_st, decode prog_88_method_2_code x.1 = .ok (x.2.1, x.2.2) := by decide +kernel
theorem ef_rmSTn (m : MethodId) (b fa ac fc cm ft su pr : Addr) (cc tc : Int32) : entryFrame m #[(.ref b), .null, (.int (0 : Int32)), .null, (.int (0 : Int32))] 5 = mkF m 0 #[.val (.ref b), .val .null, .val (.int (0 : Int32)), .val .null, .val (.int (0 : Int32))] [] := by first | (simp [entryFrame, mkF, argsToLocals, Value.category]; done) | rfl
def QrmSTn (Z : State) (b fa ac fc cm ft su pr : Addr) (cc tc : Int32) (Rr : List (Addr × (Cell → Prop))) (n0 : Nat) (v : Option Value) (h : Heap) (L : List Loc) : Prop := v = none ∧ Fr n0 L ∧ Wo n0 h ((b, oB Z [.null, (kI 0), .null, (kI 0), (kR fa), (kR ac), (kR fc), (kR cm), (kR ft), (kR su), (kR pr), (kI 0), (kI 0), (kI 0), (kI 0), .null]) :: Rr)
set_option maxRecDepth 65536 in
set_option maxHeartbeats 40000000 in
theorem rmSTn (l : Launch) (Z : State) (a0 : Array Value) (hw : ∀ d ∈ tables_1, d.before a0 Z = true) (ws : List Jvm.Cond) (b fa ac fc cm ft su pr : Addr) (cc tc : Int32) (Rr : List (Addr × (Cell → Prop))) (h0 : Heap) (n0 : Nat) (W0 : Wo n0 h0 ((b, oB Z [.null, (kI 0), .null, (kI 0), (kR fa), (kR ac), (kR fc), (kR cm), (kR ft), (kR su), (kR pr), (kI cc), (kI 0), (kI 0), (kI tc), .null]) :: Rr)) :
    MetFree l y_st (head1 (Jvm.Cond.code y_st prog_88_method_2_code 5 none :: ws) ({ frames := 0, cells := 0, slots := 0, locals := 0 } : Room)) (fun aa U => aa = #[(.ref b), .null, (.int (0 : Int32)), .null, (.int (0 : Int32))] ∧ Z.Warmed39 U.vm ∧ U.heap = h0) (fun _ _ _ _ _ => True) (fun _ U ou U' => ∃ v L, ou = .returned v ∧ QrmSTn Z b fa ac fc cm ft su pr cc tc Rr n0 v U'.heap L ∧ FrameEnd U ou U' L ({ frames := 0, cells := 0, slots := 0, locals := 0 } : Room).cells ({ frames := 0, cells := 0, slots := 0, locals := 0 } : Room).slots) := by
  refine MetFree.of_bodySF (plainFor_of_name pn_Rows_Builder) hisR ?_
  intro p e s m args below meth c s₁ Bd hml0 hP hK
  obtain ⟨rfl, hZ, hh⟩ := hP
  have hx := Bd.exec
  have hby := Bd.bytes
  have hml : c.maxLocals = 5 := hml0
  have hD : ∀ (k : Nat) {pc : Nat} {i : Instr} {n : Nat}, Ld_st[k]? = some (pc, i, n) → decode c.code pc = .ok (i, n) := by intro k pc i n h; exact hb hby (d_st (pc, i, n) (mi k h))
  have hown : s.vm.findClass "com/example/sambre/sambre/engine/Rows$Builder" = some m.cls := findClass_of_methodNamed Bd.named
  have hnm := (name_of_methodNamed Bd.named Bd.method).1
  have X0 : Stand p l e ({ frames := 0, cells := 0, slots := 0, locals := 0 } : Room) s m #[(.ref b), .null, (.int (0 : Int32)), .null, (.int (0 : Int32))] below meth c s₁ [] 0 0 := Stand.of_body Bd
  have e0 : s₁.heap = h0 := by rw [← hh, Bd.state]; rfl
  have N0 := Fr.nil n0
  obtain ⟨F0, hF0⟩ : ∃ F, F = mkF m 0 #[.val (.ref b), .val .null, .val (.int (0 : Int32)), .val .null, .val (.int (0 : Int32))] [] := ⟨_, rfl⟩
  have pre0 : ∀ t, Steps p.tables e below (s₁.setTop F0) t → Steps p.tables e below (s₁.setTop (entryFrame m #[(.ref b), .null, (.int (0 : Int32)), .null, (.int (0 : Int32))] 5)) t := fun t k => castTop ((ef_rmSTn m b fa ac fc cm ft su pr cc tc).trans hF0.symm) k
  have K0 : Rch p e below s₁ F0 s₁ (mkF m 0 #[.val (.ref b), .val .null, .val (.int (0 : Int32)), .val .null, .val (.int (0 : Int32))] []) := fun t k => castTop hF0 k
  have K1 : Rc K0 s₁ (mkF m 2 #[sR b, .val .null, sI 0, .val .null, sI 0] [.null, (kR b)]) := fun t k => K0 t (by
    refine XS.aloadN X0.here hx rfl (hD 0 rfl) rfl rfl ?_
    refine XS.aloadN X0.here hx rfl (hD 1 rfl) rfl rfl ?_
    exact k)
  obtain ⟨T2, h2, L2, X2, e2, N2, W2q, st2⟩ := putW X0 hx hZ hown (host := "") (Or.inl (hw _ (mi 70 rfl))) e0 W0 N0 (own_dB hw) (Or.inl (hw _ (mi 71 rfl))) (hw _ (mi 45 rfl)) (ty := (.array .int)) (by decide +kernel) (i := 0) (a := b) rfl (j := 0) rfl rfl (v := .null) rfl rfl (g := K1.g) rfl rfl (hD 2 rfl)
  have K3 : Rc K0 T2 (mkF m 7 #[sR b, .val .null, sI 0, .val .null, sI 0] [(kI 0), (kR b)]) := fun t k => K1 t (st2 t (by
    refine XS.aloadN X2.here hx rfl (hD 3 rfl) rfl rfl ?_
    refine XS.iloadN X2.here hx rfl (hD 4 rfl) rfl ?_
    exact k))
  obtain ⟨T4, h4, L4, X4, e4, N4, W4q, st4⟩ := putW X2 hx hZ hown (host := "") (Or.inl (hw _ (mi 72 rfl))) e2 W2q N2 (own_dB hw) (Or.inl (hw _ (mi 73 rfl))) (hw _ (mi 45 rfl)) (ty := .int) (by decide +kernel) (i := 0) (a := b) rfl (j := 1) rfl rfl (v := (.int (0 : Int32))) rfl rfl (g := K3.g) rfl rfl (hD 5 rfl)
  have K5 : Rc K0 T4 (mkF m 12 #[sR b, .val .null, sI 0, .val .null, sI 0] [.null, (kR b)]) := fun t k => K3 t (st4 t (by
    refine XS.aloadN X4.here hx rfl (hD 6 rfl) rfl rfl ?_
    refine XS.aloadN X4.here hx rfl (hD 7 rfl) rfl rfl ?_
    exact k))
  obtain ⟨T6, h6, L6, X6, e6, N6, W6q, st6⟩ := putW X4 hx hZ hown (host := "") (Or.inl (hw _ (mi 74 rfl))) e4 W4q N4 (own_dB hw) (Or.inl (hw _ (mi 75 rfl))) (hw _ (mi 45 rfl)) (ty := (.array .double)) (by decide +kernel) (i := 0) (a := b) rfl (j := 2) rfl rfl (v := .null) rfl rfl (g := K5.g) rfl rfl (hD 8 rfl)
  have K7 : Rc K0 T6 (mkF m 18 #[sR b, .val .null, sI 0, .val .null, sI 0] [(kI 0), (kR b)]) := fun t k => K5 t (st6 t (by
    refine XS.aloadN X6.here hx rfl (hD 9 rfl) rfl rfl ?_
    refine XS.iload X6.here hx rfl (hD 10 rfl) rfl ?_
    exact k))
  obtain ⟨T8, h8, L8, X8, e8, N8, W8q, st8⟩ := putW X6 hx hZ hown (host := "") (Or.inl (hw _ (mi 76 rfl))) e6 W6q N6 (own_dB hw) (Or.inl (hw _ (mi 77 rfl))) (hw _ (mi 45 rfl)) (ty := .int) (by decide +kernel) (i := 0) (a := b) rfl (j := 3) rfl rfl (v := (.int (0 : Int32))) rfl rfl (g := K7.g) rfl rfl (hD 11 rfl)
  have W8 : Wo n0 h8 ((b, oB Z [.null, (kI 0), .null, (kI 0), (kR fa), (kR ac), (kR fc), (kR cm), (kR ft), (kR su), (kR pr), (kI cc), (kI 0), (kI 0), (kI tc), .null]) :: Rr) := W8q
  have K9 : Rc K0 T8 (mkF m 23 #[sR b, .val .null, sI 0, .val .null, sI 0] [(kI 0), (kR b)]) := fun t k => K7 t (st8 t (by
    refine XS.aloadN X8.here hx rfl (hD 12 rfl) rfl rfl ?_
    refine XS.iconst X8.here hx rfl (hD 13 rfl) ?_
    exact k))
  obtain ⟨T10, h10, L10, X10, e10, N10, W10q, st10⟩ := putW X8 hx hZ hown (host := "") (Or.inl (hw _ (mi 78 rfl))) e8 W8 N8 (own_dB hw) (Or.inl (hw _ (mi 79 rfl))) (hw _ (mi 45 rfl)) (ty := .int) (by decide +kernel) (i := 0) (a := b) rfl (j := 11) rfl rfl (v := (.int (0 : Int32))) rfl rfl (g := K9.g) rfl rfl (hD 14 rfl)
  have K11 : Rc K0 T10 (mkF m 28 #[sR b, .val .null, sI 0, .val .null, sI 0] [(kI 0), (kR b)]) := fun t k => K9 t (st10 t (by
    refine XS.aloadN X10.here hx rfl (hD 15 rfl) rfl rfl ?_
    refine XS.iconst X10.here hx rfl (hD 16 rfl) ?_
    exact k))
  obtain ⟨T12, h12, L12, X12, e12, N12, W12q, st12⟩ := putW X10 hx hZ hown (host := "") (Or.inl (hw _ (mi 80 rfl))) e10 W10q N10 (own_dB hw) (Or.inl (hw _ (mi 81 rfl))) (hw _ (mi 45 rfl)) (ty := .int) (by decide +kernel) (i := 0) (a := b) rfl (j := 12) rfl rfl (v := (.int (0 : Int32))) rfl rfl (g := K11.g) rfl rfl (hD 17 rfl)
  have K13 : Rc K0 T12 (mkF m 33 #[sR b, .val .null, sI 0, .val .null, sI 0] [(kI 0), (kR b)]) := fun t k => K11 t (st12 t (by
    refine XS.aloadN X12.here hx rfl (hD 18 rfl) rfl rfl ?_
    refine XS.iconst X12.here hx rfl (hD 19 rfl) ?_
    exact k))
  obtain ⟨T14, h14, L14, X14, e14, N14, W14q, st14⟩ := putW X12 hx hZ hown (host := "") (Or.inl (hw _ (mi 82 rfl))) e12 W12q N12 (own_dB hw) (Or.inl (hw _ (mi 83 rfl))) (hw _ (mi 45 rfl)) (ty := .int) (by decide +kernel) (i := 0) (a := b) rfl (j := 13) rfl rfl (v := (.int (0 : Int32))) rfl rfl (g := K13.g) rfl rfl (hD 20 rfl)
  have K15 : Rc K0 T14 (mkF m 38 #[sR b, .val .null, sI 0, .val .null, sI 0] [(kI 0), (kR b)]) := fun t k => K13 t (st14 t (by
    refine XS.aloadN X14.here hx rfl (hD 21 rfl) rfl rfl ?_
    refine XS.iconst X14.here hx rfl (hD 22 rfl) ?_
    exact k))
  obtain ⟨T16, h16, L16, X16, e16, N16, W16q, st16⟩ := putW X14 hx hZ hown (host := "") (Or.inl (hw _ (mi 84 rfl))) e14 W14q N14 (own_dB hw) (Or.inl (hw _ (mi 85 rfl))) (hw _ (mi 45 rfl)) (ty := .int) (by decide +kernel) (i := 0) (a := b) rfl (j := 14) rfl rfl (v := (.int (0 : Int32))) rfl rfl (g := K15.g) rfl rfl (hD 23 rfl)
  have W16 : Wo n0 h16 ((b, oB Z [.null, (kI 0), .null, (kI 0), (kR fa), (kR ac), (kR fc), (kR cm), (kR ft), (kR su), (kR pr), (kI 0), (kI 0), (kI 0), (kI 0), .null]) :: Rr) := W16q
  have K17 : Rc K0 T16 (mkF m 43 #[sR b, .val .null, sI 0, .val .null, sI 0] [.null, (kR b)]) := fun t k => K15 t (st16 t (by
    refine XS.aloadN X16.here hx rfl (hD 24 rfl) rfl rfl ?_
    refine XS.aconstNull X16.here hx rfl (hD 25 rfl) ?_
    exact k))
  obtain ⟨T18, h18, L18, X18, e18, N18, W18q, st18⟩ := putW X16 hx hZ hown (host := "") (Or.inl (hw _ (mi 86 rfl))) e16 W16 N16 (own_dB hw) (Or.inl (hw _ (mi 87 rfl))) (hw _ (mi 45 rfl)) (ty := (.object "java/util/Map")) (by decide +kernel) (i := 0) (a := b) rfl (j := 15) rfl rfl (v := .null) rfl rfl (g := K17.g) rfl rfl (hD 26 rfl)
  have K19 : Rc K0 T18 (mkF m 46 #[sR b, .val .null, sI 0, .val .null, sI 0] []) := fun t k => K17 t (st18 t (k))
  obtain ⟨fs, hr, hrun, hended, hWm, hsame⟩ := X18.leave (v := none) (fun _ => rfl)
  refine ⟨_, _, pre0 _ (K19 _ (X18.returnOut hx Bd.returns (hD 27 rfl) hr)), hrun, hended, _, _, rfl, ?_, ⟨_, rfl⟩, hWm, hsame.mono (by decide) (by decide)⟩
  show QrmSTn Z b fa ac fc cm ft su pr cc tc Rr n0 _ T18.heap _
  rw [e18]
  exact ⟨rfl, N18, W18q⟩
theorem ef_rmSTv (m : MethodId) (b fa ac fc cm ft su pr : Addr) (cc tc : Int32) (vv : Addr) (vc : Int32) : entryFrame m #[(.ref b), .null, (.int (0 : Int32)), (.ref vv), (.int vc)] 5 = mkF m 0 #[.val (.ref b), .val .null, .val (.int (0 : Int32)), .val (.ref vv), .val (.int vc)] [] := by first | (simp [entryFrame, mkF, argsToLocals, Value.category]; done) | rfl
def QrmSTv (Z : State) (b fa ac fc cm ft su pr : Addr) (cc tc : Int32) (vv : Addr) (vc : Int32) (Rr : List (Addr × (Cell → Prop))) (n0 : Nat) (v : Option Value) (h : Heap) (L : List Loc) : Prop := v = none ∧ Fr n0 L ∧ Wo n0 h ((b, oB Z [.null, (kI 0), (kR vv), (kI vc), (kR fa), (kR ac), (kR fc), (kR cm), (kR ft), (kR su), (kR pr), (kI 0), (kI 0), (kI 0), (kI 0), .null]) :: Rr)
set_option maxRecDepth 65536 in
set_option maxHeartbeats 40000000 in
theorem rmSTv (l : Launch) (Z : State) (a0 : Array Value) (hw : ∀ d ∈ tables_1, d.before a0 Z = true) (ws : List Jvm.Cond) (b fa ac fc cm ft su pr : Addr) (cc tc : Int32) (vv : Addr) (vc : Int32) (Rr : List (Addr × (Cell → Prop))) (h0 : Heap) (n0 : Nat) (W0 : Wo n0 h0 ((b, oB Z [.null, (kI 0), .null, (kI 0), (kR fa), (kR ac), (kR fc), (kR cm), (kR ft), (kR su), (kR pr), (kI cc), (kI 0), (kI 0), (kI tc), .null]) :: Rr)) :
    MetFree l y_st (head1 (Jvm.Cond.code y_st prog_88_method_2_code 5 none :: ws) ({ frames := 0, cells := 0, slots := 0, locals := 0 } : Room)) (fun aa U => aa = #[(.ref b), .null, (.int (0 : Int32)), (.ref vv), (.int vc)] ∧ Z.Warmed39 U.vm ∧ U.heap = h0) (fun _ _ _ _ _ => True) (fun _ U ou U' => ∃ v L, ou = .returned v ∧ QrmSTv Z b fa ac fc cm ft su pr cc tc vv vc Rr n0 v U'.heap L ∧ FrameEnd U ou U' L ({ frames := 0, cells := 0, slots := 0, locals := 0 } : Room).cells ({ frames := 0, cells := 0, slots := 0, locals := 0 } : Room).slots) := by
  refine MetFree.of_bodySF (plainFor_of_name pn_Rows_Builder) hisR ?_
  intro p e s m args below meth c s₁ Bd hml0 hP hK
  obtain ⟨rfl, hZ, hh⟩ := hP
  have hx := Bd.exec
  have hby := Bd.bytes
  have hml : c.maxLocals = 5 := hml0
  have hD : ∀ (k : Nat) {pc : Nat} {i : Instr} {n : Nat}, Ld_st[k]? = some (pc, i, n) → decode c.code pc = .ok (i, n) := by intro k pc i n h; exact hb hby (d_st (pc, i, n) (mi k h))
  have hown : s.vm.findClass "com/example/sambre/sambre/engine/Rows$Builder" = some m.cls := findClass_of_methodNamed Bd.named
  have hnm := (name_of_methodNamed Bd.named Bd.method).1
  have X0 : Stand p l e ({ frames := 0, cells := 0, slots := 0, locals := 0 } : Room) s m #[(.ref b), .null, (.int (0 : Int32)), (.ref vv), (.int vc)] below meth c s₁ [] 0 0 := Stand.of_body Bd
  have e0 : s₁.heap = h0 := by rw [← hh, Bd.state]; rfl
  have N0 := Fr.nil n0
  obtain ⟨F0, hF0⟩ : ∃ F, F = mkF m 0 #[.val (.ref b), .val .null, .val (.int (0 : Int32)), .val (.ref vv), .val (.int vc)] [] := ⟨_, rfl⟩
  have pre0 : ∀ t, Steps p.tables e below (s₁.setTop F0) t → Steps p.tables e below (s₁.setTop (entryFrame m #[(.ref b), .null, (.int (0 : Int32)), (.ref vv), (.int vc)] 5)) t := fun t k => castTop ((ef_rmSTv m b fa ac fc cm ft su pr cc tc vv vc).trans hF0.symm) k
  have K0 : Rch p e below s₁ F0 s₁ (mkF m 0 #[.val (.ref b), .val .null, .val (.int (0 : Int32)), .val (.ref vv), .val (.int vc)] []) := fun t k => castTop hF0 k
  have K1 : Rc K0 s₁ (mkF m 2 #[sR b, .val .null, sI 0, sR vv, sI vc] [.null, (kR b)]) := fun t k => K0 t (by
    refine XS.aloadN X0.here hx rfl (hD 0 rfl) rfl rfl ?_
    refine XS.aloadN X0.here hx rfl (hD 1 rfl) rfl rfl ?_
    exact k)
  obtain ⟨T2, h2, L2, X2, e2, N2, W2q, st2⟩ := putW X0 hx hZ hown (host := "") (Or.inl (hw _ (mi 70 rfl))) e0 W0 N0 (own_dB hw) (Or.inl (hw _ (mi 71 rfl))) (hw _ (mi 45 rfl)) (ty := (.array .int)) (by decide +kernel) (i := 0) (a := b) rfl (j := 0) rfl rfl (v := .null) rfl rfl (g := K1.g) rfl rfl (hD 2 rfl)
  have K3 : Rc K0 T2 (mkF m 7 #[sR b, .val .null, sI 0, sR vv, sI vc] [(kI 0), (kR b)]) := fun t k => K1 t (st2 t (by
    refine XS.aloadN X2.here hx rfl (hD 3 rfl) rfl rfl ?_
    refine XS.iloadN X2.here hx rfl (hD 4 rfl) rfl ?_
    exact k))
  obtain ⟨T4, h4, L4, X4, e4, N4, W4q, st4⟩ := putW X2 hx hZ hown (host := "") (Or.inl (hw _ (mi 72 rfl))) e2 W2q N2 (own_dB hw) (Or.inl (hw _ (mi 73 rfl))) (hw _ (mi 45 rfl)) (ty := .int) (by decide +kernel) (i := 0) (a := b) rfl (j := 1) rfl rfl (v := (.int (0 : Int32))) rfl rfl (g := K3.g) rfl rfl (hD 5 rfl)
  have K5 : Rc K0 T4 (mkF m 12 #[sR b, .val .null, sI 0, sR vv, sI vc] [(kR vv), (kR b)]) := fun t k => K3 t (st4 t (by
    refine XS.aloadN X4.here hx rfl (hD 6 rfl) rfl rfl ?_
    refine XS.aloadN X4.here hx rfl (hD 7 rfl) rfl rfl ?_
    exact k))
  obtain ⟨T6, h6, L6, X6, e6, N6, W6q, st6⟩ := putW X4 hx hZ hown (host := "") (Or.inl (hw _ (mi 74 rfl))) e4 W4q N4 (own_dB hw) (Or.inl (hw _ (mi 75 rfl))) (hw _ (mi 45 rfl)) (ty := (.array .double)) (by decide +kernel) (i := 0) (a := b) rfl (j := 2) rfl rfl (v := (.ref vv)) rfl rfl (g := K5.g) rfl rfl (hD 8 rfl)
  have K7 : Rc K0 T6 (mkF m 18 #[sR b, .val .null, sI 0, sR vv, sI vc] [(kI vc), (kR b)]) := fun t k => K5 t (st6 t (by
    refine XS.aloadN X6.here hx rfl (hD 9 rfl) rfl rfl ?_
    refine XS.iload X6.here hx rfl (hD 10 rfl) rfl ?_
    exact k))
  obtain ⟨T8, h8, L8, X8, e8, N8, W8q, st8⟩ := putW X6 hx hZ hown (host := "") (Or.inl (hw _ (mi 76 rfl))) e6 W6q N6 (own_dB hw) (Or.inl (hw _ (mi 77 rfl))) (hw _ (mi 45 rfl)) (ty := .int) (by decide +kernel) (i := 0) (a := b) rfl (j := 3) rfl rfl (v := (.int vc)) rfl rfl (g := K7.g) rfl rfl (hD 11 rfl)
  have W8 : Wo n0 h8 ((b, oB Z [.null, (kI 0), (kR vv), (kI vc), (kR fa), (kR ac), (kR fc), (kR cm), (kR ft), (kR su), (kR pr), (kI cc), (kI 0), (kI 0), (kI tc), .null]) :: Rr) := W8q
  have K9 : Rc K0 T8 (mkF m 23 #[sR b, .val .null, sI 0, sR vv, sI vc] [(kI 0), (kR b)]) := fun t k => K7 t (st8 t (by
    refine XS.aloadN X8.here hx rfl (hD 12 rfl) rfl rfl ?_
    refine XS.iconst X8.here hx rfl (hD 13 rfl) ?_
    exact k))
  obtain ⟨T10, h10, L10, X10, e10, N10, W10q, st10⟩ := putW X8 hx hZ hown (host := "") (Or.inl (hw _ (mi 78 rfl))) e8 W8 N8 (own_dB hw) (Or.inl (hw _ (mi 79 rfl))) (hw _ (mi 45 rfl)) (ty := .int) (by decide +kernel) (i := 0) (a := b) rfl (j := 11) rfl rfl (v := (.int (0 : Int32))) rfl rfl (g := K9.g) rfl rfl (hD 14 rfl)
  have K11 : Rc K0 T10 (mkF m 28 #[sR b, .val .null, sI 0, sR vv, sI vc] [(kI 0), (kR b)]) := fun t k => K9 t (st10 t (by
    refine XS.aloadN X10.here hx rfl (hD 15 rfl) rfl rfl ?_
    refine XS.iconst X10.here hx rfl (hD 16 rfl) ?_
    exact k))
  obtain ⟨T12, h12, L12, X12, e12, N12, W12q, st12⟩ := putW X10 hx hZ hown (host := "") (Or.inl (hw _ (mi 80 rfl))) e10 W10q N10 (own_dB hw) (Or.inl (hw _ (mi 81 rfl))) (hw _ (mi 45 rfl)) (ty := .int) (by decide +kernel) (i := 0) (a := b) rfl (j := 12) rfl rfl (v := (.int (0 : Int32))) rfl rfl (g := K11.g) rfl rfl (hD 17 rfl)
  have K13 : Rc K0 T12 (mkF m 33 #[sR b, .val .null, sI 0, sR vv, sI vc] [(kI 0), (kR b)]) := fun t k => K11 t (st12 t (by
    refine XS.aloadN X12.here hx rfl (hD 18 rfl) rfl rfl ?_
    refine XS.iconst X12.here hx rfl (hD 19 rfl) ?_
    exact k))
  obtain ⟨T14, h14, L14, X14, e14, N14, W14q, st14⟩ := putW X12 hx hZ hown (host := "") (Or.inl (hw _ (mi 82 rfl))) e12 W12q N12 (own_dB hw) (Or.inl (hw _ (mi 83 rfl))) (hw _ (mi 45 rfl)) (ty := .int) (by decide +kernel) (i := 0) (a := b) rfl (j := 13) rfl rfl (v := (.int (0 : Int32))) rfl rfl (g := K13.g) rfl rfl (hD 20 rfl)
  have K15 : Rc K0 T14 (mkF m 38 #[sR b, .val .null, sI 0, sR vv, sI vc] [(kI 0), (kR b)]) := fun t k => K13 t (st14 t (by
    refine XS.aloadN X14.here hx rfl (hD 21 rfl) rfl rfl ?_
    refine XS.iconst X14.here hx rfl (hD 22 rfl) ?_
    exact k))
  obtain ⟨T16, h16, L16, X16, e16, N16, W16q, st16⟩ := putW X14 hx hZ hown (host := "") (Or.inl (hw _ (mi 84 rfl))) e14 W14q N14 (own_dB hw) (Or.inl (hw _ (mi 85 rfl))) (hw _ (mi 45 rfl)) (ty := .int) (by decide +kernel) (i := 0) (a := b) rfl (j := 14) rfl rfl (v := (.int (0 : Int32))) rfl rfl (g := K15.g) rfl rfl (hD 23 rfl)
  have W16 : Wo n0 h16 ((b, oB Z [.null, (kI 0), (kR vv), (kI vc), (kR fa), (kR ac), (kR fc), (kR cm), (kR ft), (kR su), (kR pr), (kI 0), (kI 0), (kI 0), (kI 0), .null]) :: Rr) := W16q
  have K17 : Rc K0 T16 (mkF m 43 #[sR b, .val .null, sI 0, sR vv, sI vc] [.null, (kR b)]) := fun t k => K15 t (st16 t (by
    refine XS.aloadN X16.here hx rfl (hD 24 rfl) rfl rfl ?_
    refine XS.aconstNull X16.here hx rfl (hD 25 rfl) ?_
    exact k))
  obtain ⟨T18, h18, L18, X18, e18, N18, W18q, st18⟩ := putW X16 hx hZ hown (host := "") (Or.inl (hw _ (mi 86 rfl))) e16 W16 N16 (own_dB hw) (Or.inl (hw _ (mi 87 rfl))) (hw _ (mi 45 rfl)) (ty := (.object "java/util/Map")) (by decide +kernel) (i := 0) (a := b) rfl (j := 15) rfl rfl (v := .null) rfl rfl (g := K17.g) rfl rfl (hD 26 rfl)
  have K19 : Rc K0 T18 (mkF m 46 #[sR b, .val .null, sI 0, sR vv, sI vc] []) := fun t k => K17 t (st18 t (k))
  obtain ⟨fs, hr, hrun, hended, hWm, hsame⟩ := X18.leave (v := none) (fun _ => rfl)
  refine ⟨_, _, pre0 _ (K19 _ (X18.returnOut hx Bd.returns (hD 27 rfl) hr)), hrun, hended, _, _, rfl, ?_, ⟨_, rfl⟩, hWm, hsame.mono (by decide) (by decide)⟩
  show QrmSTv Z b fa ac fc cm ft su pr cc tc vv vc Rr n0 _ T18.heap _
  rw [e18]
  exact ⟨rfl, N18, W18q⟩
abbrev y_sc : MethodName := ⟨"com/example/sambre/sambre/engine/Rows$Builder", "startChoice", "()V"⟩
theorem pd_sc : parseMethodDescriptor "()V" = some ⟨[], none⟩ := by decide +kernel
def Ld_sc : List (Nat × Instr × Nat) := [(0, .aload_n 0, 1), (1, .getfield 45, 3), (4, .aload_n 0, 1), (5, .getfield 7, 3), (8, .arraylength, 1), (9, .if_icmp .ne 54, 3), (63, .aload_n 0, 1), (64, .getfield 7, 3), (67, .aload_n 0, 1), (68, .getfield 45, 3), (71, .aload_n 0, 1), (72, .getfield 48, 3), (75, .iastore, 1), (76, .aload_n 0, 1), (77, .getfield 16, 3), (80, .aload_n 0, 1), (81, .getfield 45, 3), (84, .aload_n 0, 1), (85, .getfield 51, 3), (88, .iastore, 1), (89, .aload_n 0, 1), (90, .getfield 22, 3), (93, .aload_n 0, 1), (94, .dup, 1), (95, .getfield 45, 3), (98, .dup_x1, 1), (99, .iconst 1, 1), (100, .iadd, 1), (101, .putfield 45, 3), (104, .aload_n 0, 1), (105, .getfield 54, 3), (108, .iastore, 1), (109, .aload_n 0, 1), (110, .aconst_null, 1), (111, .putfield 57, 3), (114, .return_, 1)]
set_option maxRecDepth 65536 in
theorem d_sc : ∀ x ∈ Ld_sc, decode prog_88_method_3_code x.1 = .ok (x.2.1, x.2.2) := by decide +kernel
theorem ef_rmSCn (m : MethodId) (b fa ac fc cm ft su pr : Addr) (vc : Int32) (f1 f2 f3 : Nat → Value) : entryFrame m #[(.ref b)] 1 = mkF m 0 #[.val (.ref b)] [] := by first | (simp [entryFrame, mkF, argsToLocals, Value.category]; done) | rfl
def QrmSCn (Z : State) (b fa ac fc cm ft su pr : Addr) (vc : Int32) (f1 f2 f3 : Nat → Value) (Rr : List (Addr × (Cell → Prop))) (n0 : Nat) (v : Option Value) (h : Heap) (L : List Loc) : Prop := v = none ∧ Fr n0 L ∧ Wo n0 h ((b, oB Z [.null, (kI 0), .null, (kI vc), (kR fa), (kR ac), (kR fc), (kR cm), (kR ft), (kR su), (kR pr), (kI 1), (kI 0), (kI 0), (kI 0), .null]) :: (fa, Ar Z .int 2 (upd f1 0 (kI 0))) :: (fc, Ar Z .int 2 (upd f2 0 (kI 0))) :: (ft, Ar Z .int 2 (upd f3 0 (kI 0))) :: Rr)
set_option maxRecDepth 65536 in
set_option maxHeartbeats 40000000 in
theorem rmSCn (l : Launch) (Z : State) (a0 : Array Value) (hw : ∀ d ∈ tables_1, d.before a0 Z = true) (ws : List Jvm.Cond) (b fa ac fc cm ft su pr : Addr) (vc : Int32) (f1 f2 f3 : Nat → Value) (Rr : List (Addr × (Cell → Prop))) (h0 : Heap) (n0 : Nat) (W0 : Wo n0 h0 ((b, oB Z [.null, (kI 0), .null, (kI vc), (kR fa), (kR ac), (kR fc), (kR cm), (kR ft), (kR su), (kR pr), (kI 0), (kI 0), (kI 0), (kI 0), .null]) :: (fa, Ar Z .int 2 f1) :: (fc, Ar Z .int 2 f2) :: (ft, Ar Z .int 2 f3) :: Rr)) :
    MetFree l y_sc (head1 (Jvm.Cond.code y_sc prog_88_method_3_code 1 none :: ws) ({ frames := 0, cells := 0, slots := 0, locals := 0 } : Room)) (fun aa U => aa = #[(.ref b)] ∧ Z.Warmed39 U.vm ∧ U.heap = h0) (fun _ _ _ _ _ => True) (fun _ U ou U' => ∃ v L, ou = .returned v ∧ QrmSCn Z b fa ac fc cm ft su pr vc f1 f2 f3 Rr n0 v U'.heap L ∧ FrameEnd U ou U' L ({ frames := 0, cells := 0, slots := 0, locals := 0 } : Room).cells ({ frames := 0, cells := 0, slots := 0, locals := 0 } : Room).slots) := by
  refine MetFree.of_bodySF (plainFor_of_name pn_Rows_Builder) hisR ?_
  intro p e s m args below meth c s₁ Bd hml0 hP hK
  obtain ⟨rfl, hZ, hh⟩ := hP
  have hx := Bd.exec
  have hby := Bd.bytes
  have hml : c.maxLocals = 1 := hml0
  have hD : ∀ (k : Nat) {pc : Nat} {i : Instr} {n : Nat}, Ld_sc[k]? = some (pc, i, n) → decode c.code pc = .ok (i, n) := by intro k pc i n h; exact hb hby (d_sc (pc, i, n) (mi k h))
  have hown : s.vm.findClass "com/example/sambre/sambre/engine/Rows$Builder" = some m.cls := findClass_of_methodNamed Bd.named
  have hnm := (name_of_methodNamed Bd.named Bd.method).1
  have X0 : Stand p l e ({ frames := 0, cells := 0, slots := 0, locals := 0 } : Room) s m #[(.ref b)] below meth c s₁ [] 0 0 := Stand.of_body Bd
  have e0 : s₁.heap = h0 := by rw [← hh, Bd.state]; rfl
  have N0 := Fr.nil n0
  obtain ⟨F0, hF0⟩ : ∃ F, F = mkF m 0 #[.val (.ref b)] [] := ⟨_, rfl⟩
  have pre0 : ∀ t, Steps p.tables e below (s₁.setTop F0) t → Steps p.tables e below (s₁.setTop (entryFrame m #[(.ref b)] 1)) t := fun t k => castTop ((ef_rmSCn m b fa ac fc cm ft su pr vc f1 f2 f3).trans hF0.symm) k
  have K0 : Rch p e below s₁ F0 s₁ (mkF m 0 #[.val (.ref b)] []) := fun t k => castTop hF0 k
  have K1 : Rc K0 s₁ (mkF m 1 #[sR b] [(kR b)]) := fun t k => K0 t (XS.aloadN X0.here hx rfl (hD 0 rfl) rfl rfl k)
  obtain ⟨T2, X2, e2, st2⟩ := getF X0 hx hZ hown (host := "") (Or.inl (hw _ (mi 78 rfl))) Via.refl e0 (W0.fld (i := 0) rfl (j := 11) rfl rfl) (g := K1.g) rfl rfl (hD 1 rfl)
  have K3 : Rc K0 T2 (mkF m 5 #[sR b] [(kR b), (kI 0)]) := fun t k => K1 t (st2 t (XS.aloadN X2.here hx rfl (hD 2 rfl) rfl rfl k))
  obtain ⟨T4, X4, e4, st4⟩ := getF X2 hx hZ hown (host := "") (Or.inl (hw _ (mi 51 rfl))) Via.refl e2 (W0.fld (i := 0) rfl (j := 4) rfl rfl) (g := K3.g) rfl rfl (hD 3 rfl)
  have K5 : Rc K0 T4 (mkF m 64 #[sR b] [(kR b)]) := fun t k => K3 t (st4 t (by
    refine lenW X4 hx hZ e4 W0 (i := 1) rfl (fun _ q => q) (z := (2 : Int32)) (by decide) (g := (mkF m 8 #[sR b] [(kR fa), (kI 0)])) rfl rfl (hD 4 rfl) _ ?_
    refine XS.icmpYes X4.here hx rfl (pc0 := 9) (pc' := 63) rfl (hD 5 rfl) rfl (by decide) (by decide) (by decide) ?_
    refine XS.aloadN X4.here hx rfl (hD 6 rfl) rfl rfl ?_
    exact k))
  obtain ⟨T6, X6, e6, st6⟩ := getF X4 hx hZ hown (host := "") (Or.inl (hw _ (mi 51 rfl))) Via.refl e4 (W0.fld (i := 0) rfl (j := 4) rfl rfl) (g := K5.g) rfl rfl (hD 7 rfl)
  have K7 : Rc K0 T6 (mkF m 68 #[sR b] [(kR b), (kR fa)]) := fun t k => K5 t (st6 t (XS.aloadN X6.here hx rfl (hD 8 rfl) rfl rfl k))
  obtain ⟨T8, X8, e8, st8⟩ := getF X6 hx hZ hown (host := "") (Or.inl (hw _ (mi 78 rfl))) Via.refl e6 (W0.fld (i := 0) rfl (j := 11) rfl rfl) (g := K7.g) rfl rfl (hD 9 rfl)
  have K9 : Rc K0 T8 (mkF m 72 #[sR b] [(kR b), (kI 0), (kR fa)]) := fun t k => K7 t (st8 t (XS.aloadN X8.here hx rfl (hD 10 rfl) rfl rfl k))
  obtain ⟨T10, X10, e10, st10⟩ := getF X8 hx hZ hown (host := "") (Or.inl (hw _ (mi 80 rfl))) Via.refl e8 (W0.fld (i := 0) rfl (j := 12) rfl rfl) (g := K9.g) rfl rfl (hD 11 rfl)
  obtain ⟨T11, h11, L11, X11, e11, N11, W11q, st11⟩ := iasW X10 hx hZ e10 W0 N0 (i := 1) (a := fa) rfl (j := (0 : Int32)) (x := (0 : Int32)) (k := 0) (by decide) (by decide) (by decide) (g := (mkF m 75 #[sR b] [(kI 0), (kI 0), (kR fa)])) rfl rfl (hD 12 rfl)
  have K12 : Rc K0 T11 (mkF m 77 #[sR b] [(kR b)]) := fun t k => K9 t (st10 t (st11 t (XS.aloadN X11.here hx rfl (hD 13 rfl) rfl rfl k)))
  obtain ⟨T13, X13, e13, st13⟩ := getF X11 hx hZ hown (host := "") (Or.inl (hw _ (mi 55 rfl))) Via.refl e11 (W11q.fld (i := 0) rfl (j := 6) rfl rfl) (g := K12.g) rfl rfl (hD 14 rfl)
  have K14 : Rc K0 T13 (mkF m 81 #[sR b] [(kR b), (kR fc)]) := fun t k => K12 t (st13 t (XS.aloadN X13.here hx rfl (hD 15 rfl) rfl rfl k))
  obtain ⟨T15, X15, e15, st15⟩ := getF X13 hx hZ hown (host := "") (Or.inl (hw _ (mi 78 rfl))) Via.refl e13 (W11q.fld (i := 0) rfl (j := 11) rfl rfl) (g := K14.g) rfl rfl (hD 16 rfl)
  have K16 : Rc K0 T15 (mkF m 85 #[sR b] [(kR b), (kI 0), (kR fc)]) := fun t k => K14 t (st15 t (XS.aloadN X15.here hx rfl (hD 17 rfl) rfl rfl k))
  obtain ⟨T17, X17, e17, st17⟩ := getF X15 hx hZ hown (host := "") (Or.inl (hw _ (mi 82 rfl))) Via.refl e15 (W11q.fld (i := 0) rfl (j := 13) rfl rfl) (g := K16.g) rfl rfl (hD 18 rfl)
  obtain ⟨T18, h18, L18, X18, e18, N18, W18q, st18⟩ := iasW X17 hx hZ e17 W11q N11 (i := 2) (a := fc) rfl (j := (0 : Int32)) (x := (0 : Int32)) (k := 0) (by decide) (by decide) (by decide) (g := (mkF m 88 #[sR b] [(kI 0), (kI 0), (kR fc)])) rfl rfl (hD 19 rfl)
  have K19 : Rc K0 T18 (mkF m 90 #[sR b] [(kR b)]) := fun t k => K16 t (st17 t (st18 t (XS.aloadN X18.here hx rfl (hD 20 rfl) rfl rfl k)))
  obtain ⟨T20, X20, e20, st20⟩ := getF X18 hx hZ hown (host := "") (Or.inl (hw _ (mi 59 rfl))) Via.refl e18 (W18q.fld (i := 0) rfl (j := 8) rfl rfl) (g := K19.g) rfl rfl (hD 21 rfl)
  have K21 : Rc K0 T20 (mkF m 95 #[sR b] [(kR b), (kR b), (kR ft)]) := fun t k => K19 t (st20 t (by
    refine XS.aloadN X20.here hx rfl (hD 22 rfl) rfl rfl ?_
    refine XS.dup X20.here hx rfl (hD 23 rfl) rfl rfl ?_
    exact k))
  obtain ⟨T22, X22, e22, st22⟩ := getF X20 hx hZ hown (host := "") (Or.inl (hw _ (mi 78 rfl))) Via.refl e20 (W18q.fld (i := 0) rfl (j := 11) rfl rfl) (g := K21.g) rfl rfl (hD 24 rfl)
  have K23 : Rc K0 T22 (mkF m 101 #[sR b] [(kI 1), (kR b), (kI 0), (kR ft)]) := fun t k => K21 t (st22 t (by
    refine XS.dupX1 X22.here hx rfl (hD 25 rfl) rfl rfl rfl ?_
    refine XS.iconst X22.here hx rfl (hD 26 rfl) ?_
    refine XS.iadd X22.here hx rfl (hD 27 rfl) rfl ?_
    exact k))
  obtain ⟨T24, h24, L24, X24, e24, N24, W24q, st24⟩ := putW X22 hx hZ hown (host := "") (Or.inl (hw _ (mi 78 rfl))) e22 W18q N18 (own_dB hw) (Or.inl (hw _ (mi 79 rfl))) (hw _ (mi 45 rfl)) (ty := .int) (by decide +kernel) (i := 0) (a := b) rfl (j := 11) rfl rfl (v := (.int (1 : Int32))) rfl rfl (g := K23.g) rfl rfl (hD 28 rfl)
  have K25 : Rc K0 T24 (mkF m 105 #[sR b] [(kR b), (kI 0), (kR ft)]) := fun t k => K23 t (st24 t (XS.aloadN X24.here hx rfl (hD 29 rfl) rfl rfl k))
  obtain ⟨T26, X26, e26, st26⟩ := getF X24 hx hZ hown (host := "") (Or.inl (hw _ (mi 84 rfl))) Via.refl e24 (W24q.fld (i := 0) rfl (j := 14) rfl rfl) (g := K25.g) rfl rfl (hD 30 rfl)
  obtain ⟨T27, h27, L27, X27, e27, N27, W27q, st27⟩ := iasW X26 hx hZ e26 W24q N24 (i := 3) (a := ft) rfl (j := (0 : Int32)) (x := (0 : Int32)) (k := 0) (by decide) (by decide) (by decide) (g := (mkF m 108 #[sR b] [(kI 0), (kI 0), (kR ft)])) rfl rfl (hD 31 rfl)
  have W27 : Wo n0 h27 ((b, oB Z [.null, (kI 0), .null, (kI vc), (kR fa), (kR ac), (kR fc), (kR cm), (kR ft), (kR su), (kR pr), (kI 1), (kI 0), (kI 0), (kI 0), .null]) :: (fa, Ar Z .int 2 (upd f1 0 (kI 0))) :: (fc, Ar Z .int 2 (upd f2 0 (kI 0))) :: (ft, Ar Z .int 2 (upd f3 0 (kI 0))) :: Rr) := W27q
  have K28 : Rc K0 T27 (mkF m 111 #[sR b] [.null, (kR b)]) := fun t k => K25 t (st26 t (st27 t (by
    refine XS.aloadN X27.here hx rfl (hD 32 rfl) rfl rfl ?_
    refine XS.aconstNull X27.here hx rfl (hD 33 rfl) ?_
    exact k)))
  obtain ⟨T29, h29, L29, X29, e29, N29, W29q, st29⟩ := putW X27 hx hZ hown (host := "") (Or.inl (hw _ (mi 86 rfl))) e27 W27 N27 (own_dB hw) (Or.inl (hw _ (mi 87 rfl))) (hw _ (mi 45 rfl)) (ty := (.object "java/util/Map")) (by decide +kernel) (i := 0) (a := b) rfl (j := 15) rfl rfl (v := .null) rfl rfl (g := K28.g) rfl rfl (hD 34 rfl)
  have K30 : Rc K0 T29 (mkF m 114 #[sR b] []) := fun t k => K28 t (st29 t (k))
  obtain ⟨fs, hr, hrun, hended, hWm, hsame⟩ := X29.leave (v := none) (fun _ => rfl)
  refine ⟨_, _, pre0 _ (K30 _ (X29.returnOut hx Bd.returns (hD 35 rfl) hr)), hrun, hended, _, _, rfl, ?_, ⟨_, rfl⟩, hWm, hsame.mono (by decide) (by decide)⟩
  show QrmSCn Z b fa ac fc cm ft su pr vc f1 f2 f3 Rr n0 _ T29.heap _
  rw [e29]
  exact ⟨rfl, N29, W29q⟩
theorem ef_rmSCv (m : MethodId) (b fa ac fc cm ft su pr : Addr) (vv : Addr) (vc : Int32) (f1 f2 f3 : Nat → Value) : entryFrame m #[(.ref b)] 1 = mkF m 0 #[.val (.ref b)] [] := by first | (simp [entryFrame, mkF, argsToLocals, Value.category]; done) | rfl
def QrmSCv (Z : State) (b fa ac fc cm ft su pr : Addr) (vv : Addr) (vc : Int32) (f1 f2 f3 : Nat → Value) (Rr : List (Addr × (Cell → Prop))) (n0 : Nat) (v : Option Value) (h : Heap) (L : List Loc) : Prop := v = none ∧ Fr n0 L ∧ Wo n0 h ((b, oB Z [.null, (kI 0), (kR vv), (kI vc), (kR fa), (kR ac), (kR fc), (kR cm), (kR ft), (kR su), (kR pr), (kI 1), (kI 0), (kI 0), (kI 0), .null]) :: (fa, Ar Z .int 2 (upd f1 0 (kI 0))) :: (fc, Ar Z .int 2 (upd f2 0 (kI 0))) :: (ft, Ar Z .int 2 (upd f3 0 (kI 0))) :: Rr)
set_option maxRecDepth 65536 in
set_option maxHeartbeats 40000000 in
theorem rmSCv (l : Launch) (Z : State) (a0 : Array Value) (hw : ∀ d ∈ tables_1, d.before a0 Z = true) (ws : List Jvm.Cond) (b fa ac fc cm ft su pr : Addr) (vv : Addr) (vc : Int32) (f1 f2 f3 : Nat → Value) (Rr : List (Addr × (Cell → Prop))) (h0 : Heap) (n0 : Nat) (W0 : Wo n0 h0 ((b, oB Z [.null, (kI 0), (kR vv), (kI vc), (kR fa), (kR ac), (kR fc), (kR cm), (kR ft), (kR su), (kR pr), (kI 0), (kI 0), (kI 0), (kI 0), .null]) :: (fa, Ar Z .int 2 f1) :: (fc, Ar Z .int 2 f2) :: (ft, Ar Z .int 2 f3) :: Rr)) :
    MetFree l y_sc (head1 (Jvm.Cond.code y_sc prog_88_method_3_code 1 none :: ws) ({ frames := 0, cells := 0, slots := 0, locals := 0 } : Room)) (fun aa U => aa = #[(.ref b)] ∧ Z.Warmed39 U.vm ∧ U.heap = h0) (fun _ _ _ _ _ => True) (fun _ U ou U' => ∃ v L, ou = .returned v ∧ QrmSCv Z b fa ac fc cm ft su pr vv vc f1 f2 f3 Rr n0 v U'.heap L ∧ FrameEnd U ou U' L ({ frames := 0, cells := 0, slots := 0, locals := 0 } : Room).cells ({ frames := 0, cells := 0, slots := 0, locals := 0 } : Room).slots) := by
  refine MetFree.of_bodySF (plainFor_of_name pn_Rows_Builder) hisR ?_
  intro p e s m args below meth c s₁ Bd hml0 hP hK
  obtain ⟨rfl, hZ, hh⟩ := hP
  have hx := Bd.exec
  have hby := Bd.bytes
  have hml : c.maxLocals = 1 := hml0
  have hD : ∀ (k : Nat) {pc : Nat} {i : Instr} {n : Nat}, Ld_sc[k]? = some (pc, i, n) → decode c.code pc = .ok (i, n) := by intro k pc i n h; exact hb hby (d_sc (pc, i, n) (mi k h))
  have hown : s.vm.findClass "com/example/sambre/sambre/engine/Rows$Builder" = some m.cls := findClass_of_methodNamed Bd.named
  have hnm := (name_of_methodNamed Bd.named Bd.method).1
  have X0 : Stand p l e ({ frames := 0, cells := 0, slots := 0, locals := 0 } : Room) s m #[(.ref b)] below meth c s₁ [] 0 0 := Stand.of_body Bd
  have e0 : s₁.heap = h0 := by rw [← hh, Bd.state]; rfl
  have N0 := Fr.nil n0
  obtain ⟨F0, hF0⟩ : ∃ F, F = mkF m 0 #[.val (.ref b)] [] := ⟨_, rfl⟩
  have pre0 : ∀ t, Steps p.tables e below (s₁.setTop F0) t → Steps p.tables e below (s₁.setTop (entryFrame m #[(.ref b)] 1)) t := fun t k => castTop ((ef_rmSCv m b fa ac fc cm ft su pr vv vc f1 f2 f3).trans hF0.symm) k
  have K0 : Rch p e below s₁ F0 s₁ (mkF m 0 #[.val (.ref b)] []) := fun t k => castTop hF0 k
  have K1 : Rc K0 s₁ (mkF m 1 #[sR b] [(kR b)]) := fun t k => K0 t (XS.aloadN X0.here hx rfl (hD 0 rfl) rfl rfl k)
  obtain ⟨T2, X2, e2, st2⟩ := getF X0 hx hZ hown (host := "") (Or.inl (hw _ (mi 78 rfl))) Via.refl e0 (W0.fld (i := 0) rfl (j := 11) rfl rfl) (g := K1.g) rfl rfl (hD 1 rfl)
  have K3 : Rc K0 T2 (mkF m 5 #[sR b] [(kR b), (kI 0)]) := fun t k => K1 t (st2 t (XS.aloadN X2.here hx rfl (hD 2 rfl) rfl rfl k))
  obtain ⟨T4, X4, e4, st4⟩ := getF X2 hx hZ hown (host := "") (Or.inl (hw _ (mi 51 rfl))) Via.refl e2 (W0.fld (i := 0) rfl (j := 4) rfl rfl) (g := K3.g) rfl rfl (hD 3 rfl)
  have K5 : Rc K0 T4 (mkF m 64 #[sR b] [(kR b)]) := fun t k => K3 t (st4 t (by
    refine lenW X4 hx hZ e4 W0 (i := 1) rfl (fun _ q => q) (z := (2 : Int32)) (by decide) (g := (mkF m 8 #[sR b] [(kR fa), (kI 0)])) rfl rfl (hD 4 rfl) _ ?_
    refine XS.icmpYes X4.here hx rfl (pc0 := 9) (pc' := 63) rfl (hD 5 rfl) rfl (by decide) (by decide) (by decide) ?_
    refine XS.aloadN X4.here hx rfl (hD 6 rfl) rfl rfl ?_
    exact k))
  obtain ⟨T6, X6, e6, st6⟩ := getF X4 hx hZ hown (host := "") (Or.inl (hw _ (mi 51 rfl))) Via.refl e4 (W0.fld (i := 0) rfl (j := 4) rfl rfl) (g := K5.g) rfl rfl (hD 7 rfl)
  have K7 : Rc K0 T6 (mkF m 68 #[sR b] [(kR b), (kR fa)]) := fun t k => K5 t (st6 t (XS.aloadN X6.here hx rfl (hD 8 rfl) rfl rfl k))
  obtain ⟨T8, X8, e8, st8⟩ := getF X6 hx hZ hown (host := "") (Or.inl (hw _ (mi 78 rfl))) Via.refl e6 (W0.fld (i := 0) rfl (j := 11) rfl rfl) (g := K7.g) rfl rfl (hD 9 rfl)
  have K9 : Rc K0 T8 (mkF m 72 #[sR b] [(kR b), (kI 0), (kR fa)]) := fun t k => K7 t (st8 t (XS.aloadN X8.here hx rfl (hD 10 rfl) rfl rfl k))
  obtain ⟨T10, X10, e10, st10⟩ := getF X8 hx hZ hown (host := "") (Or.inl (hw _ (mi 80 rfl))) Via.refl e8 (W0.fld (i := 0) rfl (j := 12) rfl rfl) (g := K9.g) rfl rfl (hD 11 rfl)
  obtain ⟨T11, h11, L11, X11, e11, N11, W11q, st11⟩ := iasW X10 hx hZ e10 W0 N0 (i := 1) (a := fa) rfl (j := (0 : Int32)) (x := (0 : Int32)) (k := 0) (by decide) (by decide) (by decide) (g := (mkF m 75 #[sR b] [(kI 0), (kI 0), (kR fa)])) rfl rfl (hD 12 rfl)
  have K12 : Rc K0 T11 (mkF m 77 #[sR b] [(kR b)]) := fun t k => K9 t (st10 t (st11 t (XS.aloadN X11.here hx rfl (hD 13 rfl) rfl rfl k)))
  obtain ⟨T13, X13, e13, st13⟩ := getF X11 hx hZ hown (host := "") (Or.inl (hw _ (mi 55 rfl))) Via.refl e11 (W11q.fld (i := 0) rfl (j := 6) rfl rfl) (g := K12.g) rfl rfl (hD 14 rfl)
  have K14 : Rc K0 T13 (mkF m 81 #[sR b] [(kR b), (kR fc)]) := fun t k => K12 t (st13 t (XS.aloadN X13.here hx rfl (hD 15 rfl) rfl rfl k))
  obtain ⟨T15, X15, e15, st15⟩ := getF X13 hx hZ hown (host := "") (Or.inl (hw _ (mi 78 rfl))) Via.refl e13 (W11q.fld (i := 0) rfl (j := 11) rfl rfl) (g := K14.g) rfl rfl (hD 16 rfl)
  have K16 : Rc K0 T15 (mkF m 85 #[sR b] [(kR b), (kI 0), (kR fc)]) := fun t k => K14 t (st15 t (XS.aloadN X15.here hx rfl (hD 17 rfl) rfl rfl k))
  obtain ⟨T17, X17, e17, st17⟩ := getF X15 hx hZ hown (host := "") (Or.inl (hw _ (mi 82 rfl))) Via.refl e15 (W11q.fld (i := 0) rfl (j := 13) rfl rfl) (g := K16.g) rfl rfl (hD 18 rfl)
  obtain ⟨T18, h18, L18, X18, e18, N18, W18q, st18⟩ := iasW X17 hx hZ e17 W11q N11 (i := 2) (a := fc) rfl (j := (0 : Int32)) (x := (0 : Int32)) (k := 0) (by decide) (by decide) (by decide) (g := (mkF m 88 #[sR b] [(kI 0), (kI 0), (kR fc)])) rfl rfl (hD 19 rfl)
  have K19 : Rc K0 T18 (mkF m 90 #[sR b] [(kR b)]) := fun t k => K16 t (st17 t (st18 t (XS.aloadN X18.here hx rfl (hD 20 rfl) rfl rfl k)))
  obtain ⟨T20, X20, e20, st20⟩ := getF X18 hx hZ hown (host := "") (Or.inl (hw _ (mi 59 rfl))) Via.refl e18 (W18q.fld (i := 0) rfl (j := 8) rfl rfl) (g := K19.g) rfl rfl (hD 21 rfl)
  have K21 : Rc K0 T20 (mkF m 95 #[sR b] [(kR b), (kR b), (kR ft)]) := fun t k => K19 t (st20 t (by
    refine XS.aloadN X20.here hx rfl (hD 22 rfl) rfl rfl ?_
    refine XS.dup X20.here hx rfl (hD 23 rfl) rfl rfl ?_
    exact k))
  obtain ⟨T22, X22, e22, st22⟩ := getF X20 hx hZ hown (host := "") (Or.inl (hw _ (mi 78 rfl))) Via.refl e20 (W18q.fld (i := 0) rfl (j := 11) rfl rfl) (g := K21.g) rfl rfl (hD 24 rfl)
  have K23 : Rc K0 T22 (mkF m 101 #[sR b] [(kI 1), (kR b), (kI 0), (kR ft)]) := fun t k => K21 t (st22 t (by
    refine XS.dupX1 X22.here hx rfl (hD 25 rfl) rfl rfl rfl ?_
    refine XS.iconst X22.here hx rfl (hD 26 rfl) ?_
    refine XS.iadd X22.here hx rfl (hD 27 rfl) rfl ?_
    exact k))
  obtain ⟨T24, h24, L24, X24, e24, N24, W24q, st24⟩ := putW X22 hx hZ hown (host := "") (Or.inl (hw _ (mi 78 rfl))) e22 W18q N18 (own_dB hw) (Or.inl (hw _ (mi 79 rfl))) (hw _ (mi 45 rfl)) (ty := .int) (by decide +kernel) (i := 0) (a := b) rfl (j := 11) rfl rfl (v := (.int (1 : Int32))) rfl rfl (g := K23.g) rfl rfl (hD 28 rfl)
  have K25 : Rc K0 T24 (mkF m 105 #[sR b] [(kR b), (kI 0), (kR ft)]) := fun t k => K23 t (st24 t (XS.aloadN X24.here hx rfl (hD 29 rfl) rfl rfl k))
  obtain ⟨T26, X26, e26, st26⟩ := getF X24 hx hZ hown (host := "") (Or.inl (hw _ (mi 84 rfl))) Via.refl e24 (W24q.fld (i := 0) rfl (j := 14) rfl rfl) (g := K25.g) rfl rfl (hD 30 rfl)
  obtain ⟨T27, h27, L27, X27, e27, N27, W27q, st27⟩ := iasW X26 hx hZ e26 W24q N24 (i := 3) (a := ft) rfl (j := (0 : Int32)) (x := (0 : Int32)) (k := 0) (by decide) (by decide) (by decide) (g := (mkF m 108 #[sR b] [(kI 0), (kI 0), (kR ft)])) rfl rfl (hD 31 rfl)
  have W27 : Wo n0 h27 ((b, oB Z [.null, (kI 0), (kR vv), (kI vc), (kR fa), (kR ac), (kR fc), (kR cm), (kR ft), (kR su), (kR pr), (kI 1), (kI 0), (kI 0), (kI 0), .null]) :: (fa, Ar Z .int 2 (upd f1 0 (kI 0))) :: (fc, Ar Z .int 2 (upd f2 0 (kI 0))) :: (ft, Ar Z .int 2 (upd f3 0 (kI 0))) :: Rr) := W27q
  have K28 : Rc K0 T27 (mkF m 111 #[sR b] [.null, (kR b)]) := fun t k => K25 t (st26 t (st27 t (by
    refine XS.aloadN X27.here hx rfl (hD 32 rfl) rfl rfl ?_
    refine XS.aconstNull X27.here hx rfl (hD 33 rfl) ?_
    exact k)))
  obtain ⟨T29, h29, L29, X29, e29, N29, W29q, st29⟩ := putW X27 hx hZ hown (host := "") (Or.inl (hw _ (mi 86 rfl))) e27 W27 N27 (own_dB hw) (Or.inl (hw _ (mi 87 rfl))) (hw _ (mi 45 rfl)) (ty := (.object "java/util/Map")) (by decide +kernel) (i := 0) (a := b) rfl (j := 15) rfl rfl (v := .null) rfl rfl (g := K28.g) rfl rfl (hD 34 rfl)
  have K30 : Rc K0 T29 (mkF m 114 #[sR b] []) := fun t k => K28 t (st29 t (k))
  obtain ⟨fs, hr, hrun, hended, hWm, hsame⟩ := X29.leave (v := none) (fun _ => rfl)
  refine ⟨_, _, pre0 _ (K30 _ (X29.returnOut hx Bd.returns (hD 35 rfl) hr)), hrun, hended, _, _, rfl, ?_, ⟨_, rfl⟩, hWm, hsame.mono (by decide) (by decide)⟩
  show QrmSCv Z b fa ac fc cm ft su pr vv vc f1 f2 f3 Rr n0 _ T29.heap _
  rw [e29]
  exact ⟨rfl, N29, W29q⟩
abbrev y_am : MethodName := ⟨"com/example/sambre/sambre/engine/Rows$Builder", "addMove", "(ID)I"⟩
theorem pd_am : parseMethodDescriptor "(ID)I" = some ⟨[.int, .double], some .int⟩ := by decide +kernel
def Ld_am : List (Nat × Instr × Nat) := [(0, .aload_n 0, 1), (1, .getfield 22, 3), (4, .aload_n 0, 1), (5, .getfield 45, 3), (8, .iconst 1, 1), (9, .isub, 1), (10, .iaload, 1), (11, .istore 4, 2), (13, .iconst (-1), 1), (14, .istore 5, 2), (16, .aload_n 0, 1), (17, .getfield 57, 3), (20, .ifnull 31, 3), (51, .iload 4, 2), (53, .istore 6, 2), (55, .iload 6, 2), (57, .aload_n 0, 1), (58, .getfield 54, 3), (61, .if_icmp .ge 33, 3), (94, .iload 5, 2), (96, .ifCond .lt 17, 3), (113, .aload_n 0, 1), (114, .getfield 54, 3), (117, .aload_n 0, 1), (118, .getfield 25, 3), (121, .arraylength, 1), (122, .if_icmp .ne 37, 3), (159, .aload_n 0, 1), (160, .dup, 1), (161, .getfield 54, 3), (164, .dup_x1, 1), (165, .iconst 1, 1), (166, .iadd, 1), (167, .putfield 54, 3), (170, .istore 5, 2), (172, .aload_n 0, 1), (173, .getfield 25, 3), (176, .iload 5, 2), (178, .iload_n 1, 1), (179, .iastore, 1), (180, .aload_n 0, 1), (181, .getfield 28, 3), (184, .iload 5, 2), (186, .dload_n 2, 1), (187, .dastore, 1), (188, .aload_n 0, 1), (189, .getfield 57, 3), (192, .ifnull 25, 3), (217, .aload_n 0, 1), (218, .getfield 54, 3), (221, .iload 4, 2), (223, .isub, 1), (224, .bipush 32, 2), (226, .if_icmp .le 58, 3), (284, .iload 5, 2), (286, .ireturn, 1)]
set_option maxRecDepth 65536 in
theorem d_am : ∀ x ∈ Ld_am, decode prog_88_method_6_code x.1 = .ok (x.2.1, x.2.2) := by decide +kernel
theorem ef_rmAMn (m : MethodId) (b fa ac fc cm ft su pr : Addr) (vc : Int32) (f3 f6 f7 : Nat → Value) : entryFrame m #[(.ref b), (.int (0 : Int32)), (.double (4607182418800017408 : UInt64))] 7 = mkF m 0 #[.val (.ref b), .val (.int (0 : Int32)), .val (.double (4607182418800017408 : UInt64)), .second, .unset, .unset, .unset] [] := by first | (simp [entryFrame, mkF, argsToLocals, Value.category]; done) | rfl
def QrmAMn (Z : State) (b fa ac fc cm ft su pr : Addr) (vc : Int32) (f3 f6 f7 : Nat → Value) (Rr : List (Addr × (Cell → Prop))) (n0 : Nat) (v : Option Value) (h : Heap) (L : List Loc) : Prop := v = some (.int (0 : Int32)) ∧ Fr n0 L ∧ Wo n0 h ((b, oB Z [.null, (kI 0), .null, (kI vc), (kR fa), (kR ac), (kR fc), (kR cm), (kR ft), (kR su), (kR pr), (kI 1), (kI 0), (kI 0), (kI 1), .null]) :: (ft, Ar Z .int 2 f3) :: (su, Ar Z .int 4 (upd f6 0 (kI 0))) :: (pr, Ar Z .double 4 (upd f7 0 (kD 4607182418800017408))) :: Rr)
set_option maxRecDepth 65536 in
set_option maxHeartbeats 40000000 in
theorem rmAMn (l : Launch) (Z : State) (a0 : Array Value) (hw : ∀ d ∈ tables_1, d.before a0 Z = true) (ws : List Jvm.Cond) (b fa ac fc cm ft su pr : Addr) (vc : Int32) (f3 f6 f7 : Nat → Value) (Rr : List (Addr × (Cell → Prop))) (h0 : Heap) (n0 : Nat) (W0 : Wo n0 h0 ((b, oB Z [.null, (kI 0), .null, (kI vc), (kR fa), (kR ac), (kR fc), (kR cm), (kR ft), (kR su), (kR pr), (kI 1), (kI 0), (kI 0), (kI 0), .null]) :: (ft, Ar Z .int 2 f3) :: (su, Ar Z .int 4 f6) :: (pr, Ar Z .double 4 f7) :: Rr)) (h3 : f3 0 = .int 0) :
    MetFree l y_am (head1 (Jvm.Cond.code y_am prog_88_method_6_code 7 (some .int) :: ws) ({ frames := 0, cells := 0, slots := 0, locals := 0 } : Room)) (fun aa U => aa = #[(.ref b), (.int (0 : Int32)), (.double (4607182418800017408 : UInt64))] ∧ Z.Warmed39 U.vm ∧ U.heap = h0) (fun _ _ _ _ _ => True) (fun _ U ou U' => ∃ v L, ou = .returned v ∧ QrmAMn Z b fa ac fc cm ft su pr vc f3 f6 f7 Rr n0 v U'.heap L ∧ FrameEnd U ou U' L ({ frames := 0, cells := 0, slots := 0, locals := 0 } : Room).cells ({ frames := 0, cells := 0, slots := 0, locals := 0 } : Room).slots) := by
  refine MetFree.of_bodySF (plainFor_of_name pn_Rows_Builder) hisR ?_
  intro p e s m args below meth c s₁ Bd hml0 hP hK
  obtain ⟨rfl, hZ, hh⟩ := hP
  have hx := Bd.exec
  have hby := Bd.bytes
  have hml : c.maxLocals = 7 := hml0
  have hD : ∀ (k : Nat) {pc : Nat} {i : Instr} {n : Nat}, Ld_am[k]? = some (pc, i, n) → decode c.code pc = .ok (i, n) := by intro k pc i n h; exact hb hby (d_am (pc, i, n) (mi k h))
  have hown : s.vm.findClass "com/example/sambre/sambre/engine/Rows$Builder" = some m.cls := findClass_of_methodNamed Bd.named
  have hnm := (name_of_methodNamed Bd.named Bd.method).1
  have X0 : Stand p l e ({ frames := 0, cells := 0, slots := 0, locals := 0 } : Room) s m #[(.ref b), (.int (0 : Int32)), (.double (4607182418800017408 : UInt64))] below meth c s₁ [] 0 0 := Stand.of_body Bd
  have e0 : s₁.heap = h0 := by rw [← hh, Bd.state]; rfl
  have N0 := Fr.nil n0
  obtain ⟨F0, hF0⟩ : ∃ F, F = mkF m 0 #[.val (.ref b), .val (.int (0 : Int32)), .val (.double (4607182418800017408 : UInt64)), .second, .unset, .unset, .unset] [] := ⟨_, rfl⟩
  have pre0 : ∀ t, Steps p.tables e below (s₁.setTop F0) t → Steps p.tables e below (s₁.setTop (entryFrame m #[(.ref b), (.int (0 : Int32)), (.double (4607182418800017408 : UInt64))] 7)) t := fun t k => castTop ((ef_rmAMn m b fa ac fc cm ft su pr vc f3 f6 f7).trans hF0.symm) k
  have K0 : Rch p e below s₁ F0 s₁ (mkF m 0 #[.val (.ref b), .val (.int (0 : Int32)), .val (.double (4607182418800017408 : UInt64)), .second, .unset, .unset, .unset] []) := fun t k => castTop hF0 k
  have K1 : Rc K0 s₁ (mkF m 1 #[sR b, sI 0, sD 4607182418800017408, sV, sU, sU, sU] [(kR b)]) := fun t k => K0 t (XS.aloadN X0.here hx rfl (hD 0 rfl) rfl rfl k)
  obtain ⟨T2, X2, e2, st2⟩ := getF X0 hx hZ hown (host := "") (Or.inl (hw _ (mi 59 rfl))) Via.refl e0 (W0.fld (i := 0) rfl (j := 8) rfl rfl) (g := K1.g) rfl rfl (hD 1 rfl)
  have K3 : Rc K0 T2 (mkF m 5 #[sR b, sI 0, sD 4607182418800017408, sV, sU, sU, sU] [(kR b), (kR ft)]) := fun t k => K1 t (st2 t (XS.aloadN X2.here hx rfl (hD 2 rfl) rfl rfl k))
  obtain ⟨T4, X4, e4, st4⟩ := getF X2 hx hZ hown (host := "") (Or.inl (hw _ (mi 78 rfl))) Via.refl e2 (W0.fld (i := 0) rfl (j := 11) rfl rfl) (g := K3.g) rfl rfl (hD 3 rfl)
  have K5 : Rc K0 T4 (mkF m 17 #[sR b, sI 0, sD 4607182418800017408, sV, sI 0, sI (-1), sU] [(kR b)]) := fun t k => K3 t (st4 t (by
    refine XS.iconst X4.here hx rfl (hD 4 rfl) ?_
    refine XS.isub X4.here hx rfl (hD 5 rfl) rfl ?_
    refine ialW X4 hx hZ e4 W0 (i := 1) rfl (j := (0 : Int32)) (k := 0) (by decide) (by decide) (by decide) (v := (.int (0 : Int32))) h3 (g := (mkF m 10 #[sR b, sI 0, sD 4607182418800017408, sV, sU, sU, sU] [(kI 0), (kR ft)])) rfl rfl (hD 6 rfl) _ ?_
    refine XS.istore X4.here hx rfl (hD 7 rfl) rfl (l' := #[sR b, sI 0, sD 4607182418800017408, sV, sI 0, sU, sU]) rfl ?_
    refine XS.iconst X4.here hx rfl (hD 8 rfl) ?_
    refine XS.istore X4.here hx rfl (hD 9 rfl) rfl (l' := #[sR b, sI 0, sD 4607182418800017408, sV, sI 0, sI (-1), sU]) rfl ?_
    refine XS.aloadN X4.here hx rfl (hD 10 rfl) rfl rfl ?_
    exact k))
  obtain ⟨T6, X6, e6, st6⟩ := getF X4 hx hZ hown (host := "") (Or.inl (hw _ (mi 86 rfl))) Via.refl e4 (W0.fld (i := 0) rfl (j := 15) rfl rfl) (g := K5.g) rfl rfl (hD 11 rfl)
  have K7 : Rc K0 T6 (mkF m 58 #[sR b, sI 0, sD 4607182418800017408, sV, sI 0, sI (-1), sI 0] [(kR b), (kI 0)]) := fun t k => K5 t (st6 t (by
    refine XS.ifnullYes X6.here hx rfl (pc0 := 20) (pc' := 51) rfl (hD 12 rfl) rfl (by decide) (by decide) ?_
    refine XS.iload X6.here hx rfl (hD 13 rfl) rfl ?_
    refine XS.istore X6.here hx rfl (hD 14 rfl) rfl (l' := #[sR b, sI 0, sD 4607182418800017408, sV, sI 0, sI (-1), sI 0]) rfl ?_
    refine XS.iload X6.here hx rfl (hD 15 rfl) rfl ?_
    refine XS.aloadN X6.here hx rfl (hD 16 rfl) rfl rfl ?_
    exact k))
  obtain ⟨T8, X8, e8, st8⟩ := getF X6 hx hZ hown (host := "") (Or.inl (hw _ (mi 84 rfl))) Via.refl e6 (W0.fld (i := 0) rfl (j := 14) rfl rfl) (g := K7.g) rfl rfl (hD 17 rfl)
  have K9 : Rc K0 T8 (mkF m 114 #[sR b, sI 0, sD 4607182418800017408, sV, sI 0, sI (-1), sI 0] [(kR b)]) := fun t k => K7 t (st8 t (by
    refine XS.icmpYes X8.here hx rfl (pc0 := 61) (pc' := 94) rfl (hD 18 rfl) rfl (by decide) (by decide) (by decide) ?_
    refine XS.iload X8.here hx rfl (hD 19 rfl) rfl ?_
    refine XS.ifYes X8.here hx rfl (pc0 := 96) (pc' := 113) rfl (hD 20 rfl) rfl (by decide) (by decide) (by decide) ?_
    refine XS.aloadN X8.here hx rfl (hD 21 rfl) rfl rfl ?_
    exact k))
  obtain ⟨T10, X10, e10, st10⟩ := getF X8 hx hZ hown (host := "") (Or.inl (hw _ (mi 84 rfl))) Via.refl e8 (W0.fld (i := 0) rfl (j := 14) rfl rfl) (g := K9.g) rfl rfl (hD 22 rfl)
  have K11 : Rc K0 T10 (mkF m 118 #[sR b, sI 0, sD 4607182418800017408, sV, sI 0, sI (-1), sI 0] [(kR b), (kI 0)]) := fun t k => K9 t (st10 t (XS.aloadN X10.here hx rfl (hD 23 rfl) rfl rfl k))
  obtain ⟨T12, X12, e12, st12⟩ := getF X10 hx hZ hown (host := "") (Or.inl (hw _ (mi 61 rfl))) Via.refl e10 (W0.fld (i := 0) rfl (j := 9) rfl rfl) (g := K11.g) rfl rfl (hD 24 rfl)
  have K13 : Rc K0 T12 (mkF m 161 #[sR b, sI 0, sD 4607182418800017408, sV, sI 0, sI (-1), sI 0] [(kR b), (kR b)]) := fun t k => K11 t (st12 t (by
    refine lenW X12 hx hZ e12 W0 (i := 2) rfl (fun _ q => q) (z := (4 : Int32)) (by decide) (g := (mkF m 121 #[sR b, sI 0, sD 4607182418800017408, sV, sI 0, sI (-1), sI 0] [(kR su), (kI 0)])) rfl rfl (hD 25 rfl) _ ?_
    refine XS.icmpYes X12.here hx rfl (pc0 := 122) (pc' := 159) rfl (hD 26 rfl) rfl (by decide) (by decide) (by decide) ?_
    refine XS.aloadN X12.here hx rfl (hD 27 rfl) rfl rfl ?_
    refine XS.dup X12.here hx rfl (hD 28 rfl) rfl rfl ?_
    exact k))
  obtain ⟨T14, X14, e14, st14⟩ := getF X12 hx hZ hown (host := "") (Or.inl (hw _ (mi 84 rfl))) Via.refl e12 (W0.fld (i := 0) rfl (j := 14) rfl rfl) (g := K13.g) rfl rfl (hD 29 rfl)
  have K15 : Rc K0 T14 (mkF m 167 #[sR b, sI 0, sD 4607182418800017408, sV, sI 0, sI (-1), sI 0] [(kI 1), (kR b), (kI 0)]) := fun t k => K13 t (st14 t (by
    refine XS.dupX1 X14.here hx rfl (hD 30 rfl) rfl rfl rfl ?_
    refine XS.iconst X14.here hx rfl (hD 31 rfl) ?_
    refine XS.iadd X14.here hx rfl (hD 32 rfl) rfl ?_
    exact k))
  obtain ⟨T16, h16, L16, X16, e16, N16, W16q, st16⟩ := putW X14 hx hZ hown (host := "") (Or.inl (hw _ (mi 84 rfl))) e14 W0 N0 (own_dB hw) (Or.inl (hw _ (mi 85 rfl))) (hw _ (mi 45 rfl)) (ty := .int) (by decide +kernel) (i := 0) (a := b) rfl (j := 14) rfl rfl (v := (.int (1 : Int32))) rfl rfl (g := K15.g) rfl rfl (hD 33 rfl)
  have K17 : Rc K0 T16 (mkF m 173 #[sR b, sI 0, sD 4607182418800017408, sV, sI 0, sI 0, sI 0] [(kR b)]) := fun t k => K15 t (st16 t (by
    refine XS.istore X16.here hx rfl (hD 34 rfl) rfl (l' := #[sR b, sI 0, sD 4607182418800017408, sV, sI 0, sI 0, sI 0]) rfl ?_
    refine XS.aloadN X16.here hx rfl (hD 35 rfl) rfl rfl ?_
    exact k))
  obtain ⟨T18, X18, e18, st18⟩ := getF X16 hx hZ hown (host := "") (Or.inl (hw _ (mi 61 rfl))) Via.refl e16 (W16q.fld (i := 0) rfl (j := 9) rfl rfl) (g := K17.g) rfl rfl (hD 36 rfl)
  have K19 : Rc K0 T18 (mkF m 179 #[sR b, sI 0, sD 4607182418800017408, sV, sI 0, sI 0, sI 0] [(kI 0), (kI 0), (kR su)]) := fun t k => K17 t (st18 t (by
    refine XS.iload X18.here hx rfl (hD 37 rfl) rfl ?_
    refine XS.iloadN X18.here hx rfl (hD 38 rfl) rfl ?_
    exact k))
  obtain ⟨T20, h20, L20, X20, e20, N20, W20q, st20⟩ := iasW X18 hx hZ e18 W16q N16 (i := 2) (a := su) rfl (j := (0 : Int32)) (x := (0 : Int32)) (k := 0) (by decide) (by decide) (by decide) (g := K19.g) rfl rfl (hD 39 rfl)
  have K21 : Rc K0 T20 (mkF m 181 #[sR b, sI 0, sD 4607182418800017408, sV, sI 0, sI 0, sI 0] [(kR b)]) := fun t k => K19 t (st20 t (XS.aloadN X20.here hx rfl (hD 40 rfl) rfl rfl k))
  obtain ⟨T22, X22, e22, st22⟩ := getF X20 hx hZ hown (host := "") (Or.inl (hw _ (mi 63 rfl))) Via.refl e20 (W20q.fld (i := 0) rfl (j := 10) rfl rfl) (g := K21.g) rfl rfl (hD 41 rfl)
  have K23 : Rc K0 T22 (mkF m 187 #[sR b, sI 0, sD 4607182418800017408, sV, sI 0, sI 0, sI 0] [(kD 4607182418800017408), (kI 0), (kR pr)]) := fun t k => K21 t (st22 t (by
    refine XS.iload X22.here hx rfl (hD 42 rfl) rfl ?_
    refine XS.dloadN X22.here hx rfl (hD 43 rfl) rfl ?_
    exact k))
  obtain ⟨T24, h24, L24, X24, e24, N24, W24q, st24⟩ := dasW X22 hx hZ e22 W20q N20 (i := 3) (a := pr) rfl (j := (0 : Int32)) (x := (4607182418800017408 : UInt64)) (k := 0) (by decide) (by decide) (by decide) (g := K23.g) rfl rfl (hD 44 rfl)
  have K25 : Rc K0 T24 (mkF m 189 #[sR b, sI 0, sD 4607182418800017408, sV, sI 0, sI 0, sI 0] [(kR b)]) := fun t k => K23 t (st24 t (XS.aloadN X24.here hx rfl (hD 45 rfl) rfl rfl k))
  obtain ⟨T26, X26, e26, st26⟩ := getF X24 hx hZ hown (host := "") (Or.inl (hw _ (mi 86 rfl))) Via.refl e24 (W24q.fld (i := 0) rfl (j := 15) rfl rfl) (g := K25.g) rfl rfl (hD 46 rfl)
  have K27 : Rc K0 T26 (mkF m 218 #[sR b, sI 0, sD 4607182418800017408, sV, sI 0, sI 0, sI 0] [(kR b)]) := fun t k => K25 t (st26 t (by
    refine XS.ifnullYes X26.here hx rfl (pc0 := 192) (pc' := 217) rfl (hD 47 rfl) rfl (by decide) (by decide) ?_
    refine XS.aloadN X26.here hx rfl (hD 48 rfl) rfl rfl ?_
    exact k))
  obtain ⟨T28, X28, e28, st28⟩ := getF X26 hx hZ hown (host := "") (Or.inl (hw _ (mi 84 rfl))) Via.refl e26 (W24q.fld (i := 0) rfl (j := 14) rfl rfl) (g := K27.g) rfl rfl (hD 49 rfl)
  have K29 : Rc K0 T28 (mkF m 286 #[sR b, sI 0, sD 4607182418800017408, sV, sI 0, sI 0, sI 0] [(kI 0)]) := fun t k => K27 t (st28 t (by
    refine XS.iload X28.here hx rfl (hD 50 rfl) rfl ?_
    refine XS.isub X28.here hx rfl (hD 51 rfl) rfl ?_
    refine XS.bipush X28.here hx rfl (hD 52 rfl) ?_
    refine XS.icmpYes X28.here hx rfl (pc0 := 226) (pc' := 284) rfl (hD 53 rfl) rfl (by decide) (by decide) (by decide) ?_
    refine XS.iload X28.here hx rfl (hD 54 rfl) rfl ?_
    exact k))
  obtain ⟨fs, hr, hrun, hended, hWm, hsame⟩ := X28.leave (v := some (.int (0 : Int32))) (fun h => by rw [Bd.returns] at h; cases h)
  refine ⟨_, _, pre0 _ (K29 _ (retI X28 hx Bd.returns (hD 55 rfl) hr)), hrun, hended, _, _, rfl, ?_, ⟨_, rfl⟩, hWm, hsame.mono (by decide) (by decide)⟩
  show QrmAMn Z b fa ac fc cm ft su pr vc f3 f6 f7 Rr n0 _ T28.heap _
  rw [e28]
  exact ⟨rfl, N24, W24q⟩
theorem ef_rmAMv (m : MethodId) (b fa ac fc cm ft su pr : Addr) (vv : Addr) (vc : Int32) (f3 f6 f7 : Nat → Value) : entryFrame m #[(.ref b), (.int (0 : Int32)), (.double (4607182418800017408 : UInt64))] 7 = mkF m 0 #[.val (.ref b), .val (.int (0 : Int32)), .val (.double (4607182418800017408 : UInt64)), .second, .unset, .unset, .unset] [] := by first | (simp [entryFrame, mkF, argsToLocals, Value.category]; done) | rfl
def QrmAMv (Z : State) (b fa ac fc cm ft su pr : Addr) (vv : Addr) (vc : Int32) (f3 f6 f7 : Nat → Value) (Rr : List (Addr × (Cell → Prop))) (n0 : Nat) (v : Option Value) (h : Heap) (L : List Loc) : Prop := v = some (.int (0 : Int32)) ∧ Fr n0 L ∧ Wo n0 h ((b, oB Z [.null, (kI 0), (kR vv), (kI vc), (kR fa), (kR ac), (kR fc), (kR cm), (kR ft), (kR su), (kR pr), (kI 1), (kI 0), (kI 0), (kI 1), .null]) :: (ft, Ar Z .int 2 f3) :: (su, Ar Z .int 4 (upd f6 0 (kI 0))) :: (pr, Ar Z .double 4 (upd f7 0 (kD 4607182418800017408))) :: Rr)
set_option maxRecDepth 65536 in
set_option maxHeartbeats 40000000 in
theorem rmAMv (l : Launch) (Z : State) (a0 : Array Value) (hw : ∀ d ∈ tables_1, d.before a0 Z = true) (ws : List Jvm.Cond) (b fa ac fc cm ft su pr : Addr) (vv : Addr) (vc : Int32) (f3 f6 f7 : Nat → Value) (Rr : List (Addr × (Cell → Prop))) (h0 : Heap) (n0 : Nat) (W0 : Wo n0 h0 ((b, oB Z [.null, (kI 0), (kR vv), (kI vc), (kR fa), (kR ac), (kR fc), (kR cm), (kR ft), (kR su), (kR pr), (kI 1), (kI 0), (kI 0), (kI 0), .null]) :: (ft, Ar Z .int 2 f3) :: (su, Ar Z .int 4 f6) :: (pr, Ar Z .double 4 f7) :: Rr)) (h3 : f3 0 = .int 0) :
    MetFree l y_am (head1 (Jvm.Cond.code y_am prog_88_method_6_code 7 (some .int) :: ws) ({ frames := 0, cells := 0, slots := 0, locals := 0 } : Room)) (fun aa U => aa = #[(.ref b), (.int (0 : Int32)), (.double (4607182418800017408 : UInt64))] ∧ Z.Warmed39 U.vm ∧ U.heap = h0) (fun _ _ _ _ _ => True) (fun _ U ou U' => ∃ v L, ou = .returned v ∧ QrmAMv Z b fa ac fc cm ft su pr vv vc f3 f6 f7 Rr n0 v U'.heap L ∧ FrameEnd U ou U' L ({ frames := 0, cells := 0, slots := 0, locals := 0 } : Room).cells ({ frames := 0, cells := 0, slots := 0, locals := 0 } : Room).slots) := by
  refine MetFree.of_bodySF (plainFor_of_name pn_Rows_Builder) hisR ?_
  intro p e s m args below meth c s₁ Bd hml0 hP hK
  obtain ⟨rfl, hZ, hh⟩ := hP
  have hx := Bd.exec
  have hby := Bd.bytes
  have hml : c.maxLocals = 7 := hml0
  have hD : ∀ (k : Nat) {pc : Nat} {i : Instr} {n : Nat}, Ld_am[k]? = some (pc, i, n) → decode c.code pc = .ok (i, n) := by intro k pc i n h; exact hb hby (d_am (pc, i, n) (mi k h))
  have hown : s.vm.findClass "com/example/sambre/sambre/engine/Rows$Builder" = some m.cls := findClass_of_methodNamed Bd.named
  have hnm := (name_of_methodNamed Bd.named Bd.method).1
  have X0 : Stand p l e ({ frames := 0, cells := 0, slots := 0, locals := 0 } : Room) s m #[(.ref b), (.int (0 : Int32)), (.double (4607182418800017408 : UInt64))] below meth c s₁ [] 0 0 := Stand.of_body Bd
  have e0 : s₁.heap = h0 := by rw [← hh, Bd.state]; rfl
  have N0 := Fr.nil n0
  obtain ⟨F0, hF0⟩ : ∃ F, F = mkF m 0 #[.val (.ref b), .val (.int (0 : Int32)), .val (.double (4607182418800017408 : UInt64)), .second, .unset, .unset, .unset] [] := ⟨_, rfl⟩
  have pre0 : ∀ t, Steps p.tables e below (s₁.setTop F0) t → Steps p.tables e below (s₁.setTop (entryFrame m #[(.ref b), (.int (0 : Int32)), (.double (4607182418800017408 : UInt64))] 7)) t := fun t k => castTop ((ef_rmAMv m b fa ac fc cm ft su pr vv vc f3 f6 f7).trans hF0.symm) k
  have K0 : Rch p e below s₁ F0 s₁ (mkF m 0 #[.val (.ref b), .val (.int (0 : Int32)), .val (.double (4607182418800017408 : UInt64)), .second, .unset, .unset, .unset] []) := fun t k => castTop hF0 k
  have K1 : Rc K0 s₁ (mkF m 1 #[sR b, sI 0, sD 4607182418800017408, sV, sU, sU, sU] [(kR b)]) := fun t k => K0 t (XS.aloadN X0.here hx rfl (hD 0 rfl) rfl rfl k)
  obtain ⟨T2, X2, e2, st2⟩ := getF X0 hx hZ hown (host := "") (Or.inl (hw _ (mi 59 rfl))) Via.refl e0 (W0.fld (i := 0) rfl (j := 8) rfl rfl) (g := K1.g) rfl rfl (hD 1 rfl)
  have K3 : Rc K0 T2 (mkF m 5 #[sR b, sI 0, sD 4607182418800017408, sV, sU, sU, sU] [(kR b), (kR ft)]) := fun t k => K1 t (st2 t (XS.aloadN X2.here hx rfl (hD 2 rfl) rfl rfl k))
  obtain ⟨T4, X4, e4, st4⟩ := getF X2 hx hZ hown (host := "") (Or.inl (hw _ (mi 78 rfl))) Via.refl e2 (W0.fld (i := 0) rfl (j := 11) rfl rfl) (g := K3.g) rfl rfl (hD 3 rfl)
  have K5 : Rc K0 T4 (mkF m 17 #[sR b, sI 0, sD 4607182418800017408, sV, sI 0, sI (-1), sU] [(kR b)]) := fun t k => K3 t (st4 t (by
    refine XS.iconst X4.here hx rfl (hD 4 rfl) ?_
    refine XS.isub X4.here hx rfl (hD 5 rfl) rfl ?_
    refine ialW X4 hx hZ e4 W0 (i := 1) rfl (j := (0 : Int32)) (k := 0) (by decide) (by decide) (by decide) (v := (.int (0 : Int32))) h3 (g := (mkF m 10 #[sR b, sI 0, sD 4607182418800017408, sV, sU, sU, sU] [(kI 0), (kR ft)])) rfl rfl (hD 6 rfl) _ ?_
    refine XS.istore X4.here hx rfl (hD 7 rfl) rfl (l' := #[sR b, sI 0, sD 4607182418800017408, sV, sI 0, sU, sU]) rfl ?_
    refine XS.iconst X4.here hx rfl (hD 8 rfl) ?_
    refine XS.istore X4.here hx rfl (hD 9 rfl) rfl (l' := #[sR b, sI 0, sD 4607182418800017408, sV, sI 0, sI (-1), sU]) rfl ?_
    refine XS.aloadN X4.here hx rfl (hD 10 rfl) rfl rfl ?_
    exact k))
  obtain ⟨T6, X6, e6, st6⟩ := getF X4 hx hZ hown (host := "") (Or.inl (hw _ (mi 86 rfl))) Via.refl e4 (W0.fld (i := 0) rfl (j := 15) rfl rfl) (g := K5.g) rfl rfl (hD 11 rfl)
  have K7 : Rc K0 T6 (mkF m 58 #[sR b, sI 0, sD 4607182418800017408, sV, sI 0, sI (-1), sI 0] [(kR b), (kI 0)]) := fun t k => K5 t (st6 t (by
    refine XS.ifnullYes X6.here hx rfl (pc0 := 20) (pc' := 51) rfl (hD 12 rfl) rfl (by decide) (by decide) ?_
    refine XS.iload X6.here hx rfl (hD 13 rfl) rfl ?_
    refine XS.istore X6.here hx rfl (hD 14 rfl) rfl (l' := #[sR b, sI 0, sD 4607182418800017408, sV, sI 0, sI (-1), sI 0]) rfl ?_
    refine XS.iload X6.here hx rfl (hD 15 rfl) rfl ?_
    refine XS.aloadN X6.here hx rfl (hD 16 rfl) rfl rfl ?_
    exact k))
  obtain ⟨T8, X8, e8, st8⟩ := getF X6 hx hZ hown (host := "") (Or.inl (hw _ (mi 84 rfl))) Via.refl e6 (W0.fld (i := 0) rfl (j := 14) rfl rfl) (g := K7.g) rfl rfl (hD 17 rfl)
  have K9 : Rc K0 T8 (mkF m 114 #[sR b, sI 0, sD 4607182418800017408, sV, sI 0, sI (-1), sI 0] [(kR b)]) := fun t k => K7 t (st8 t (by
    refine XS.icmpYes X8.here hx rfl (pc0 := 61) (pc' := 94) rfl (hD 18 rfl) rfl (by decide) (by decide) (by decide) ?_
    refine XS.iload X8.here hx rfl (hD 19 rfl) rfl ?_
    refine XS.ifYes X8.here hx rfl (pc0 := 96) (pc' := 113) rfl (hD 20 rfl) rfl (by decide) (by decide) (by decide) ?_
    refine XS.aloadN X8.here hx rfl (hD 21 rfl) rfl rfl ?_
    exact k))
  obtain ⟨T10, X10, e10, st10⟩ := getF X8 hx hZ hown (host := "") (Or.inl (hw _ (mi 84 rfl))) Via.refl e8 (W0.fld (i := 0) rfl (j := 14) rfl rfl) (g := K9.g) rfl rfl (hD 22 rfl)
  have K11 : Rc K0 T10 (mkF m 118 #[sR b, sI 0, sD 4607182418800017408, sV, sI 0, sI (-1), sI 0] [(kR b), (kI 0)]) := fun t k => K9 t (st10 t (XS.aloadN X10.here hx rfl (hD 23 rfl) rfl rfl k))
  obtain ⟨T12, X12, e12, st12⟩ := getF X10 hx hZ hown (host := "") (Or.inl (hw _ (mi 61 rfl))) Via.refl e10 (W0.fld (i := 0) rfl (j := 9) rfl rfl) (g := K11.g) rfl rfl (hD 24 rfl)
  have K13 : Rc K0 T12 (mkF m 161 #[sR b, sI 0, sD 4607182418800017408, sV, sI 0, sI (-1), sI 0] [(kR b), (kR b)]) := fun t k => K11 t (st12 t (by
    refine lenW X12 hx hZ e12 W0 (i := 2) rfl (fun _ q => q) (z := (4 : Int32)) (by decide) (g := (mkF m 121 #[sR b, sI 0, sD 4607182418800017408, sV, sI 0, sI (-1), sI 0] [(kR su), (kI 0)])) rfl rfl (hD 25 rfl) _ ?_
    refine XS.icmpYes X12.here hx rfl (pc0 := 122) (pc' := 159) rfl (hD 26 rfl) rfl (by decide) (by decide) (by decide) ?_
    refine XS.aloadN X12.here hx rfl (hD 27 rfl) rfl rfl ?_
    refine XS.dup X12.here hx rfl (hD 28 rfl) rfl rfl ?_
    exact k))
  obtain ⟨T14, X14, e14, st14⟩ := getF X12 hx hZ hown (host := "") (Or.inl (hw _ (mi 84 rfl))) Via.refl e12 (W0.fld (i := 0) rfl (j := 14) rfl rfl) (g := K13.g) rfl rfl (hD 29 rfl)
  have K15 : Rc K0 T14 (mkF m 167 #[sR b, sI 0, sD 4607182418800017408, sV, sI 0, sI (-1), sI 0] [(kI 1), (kR b), (kI 0)]) := fun t k => K13 t (st14 t (by
    refine XS.dupX1 X14.here hx rfl (hD 30 rfl) rfl rfl rfl ?_
    refine XS.iconst X14.here hx rfl (hD 31 rfl) ?_
    refine XS.iadd X14.here hx rfl (hD 32 rfl) rfl ?_
    exact k))
  obtain ⟨T16, h16, L16, X16, e16, N16, W16q, st16⟩ := putW X14 hx hZ hown (host := "") (Or.inl (hw _ (mi 84 rfl))) e14 W0 N0 (own_dB hw) (Or.inl (hw _ (mi 85 rfl))) (hw _ (mi 45 rfl)) (ty := .int) (by decide +kernel) (i := 0) (a := b) rfl (j := 14) rfl rfl (v := (.int (1 : Int32))) rfl rfl (g := K15.g) rfl rfl (hD 33 rfl)
  have K17 : Rc K0 T16 (mkF m 173 #[sR b, sI 0, sD 4607182418800017408, sV, sI 0, sI 0, sI 0] [(kR b)]) := fun t k => K15 t (st16 t (by
    refine XS.istore X16.here hx rfl (hD 34 rfl) rfl (l' := #[sR b, sI 0, sD 4607182418800017408, sV, sI 0, sI 0, sI 0]) rfl ?_
    refine XS.aloadN X16.here hx rfl (hD 35 rfl) rfl rfl ?_
    exact k))
  obtain ⟨T18, X18, e18, st18⟩ := getF X16 hx hZ hown (host := "") (Or.inl (hw _ (mi 61 rfl))) Via.refl e16 (W16q.fld (i := 0) rfl (j := 9) rfl rfl) (g := K17.g) rfl rfl (hD 36 rfl)
  have K19 : Rc K0 T18 (mkF m 179 #[sR b, sI 0, sD 4607182418800017408, sV, sI 0, sI 0, sI 0] [(kI 0), (kI 0), (kR su)]) := fun t k => K17 t (st18 t (by
    refine XS.iload X18.here hx rfl (hD 37 rfl) rfl ?_
    refine XS.iloadN X18.here hx rfl (hD 38 rfl) rfl ?_
    exact k))
  obtain ⟨T20, h20, L20, X20, e20, N20, W20q, st20⟩ := iasW X18 hx hZ e18 W16q N16 (i := 2) (a := su) rfl (j := (0 : Int32)) (x := (0 : Int32)) (k := 0) (by decide) (by decide) (by decide) (g := K19.g) rfl rfl (hD 39 rfl)
  have K21 : Rc K0 T20 (mkF m 181 #[sR b, sI 0, sD 4607182418800017408, sV, sI 0, sI 0, sI 0] [(kR b)]) := fun t k => K19 t (st20 t (XS.aloadN X20.here hx rfl (hD 40 rfl) rfl rfl k))
  obtain ⟨T22, X22, e22, st22⟩ := getF X20 hx hZ hown (host := "") (Or.inl (hw _ (mi 63 rfl))) Via.refl e20 (W20q.fld (i := 0) rfl (j := 10) rfl rfl) (g := K21.g) rfl rfl (hD 41 rfl)
  have K23 : Rc K0 T22 (mkF m 187 #[sR b, sI 0, sD 4607182418800017408, sV, sI 0, sI 0, sI 0] [(kD 4607182418800017408), (kI 0), (kR pr)]) := fun t k => K21 t (st22 t (by
    refine XS.iload X22.here hx rfl (hD 42 rfl) rfl ?_
    refine XS.dloadN X22.here hx rfl (hD 43 rfl) rfl ?_
    exact k))
  obtain ⟨T24, h24, L24, X24, e24, N24, W24q, st24⟩ := dasW X22 hx hZ e22 W20q N20 (i := 3) (a := pr) rfl (j := (0 : Int32)) (x := (4607182418800017408 : UInt64)) (k := 0) (by decide) (by decide) (by decide) (g := K23.g) rfl rfl (hD 44 rfl)
  have K25 : Rc K0 T24 (mkF m 189 #[sR b, sI 0, sD 4607182418800017408, sV, sI 0, sI 0, sI 0] [(kR b)]) := fun t k => K23 t (st24 t (XS.aloadN X24.here hx rfl (hD 45 rfl) rfl rfl k))
  obtain ⟨T26, X26, e26, st26⟩ := getF X24 hx hZ hown (host := "") (Or.inl (hw _ (mi 86 rfl))) Via.refl e24 (W24q.fld (i := 0) rfl (j := 15) rfl rfl) (g := K25.g) rfl rfl (hD 46 rfl)
  have K27 : Rc K0 T26 (mkF m 218 #[sR b, sI 0, sD 4607182418800017408, sV, sI 0, sI 0, sI 0] [(kR b)]) := fun t k => K25 t (st26 t (by
    refine XS.ifnullYes X26.here hx rfl (pc0 := 192) (pc' := 217) rfl (hD 47 rfl) rfl (by decide) (by decide) ?_
    refine XS.aloadN X26.here hx rfl (hD 48 rfl) rfl rfl ?_
    exact k))
  obtain ⟨T28, X28, e28, st28⟩ := getF X26 hx hZ hown (host := "") (Or.inl (hw _ (mi 84 rfl))) Via.refl e26 (W24q.fld (i := 0) rfl (j := 14) rfl rfl) (g := K27.g) rfl rfl (hD 49 rfl)
  have K29 : Rc K0 T28 (mkF m 286 #[sR b, sI 0, sD 4607182418800017408, sV, sI 0, sI 0, sI 0] [(kI 0)]) := fun t k => K27 t (st28 t (by
    refine XS.iload X28.here hx rfl (hD 50 rfl) rfl ?_
    refine XS.isub X28.here hx rfl (hD 51 rfl) rfl ?_
    refine XS.bipush X28.here hx rfl (hD 52 rfl) ?_
    refine XS.icmpYes X28.here hx rfl (pc0 := 226) (pc' := 284) rfl (hD 53 rfl) rfl (by decide) (by decide) (by decide) ?_
    refine XS.iload X28.here hx rfl (hD 54 rfl) rfl ?_
    exact k))
  obtain ⟨fs, hr, hrun, hended, hWm, hsame⟩ := X28.leave (v := some (.int (0 : Int32))) (fun h => by rw [Bd.returns] at h; cases h)
  refine ⟨_, _, pre0 _ (K29 _ (retI X28 hx Bd.returns (hD 55 rfl) hr)), hrun, hended, _, _, rfl, ?_, ⟨_, rfl⟩, hWm, hsame.mono (by decide) (by decide)⟩
  show QrmAMv Z b fa ac fc cm ft su pr vv vc f3 f6 f7 Rr n0 _ T28.heap _
  rw [e28]
  exact ⟨rfl, N24, W24q⟩
abbrev y_rm : MethodName := ⟨"com/example/sambre/sambre/engine/Rows", "room", "([II)[I"⟩
theorem pd_rm : parseMethodDescriptor "([II)[I" = some ⟨[(.array .int), .int], some (.array .int)⟩ := by decide +kernel
def Ld_rm : List (Nat × Instr × Nat) := [(0, .iload_n 1, 1), (1, .aload_n 0, 1), (2, .arraylength, 1), (3, .if_icmp .gt 7, 3), (6, .aload_n 0, 1), (7, .goto 12, 3), (19, .areturn, 1)]
set_option maxRecDepth 65536 in
theorem d_rm : ∀ x ∈ Ld_rm, decode prog_87_method_7_code x.1 = .ok (x.2.1, x.2.2) := by decide +kernel
theorem ef_rmRM1 (m : MethodId) (q : Addr) (f : Nat → Value) : entryFrame m #[(.ref q), (.int (1 : Int32))] 2 = mkF m 0 #[.val (.ref q), .val (.int (1 : Int32))] [] := by first | (simp [entryFrame, mkF, argsToLocals, Value.category]; done) | rfl
def QrmRM1 (Z : State) (q : Addr) (f : Nat → Value) (Rr : List (Addr × (Cell → Prop))) (n0 : Nat) (v : Option Value) (h : Heap) (L : List Loc) : Prop := v = some (.ref q) ∧ Fr n0 L ∧ Wo n0 h ((q, Ar Z .int 4 f) :: Rr)
set_option maxRecDepth 65536 in
set_option maxHeartbeats 40000000 in
theorem rmRM1 (l : Launch) (Z : State) (a0 : Array Value) (hw : ∀ d ∈ tables_1, d.before a0 Z = true) (ws : List Jvm.Cond) (q : Addr) (f : Nat → Value) (Rr : List (Addr × (Cell → Prop))) (h0 : Heap) (n0 : Nat) (W0 : Wo n0 h0 ((q, Ar Z .int 4 f) :: Rr)) :
    MetFree l y_rm (head1 (Jvm.Cond.code y_rm prog_87_method_7_code 2 (some (.array .int)) :: ws) ({ frames := 0, cells := 0, slots := 0, locals := 0 } : Room)) (fun aa U => aa = #[(.ref q), (.int (1 : Int32))] ∧ Z.Warmed39 U.vm ∧ U.heap = h0) (fun _ _ _ _ _ => True) (fun _ U ou U' => ∃ v L, ou = .returned v ∧ QrmRM1 Z q f Rr n0 v U'.heap L ∧ FrameEnd U ou U' L ({ frames := 0, cells := 0, slots := 0, locals := 0 } : Room).cells ({ frames := 0, cells := 0, slots := 0, locals := 0 } : Room).slots) := by
  refine MetFree.of_bodySF (plainFor_of_name pn_Rows) hisR ?_
  intro p e s m args below meth c s₁ Bd hml0 hP hK
  obtain ⟨rfl, hZ, hh⟩ := hP
  have hx := Bd.exec
  have hby := Bd.bytes
  have hml : c.maxLocals = 2 := hml0
  have hD : ∀ (k : Nat) {pc : Nat} {i : Instr} {n : Nat}, Ld_rm[k]? = some (pc, i, n) → decode c.code pc = .ok (i, n) := by intro k pc i n h; exact hb hby (d_rm (pc, i, n) (mi k h))
  have hown : s.vm.findClass "com/example/sambre/sambre/engine/Rows" = some m.cls := findClass_of_methodNamed Bd.named
  have hnm := (name_of_methodNamed Bd.named Bd.method).1
  have X0 : Stand p l e ({ frames := 0, cells := 0, slots := 0, locals := 0 } : Room) s m #[(.ref q), (.int (1 : Int32))] below meth c s₁ [] 0 0 := Stand.of_body Bd
  have e0 : s₁.heap = h0 := by rw [← hh, Bd.state]; rfl
  have N0 := Fr.nil n0
  obtain ⟨F0, hF0⟩ : ∃ F, F = mkF m 0 #[.val (.ref q), .val (.int (1 : Int32))] [] := ⟨_, rfl⟩
  have pre0 : ∀ t, Steps p.tables e below (s₁.setTop F0) t → Steps p.tables e below (s₁.setTop (entryFrame m #[(.ref q), (.int (1 : Int32))] 2)) t := fun t k => castTop ((ef_rmRM1 m q f).trans hF0.symm) k
  have K0 : Rch p e below s₁ F0 s₁ (mkF m 0 #[.val (.ref q), .val (.int (1 : Int32))] []) := fun t k => castTop hF0 k
  have K1 : Rc K0 s₁ (mkF m 19 #[sR q, sI 1] [(kR q)]) := fun t k => K0 t (by
    refine XS.iloadN X0.here hx rfl (hD 0 rfl) rfl ?_
    refine XS.aloadN X0.here hx rfl (hD 1 rfl) rfl rfl ?_
    refine lenW X0 hx hZ e0 W0 (i := 0) rfl (fun _ q => q) (z := (4 : Int32)) (by decide) (g := (mkF m 2 #[sR q, sI 1] [(kR q), (kI 1)])) rfl rfl (hD 2 rfl) _ ?_
    refine XS.icmpNo X0.here hx rfl (hD 3 rfl) rfl (by decide) ?_
    refine XS.aloadN X0.here hx rfl (hD 4 rfl) rfl rfl ?_
    refine XS.goto X0.here hx rfl (pc0 := 7) (pc' := 19) rfl (hD 5 rfl) (by decide) (by decide) ?_
    exact k)
  obtain ⟨fs, hr, hrun, hended, hWm, hsame⟩ := X0.leave (v := some (.ref q)) (fun h => by rw [Bd.returns] at h; cases h)
  refine ⟨_, _, pre0 _ (K1 _ (Jvm.OwnKit.retA X0 hx Bd.returns rfl (hD 6 rfl) hr)), hrun, hended, _, _, rfl, ?_, ⟨_, rfl⟩, hWm, hsame.mono (by decide) (by decide)⟩
  show QrmRM1 Z q f Rr n0 _ s₁.heap _
  rw [e0]
  exact ⟨rfl, N0, W0⟩
theorem ef_rmRM2 (m : MethodId) (q : Addr) (f : Nat → Value) : entryFrame m #[(.ref q), (.int (2 : Int32))] 2 = mkF m 0 #[.val (.ref q), .val (.int (2 : Int32))] [] := by first | (simp [entryFrame, mkF, argsToLocals, Value.category]; done) | rfl
def QrmRM2 (Z : State) (q : Addr) (f : Nat → Value) (Rr : List (Addr × (Cell → Prop))) (n0 : Nat) (v : Option Value) (h : Heap) (L : List Loc) : Prop := v = some (.ref q) ∧ Fr n0 L ∧ Wo n0 h ((q, Ar Z .int 4 f) :: Rr)
set_option maxRecDepth 65536 in
set_option maxHeartbeats 40000000 in
theorem rmRM2 (l : Launch) (Z : State) (a0 : Array Value) (hw : ∀ d ∈ tables_1, d.before a0 Z = true) (ws : List Jvm.Cond) (q : Addr) (f : Nat → Value) (Rr : List (Addr × (Cell → Prop))) (h0 : Heap) (n0 : Nat) (W0 : Wo n0 h0 ((q, Ar Z .int 4 f) :: Rr)) :
    MetFree l y_rm (head1 (Jvm.Cond.code y_rm prog_87_method_7_code 2 (some (.array .int)) :: ws) ({ frames := 0, cells := 0, slots := 0, locals := 0 } : Room)) (fun aa U => aa = #[(.ref q), (.int (2 : Int32))] ∧ Z.Warmed39 U.vm ∧ U.heap = h0) (fun _ _ _ _ _ => True) (fun _ U ou U' => ∃ v L, ou = .returned v ∧ QrmRM2 Z q f Rr n0 v U'.heap L ∧ FrameEnd U ou U' L ({ frames := 0, cells := 0, slots := 0, locals := 0 } : Room).cells ({ frames := 0, cells := 0, slots := 0, locals := 0 } : Room).slots) := by
  refine MetFree.of_bodySF (plainFor_of_name pn_Rows) hisR ?_
  intro p e s m args below meth c s₁ Bd hml0 hP hK
  obtain ⟨rfl, hZ, hh⟩ := hP
  have hx := Bd.exec
  have hby := Bd.bytes
  have hml : c.maxLocals = 2 := hml0
  have hD : ∀ (k : Nat) {pc : Nat} {i : Instr} {n : Nat}, Ld_rm[k]? = some (pc, i, n) → decode c.code pc = .ok (i, n) := by intro k pc i n h; exact hb hby (d_rm (pc, i, n) (mi k h))
  have hown : s.vm.findClass "com/example/sambre/sambre/engine/Rows" = some m.cls := findClass_of_methodNamed Bd.named
  have hnm := (name_of_methodNamed Bd.named Bd.method).1
  have X0 : Stand p l e ({ frames := 0, cells := 0, slots := 0, locals := 0 } : Room) s m #[(.ref q), (.int (2 : Int32))] below meth c s₁ [] 0 0 := Stand.of_body Bd
  have e0 : s₁.heap = h0 := by rw [← hh, Bd.state]; rfl
  have N0 := Fr.nil n0
  obtain ⟨F0, hF0⟩ : ∃ F, F = mkF m 0 #[.val (.ref q), .val (.int (2 : Int32))] [] := ⟨_, rfl⟩
  have pre0 : ∀ t, Steps p.tables e below (s₁.setTop F0) t → Steps p.tables e below (s₁.setTop (entryFrame m #[(.ref q), (.int (2 : Int32))] 2)) t := fun t k => castTop ((ef_rmRM2 m q f).trans hF0.symm) k
  have K0 : Rch p e below s₁ F0 s₁ (mkF m 0 #[.val (.ref q), .val (.int (2 : Int32))] []) := fun t k => castTop hF0 k
  have K1 : Rc K0 s₁ (mkF m 19 #[sR q, sI 2] [(kR q)]) := fun t k => K0 t (by
    refine XS.iloadN X0.here hx rfl (hD 0 rfl) rfl ?_
    refine XS.aloadN X0.here hx rfl (hD 1 rfl) rfl rfl ?_
    refine lenW X0 hx hZ e0 W0 (i := 0) rfl (fun _ q => q) (z := (4 : Int32)) (by decide) (g := (mkF m 2 #[sR q, sI 2] [(kR q), (kI 2)])) rfl rfl (hD 2 rfl) _ ?_
    refine XS.icmpNo X0.here hx rfl (hD 3 rfl) rfl (by decide) ?_
    refine XS.aloadN X0.here hx rfl (hD 4 rfl) rfl rfl ?_
    refine XS.goto X0.here hx rfl (pc0 := 7) (pc' := 19) rfl (hD 5 rfl) (by decide) (by decide) ?_
    exact k)
  obtain ⟨fs, hr, hrun, hended, hWm, hsame⟩ := X0.leave (v := some (.ref q)) (fun h => by rw [Bd.returns] at h; cases h)
  refine ⟨_, _, pre0 _ (K1 _ (Jvm.OwnKit.retA X0 hx Bd.returns rfl (hD 6 rfl) hr)), hrun, hended, _, _, rfl, ?_, ⟨_, rfl⟩, hWm, hsame.mono (by decide) (by decide)⟩
  show QrmRM2 Z q f Rr n0 _ s₁.heap _
  rw [e0]
  exact ⟨rfl, N0, W0⟩
abbrev y_sr : MethodName := ⟨"com/example/sambre/sambre/engine/Rows", "separateRows", "()V"⟩
theorem pd_sr : parseMethodDescriptor "()V" = some ⟨[], none⟩ := by decide +kernel
def Ld_sr : List (Nat × Instr × Nat) := [(0, .aload_n 0, 1), (1, .getfield 99, 3), (4, .iconst 1, 1), (5, .iadd, 1), (6, .iconst 4, 1), (7, .invokestatic 118, 3), (10, .istore_n 1, 1), (11, .aload_n 0, 1), (12, .iload_n 1, 1), (13, .newarray .int, 2), (15, .putfield 67, 3), (18, .aload_n 0, 1), (19, .iload_n 1, 1), (20, .newarray .int, 2), (22, .putfield 124, 3), (25, .aload_n 0, 1), (26, .iload_n 1, 1), (27, .newarray .int, 2), (29, .putfield 127, 3), (32, .aload_n 0, 1), (33, .iload_n 1, 1), (34, .newarray .int, 2), (36, .putfield 130, 3), (39, .aload_n 0, 1), (40, .iload_n 1, 1), (41, .newarray .int, 2), (43, .putfield 133, 3), (46, .aload_n 0, 1), (47, .iload_n 1, 1), (48, .newarray .int, 2), (50, .putfield 136, 3), (53, .iconst 0, 1), (54, .istore_n 2, 1), (55, .iload_n 2, 1), (56, .aload_n 0, 1), (57, .getfield 99, 3), (60, .if_icmp .ge 30, 3), (63, .aload_n 0, 1), (64, .getfield 67, 3), (67, .iload_n 2, 1), (68, .iload_n 2, 1), (69, .iastore, 1), (70, .aload_n 0, 1), (71, .getfield 124, 3), (74, .iload_n 2, 1), (75, .iload_n 2, 1), (76, .iastore, 1), (77, .aload_n 0, 1), (78, .getfield 127, 3), (81, .iload_n 2, 1), (82, .iconst (-1), 1), (83, .iastore, 1), (84, .iinc 2 1, 3), (87, .goto (-32), 3), (90, .aload_n 0, 1), (91, .iconst 4, 1), (92, .anewarray 138, 3), (95, .putfield 139, 3), (98, .aload_n 0, 1), (99, .getfield 139, 3), (102, .iconst 0, 1), (103, .aload_n 0, 1), (104, .getfield 49, 3), (107, .aastore, 1), (108, .aload_n 0, 1), (109, .getfield 139, 3), (112, .iconst 1, 1), (113, .bipush 64, 2), (115, .newarray .double, 2), (117, .aastore, 1), (118, .aload_n 0, 1), (119, .iconst 2, 1), (120, .putfield 143, 3), (123, .return_, 1)]
set_option maxRecDepth 65536 in
theorem d_sr : ∀ x ∈ Ld_sr, decode prog_87_method_4_code x.1 = .ok (x.2.1, x.2.2) := by decide +kernel
theorem ef_rmSR0 (m : MethodId) (r ks rgs ns fch fk kl frg fac fcm ftr acs cms sus prb : Addr) (shc : Int32) (g_prb : Nat → Value) : entryFrame m #[(.ref r)] 3 = mkF m 0 #[.val (.ref r), .unset, .unset] [] := by first | (simp [entryFrame, mkF, argsToLocals, Value.category]; done) | rfl
def QrmSR0 (Z : State) (r ks rgs ns fch fk kl frg fac fcm ftr acs cms sus prb : Addr) (shc : Int32) (g_prb : Nat → Value) (Rr : List (Addr × (Cell → Prop))) (n0 : Nat) (v : Option Value) (h : Heap) (L : List Loc) : Prop := ∃ a36 a26 a21 a18 a15 a12 a9 a6, v = none ∧ Fr n0 L ∧ Wo n0 h ((a36, Ar Z .double 64 zD) :: (a26, Pg Z .double 4 (upd (upd zN 0 (kR prb)) 1 (kR a36))) :: (a21, Ar Z .int 4 zI) :: (a18, Ar Z .int 4 zI) :: (a15, Ar Z .int 4 zI) :: (a12, Ar Z .int 4 zI) :: (a9, Ar Z .int 4 zI) :: (a6, Ar Z .int 4 zI) :: (r, oR Z [(kR ks), (kR rgs), (kR ns), (kR fch), (kR fk), (kR kl), (kR frg), (kR fac), (kR fcm), (kR ftr), (kR acs), (kR cms), (kR sus), (kR prb), (kI shc), (kR a6), (kI 0), (kR a9), (kR a12), (kR a15), (kR a18), (kR a21), (kR a26), (kI 2), (kI 0)]) :: (prb, Ar Z .double 64 g_prb) :: Rr)
set_option maxRecDepth 65536 in
set_option maxHeartbeats 40000000 in
theorem rmSR0 (l : Launch) (Z : State) (a0 : Array Value) (hw : ∀ d ∈ tables_1, d.before a0 Z = true) (ws : List Jvm.Cond) (r ks rgs ns fch fk kl frg fac fcm ftr acs cms sus prb : Addr) (shc : Int32) (g_prb : Nat → Value) (Rr : List (Addr × (Cell → Prop))) (h0 : Heap) (n0 : Nat) (W0 : Wo n0 h0 ((r, oR Z [(kR ks), (kR rgs), (kR ns), (kR fch), (kR fk), (kR kl), (kR frg), (kR fac), (kR fcm), (kR ftr), (kR acs), (kR cms), (kR sus), (kR prb), (kI shc), .null, (kI 0), .null, .null, .null, .null, .null, .null, (kI 0), (kI 0)]) :: (prb, Ar Z .double 64 g_prb) :: Rr)) :
    MetFree l y_sr (head1 (Jvm.Cond.code y_sr prog_87_method_4_code 3 none :: ws) ({ frames := 4, cells := 8, slots := 92, locals := 60 } : Room)) (fun aa U => aa = #[(.ref r)] ∧ Z.Warmed39 U.vm ∧ U.heap = h0) (fun _ _ _ _ _ => True) (fun _ U ou U' => ∃ v L, ou = .returned v ∧ QrmSR0 Z r ks rgs ns fch fk kl frg fac fcm ftr acs cms sus prb shc g_prb Rr n0 v U'.heap L ∧ FrameEnd U ou U' L ({ frames := 4, cells := 8, slots := 92, locals := 60 } : Room).cells ({ frames := 4, cells := 8, slots := 92, locals := 60 } : Room).slots) := by
  refine MetFree.of_bodySF (plainFor_of_name pn_Rows) hisR ?_
  intro p e s m args below meth c s₁ Bd hml0 hP hK
  obtain ⟨rfl, hZ, hh⟩ := hP
  have hx := Bd.exec
  have hby := Bd.bytes
  have hml : c.maxLocals = 3 := hml0
  have hD : ∀ (k : Nat) {pc : Nat} {i : Instr} {n : Nat}, Ld_sr[k]? = some (pc, i, n) → decode c.code pc = .ok (i, n) := by intro k pc i n h; exact hb hby (d_sr (pc, i, n) (mi k h))
  have hown : s.vm.findClass "com/example/sambre/sambre/engine/Rows" = some m.cls := findClass_of_methodNamed Bd.named
  have hnm := (name_of_methodNamed Bd.named Bd.method).1
  have X0 : Stand p l e ({ frames := 4, cells := 8, slots := 92, locals := 60 } : Room) s m #[(.ref r)] below meth c s₁ [] 0 0 := Stand.of_body Bd
  have e0 : s₁.heap = h0 := by rw [← hh, Bd.state]; rfl
  have N0 := Fr.nil n0
  obtain ⟨F0, hF0⟩ : ∃ F, F = mkF m 0 #[.val (.ref r), .unset, .unset] [] := ⟨_, rfl⟩
  have pre0 : ∀ t, Steps p.tables e below (s₁.setTop F0) t → Steps p.tables e below (s₁.setTop (entryFrame m #[(.ref r)] 3)) t := fun t k => castTop ((ef_rmSR0 m r ks rgs ns fch fk kl frg fac fcm ftr acs cms sus prb shc g_prb).trans hF0.symm) k
  have K0 : Rch p e below s₁ F0 s₁ (mkF m 0 #[.val (.ref r), .unset, .unset] []) := fun t k => castTop hF0 k
  have K1 : Rc K0 s₁ (mkF m 1 #[sR r, sU, sU] [(kR r)]) := fun t k => K0 t (XS.aloadN X0.here hx rfl (hD 0 rfl) rfl rfl k)
  obtain ⟨T2, X2, e2, st2⟩ := getF X0 hx hZ hown (host := "") (Or.inl (hw _ (mi 127 rfl))) Via.refl e0 (W0.fld (i := 0) rfl (j := 16) rfl rfl) (g := K1.g) rfl rfl (hD 1 rfl)
  have K3 : Rc K0 T2 (mkF m 7 #[sR r, sU, sU] [(kI 4), (kI 1)]) := fun t k => K1 t (st2 t (by
    refine XS.iconst X2.here hx rfl (hD 2 rfl) ?_
    refine XS.iadd X2.here hx rfl (hD 3 rfl) rfl ?_
    refine XS.iconst X2.here hx rfl (hD 4 rfl) ?_
    exact k))
  obtain ⟨_, _, ⟨T4, L4, k4, n4⟩, -, X4, ⟨Lc4, hQ4, l4, y4, z4⟩, st4⟩ := Jvm.LawKit.callS X2 hx (y := y_atl) hown (mvT hZ (hw _ (mi 129 rfl))) (mvT hZ (hw _ (mi 130 rfl))) (mvT hZ (hw _ (mi 131 rfl))) (mvT hZ (hw _ (mi 132 rfl))) (by decide) (backOf (W := 0) (rmAL1 l Z a0 hw []  ((r, oR Z [(kR ks), (kR rgs), (kR ns), (kR fch), (kR fk), (kR kl), (kR frg), (kR fac), (kR fcm), (kR ftr), (kR acs), (kR cms), (kR sus), (kR prb), (kI shc), .null, (kI 0), .null, .null, .null, .null, .null, .null, (kI 0), (kI 0)]) :: (prb, Ar Z .double 64 g_prb) :: Rr) h0 n0 W0) hZ (hw _ (mi 132 rfl)) (hw _ (mi 131 rfl)) (by decide) (by decide)) (g := K3.g) rfl (by rw [hml]; rfl) (argsL := [(.int (1 : Int32)), (.int (4 : Int32))]) (rest := []) (lenOf pd_atl rfl) rfl (by show 2 * 0 + _ ≤ _; exact Nat.le_of_eq rfl) (hD 5 rfl) (fun _ _ => ⟨rfl, e2, (by decide : 0 + 0 ≤ _), (by decide : 0 + 0 ≤ _)⟩)
  dsimp only [Pt.U, Pt.locs, Pt.cells, Pt.slots] at X4 l4 y4 z4 st4 hQ4
  subst l4 y4 z4
  obtain ⟨rfl, N4q, W4⟩ := hQ4
  have N4 := Fr.app N0 N4q
  have K5 : Rc K0 T4 (mkF m 13 #[sR r, sI 4, sU] [(kI 4), (kR r)]) := fun t k => K3 t (st4 t (by
    refine XS.istoreN X4.here hx rfl (hD 6 rfl) rfl (l' := #[sR r, sI 4, sU]) rfl ?_
    refine XS.aloadN X4.here hx rfl (hD 7 rfl) rfl rfl ?_
    refine XS.iloadN X4.here hx rfl (hD 8 rfl) rfl ?_
    exact k))
  obtain ⟨T6, h6, a6, X6, e6, W6q, st6⟩ := newWA X4 hx hZ (aty := .int) (ty := .int) rfl (hw _ (mi 6 rfl)) (rfl : T4.heap = T4.heap) W4 (g := K5.g) rfl (hD 9 rfl) (z := (4 : Int32)) (n := 4) rfl (by decide) (by decide) (cap := 4) (by decide) (by decide) (by decide : 0 + 1 ≤ _) (by decide : 0 + 4 ≤ _)
  obtain ⟨T7, h7, L7, X7, e7, N7, W7q, st7⟩ := putW X6 hx hZ hown (host := "") (Or.inl (hw _ (mi 107 rfl))) e6 W6q N4 (own_dR hw) (Or.inl (hw _ (mi 108 rfl))) (hw _ (mi 8 rfl)) (ty := (.array .int)) (by decide +kernel) (i := 1) (a := r) rfl (j := 15) rfl rfl (v := (.ref a6)) rfl rfl (g := (mkF m 15 #[sR r, sI 4, sU] [(kR a6), (kR r)])) rfl rfl (hD 10 rfl)
  have K8 : Rc K0 T7 (mkF m 20 #[sR r, sI 4, sU] [(kI 4), (kR r)]) := fun t k => K5 t (st6 t (st7 t (by
    refine XS.aloadN X7.here hx rfl (hD 11 rfl) rfl rfl ?_
    refine XS.iloadN X7.here hx rfl (hD 12 rfl) rfl ?_
    exact k)))
  obtain ⟨T9, h9, a9, X9, e9, W9q, st9⟩ := newWA X7 hx hZ (aty := .int) (ty := .int) rfl (hw _ (mi 6 rfl)) e7 W7q (g := K8.g) rfl (hD 13 rfl) (z := (4 : Int32)) (n := 4) rfl (by decide) (by decide) (cap := 4) (by decide) (by decide) (by decide : 1 + 1 ≤ _) (by decide : 4 + 4 ≤ _)
  obtain ⟨T10, h10, L10, X10, e10, N10, W10q, st10⟩ := putW X9 hx hZ hown (host := "") (Or.inl (hw _ (mi 155 rfl))) e9 W9q N7 (own_dR hw) (Or.inl (hw _ (mi 156 rfl))) (hw _ (mi 8 rfl)) (ty := (.array .int)) (by decide +kernel) (i := 2) (a := r) rfl (j := 17) rfl rfl (v := (.ref a9)) rfl rfl (g := (mkF m 22 #[sR r, sI 4, sU] [(kR a9), (kR r)])) rfl rfl (hD 14 rfl)
  have W10 : Wo n0 h10 ((a9, Ar Z .int 4 zI) :: (a6, Ar Z .int 4 zI) :: (r, oR Z [(kR ks), (kR rgs), (kR ns), (kR fch), (kR fk), (kR kl), (kR frg), (kR fac), (kR fcm), (kR ftr), (kR acs), (kR cms), (kR sus), (kR prb), (kI shc), (kR a6), (kI 0), (kR a9), .null, .null, .null, .null, .null, (kI 0), (kI 0)]) :: (prb, Ar Z .double 64 g_prb) :: Rr) := W10q
  have K11 : Rc K0 T10 (mkF m 27 #[sR r, sI 4, sU] [(kI 4), (kR r)]) := fun t k => K8 t (st9 t (st10 t (by
    refine XS.aloadN X10.here hx rfl (hD 15 rfl) rfl rfl ?_
    refine XS.iloadN X10.here hx rfl (hD 16 rfl) rfl ?_
    exact k)))
  obtain ⟨T12, h12, a12, X12, e12, W12q, st12⟩ := newWA X10 hx hZ (aty := .int) (ty := .int) rfl (hw _ (mi 6 rfl)) e10 W10 (g := K11.g) rfl (hD 17 rfl) (z := (4 : Int32)) (n := 4) rfl (by decide) (by decide) (cap := 4) (by decide) (by decide) (by decide : 2 + 1 ≤ _) (by decide : 8 + 4 ≤ _)
  obtain ⟨T13, h13, L13, X13, e13, N13, W13q, st13⟩ := putW X12 hx hZ hown (host := "") (Or.inl (hw _ (mi 157 rfl))) e12 W12q N10 (own_dR hw) (Or.inl (hw _ (mi 158 rfl))) (hw _ (mi 8 rfl)) (ty := (.array .int)) (by decide +kernel) (i := 3) (a := r) rfl (j := 18) rfl rfl (v := (.ref a12)) rfl rfl (g := (mkF m 29 #[sR r, sI 4, sU] [(kR a12), (kR r)])) rfl rfl (hD 18 rfl)
  have K14 : Rc K0 T13 (mkF m 34 #[sR r, sI 4, sU] [(kI 4), (kR r)]) := fun t k => K11 t (st12 t (st13 t (by
    refine XS.aloadN X13.here hx rfl (hD 19 rfl) rfl rfl ?_
    refine XS.iloadN X13.here hx rfl (hD 20 rfl) rfl ?_
    exact k)))
  obtain ⟨T15, h15, a15, X15, e15, W15q, st15⟩ := newWA X13 hx hZ (aty := .int) (ty := .int) rfl (hw _ (mi 6 rfl)) e13 W13q (g := K14.g) rfl (hD 21 rfl) (z := (4 : Int32)) (n := 4) rfl (by decide) (by decide) (cap := 4) (by decide) (by decide) (by decide : 3 + 1 ≤ _) (by decide : 12 + 4 ≤ _)
  obtain ⟨T16, h16, L16, X16, e16, N16, W16q, st16⟩ := putW X15 hx hZ hown (host := "") (Or.inl (hw _ (mi 159 rfl))) e15 W15q N13 (own_dR hw) (Or.inl (hw _ (mi 160 rfl))) (hw _ (mi 8 rfl)) (ty := (.array .int)) (by decide +kernel) (i := 4) (a := r) rfl (j := 19) rfl rfl (v := (.ref a15)) rfl rfl (g := (mkF m 36 #[sR r, sI 4, sU] [(kR a15), (kR r)])) rfl rfl (hD 22 rfl)
  have W16 : Wo n0 h16 ((a15, Ar Z .int 4 zI) :: (a12, Ar Z .int 4 zI) :: (a9, Ar Z .int 4 zI) :: (a6, Ar Z .int 4 zI) :: (r, oR Z [(kR ks), (kR rgs), (kR ns), (kR fch), (kR fk), (kR kl), (kR frg), (kR fac), (kR fcm), (kR ftr), (kR acs), (kR cms), (kR sus), (kR prb), (kI shc), (kR a6), (kI 0), (kR a9), (kR a12), (kR a15), .null, .null, .null, (kI 0), (kI 0)]) :: (prb, Ar Z .double 64 g_prb) :: Rr) := W16q
  have K17 : Rc K0 T16 (mkF m 41 #[sR r, sI 4, sU] [(kI 4), (kR r)]) := fun t k => K14 t (st15 t (st16 t (by
    refine XS.aloadN X16.here hx rfl (hD 23 rfl) rfl rfl ?_
    refine XS.iloadN X16.here hx rfl (hD 24 rfl) rfl ?_
    exact k)))
  obtain ⟨T18, h18, a18, X18, e18, W18q, st18⟩ := newWA X16 hx hZ (aty := .int) (ty := .int) rfl (hw _ (mi 6 rfl)) e16 W16 (g := K17.g) rfl (hD 25 rfl) (z := (4 : Int32)) (n := 4) rfl (by decide) (by decide) (cap := 4) (by decide) (by decide) (by decide : 4 + 1 ≤ _) (by decide : 16 + 4 ≤ _)
  obtain ⟨T19, h19, L19, X19, e19, N19, W19q, st19⟩ := putW X18 hx hZ hown (host := "") (Or.inl (hw _ (mi 161 rfl))) e18 W18q N16 (own_dR hw) (Or.inl (hw _ (mi 162 rfl))) (hw _ (mi 8 rfl)) (ty := (.array .int)) (by decide +kernel) (i := 5) (a := r) rfl (j := 20) rfl rfl (v := (.ref a18)) rfl rfl (g := (mkF m 43 #[sR r, sI 4, sU] [(kR a18), (kR r)])) rfl rfl (hD 26 rfl)
  have K20 : Rc K0 T19 (mkF m 48 #[sR r, sI 4, sU] [(kI 4), (kR r)]) := fun t k => K17 t (st18 t (st19 t (by
    refine XS.aloadN X19.here hx rfl (hD 27 rfl) rfl rfl ?_
    refine XS.iloadN X19.here hx rfl (hD 28 rfl) rfl ?_
    exact k)))
  obtain ⟨T21, h21, a21, X21, e21, W21q, st21⟩ := newWA X19 hx hZ (aty := .int) (ty := .int) rfl (hw _ (mi 6 rfl)) e19 W19q (g := K20.g) rfl (hD 29 rfl) (z := (4 : Int32)) (n := 4) rfl (by decide) (by decide) (cap := 4) (by decide) (by decide) (by decide : 5 + 1 ≤ _) (by decide : 20 + 4 ≤ _)
  obtain ⟨T22, h22, L22, X22, e22, N22, W22q, st22⟩ := putW X21 hx hZ hown (host := "") (Or.inl (hw _ (mi 163 rfl))) e21 W21q N19 (own_dR hw) (Or.inl (hw _ (mi 164 rfl))) (hw _ (mi 8 rfl)) (ty := (.array .int)) (by decide +kernel) (i := 6) (a := r) rfl (j := 21) rfl rfl (v := (.ref a21)) rfl rfl (g := (mkF m 50 #[sR r, sI 4, sU] [(kR a21), (kR r)])) rfl rfl (hD 30 rfl)
  have W22 : Wo n0 h22 ((a21, Ar Z .int 4 zI) :: (a18, Ar Z .int 4 zI) :: (a15, Ar Z .int 4 zI) :: (a12, Ar Z .int 4 zI) :: (a9, Ar Z .int 4 zI) :: (a6, Ar Z .int 4 zI) :: (r, oR Z [(kR ks), (kR rgs), (kR ns), (kR fch), (kR fk), (kR kl), (kR frg), (kR fac), (kR fcm), (kR ftr), (kR acs), (kR cms), (kR sus), (kR prb), (kI shc), (kR a6), (kI 0), (kR a9), (kR a12), (kR a15), (kR a18), (kR a21), .null, (kI 0), (kI 0)]) :: (prb, Ar Z .double 64 g_prb) :: Rr) := W22q
  have K23 : Rc K0 T22 (mkF m 57 #[sR r, sI 4, sI 0] [(kR r), (kI 0)]) := fun t k => K20 t (st21 t (st22 t (by
    refine XS.iconst X22.here hx rfl (hD 31 rfl) ?_
    refine XS.istoreN X22.here hx rfl (hD 32 rfl) rfl (l' := #[sR r, sI 4, sI 0]) rfl ?_
    refine XS.iloadN X22.here hx rfl (hD 33 rfl) rfl ?_
    refine XS.aloadN X22.here hx rfl (hD 34 rfl) rfl rfl ?_
    exact k)))
  obtain ⟨T24, X24, e24, st24⟩ := getF X22 hx hZ hown (host := "") (Or.inl (hw _ (mi 127 rfl))) Via.refl e22 (W22.fld (i := 6) rfl (j := 16) rfl rfl) (g := K23.g) rfl rfl (hD 35 rfl)
  have K25 : Rc K0 T24 (mkF m 92 #[sR r, sI 4, sI 0] [(kI 4), (kR r)]) := fun t k => K23 t (st24 t (by
    refine XS.icmpYes X24.here hx rfl (pc0 := 60) (pc' := 90) rfl (hD 36 rfl) rfl (by decide) (by decide) (by decide) ?_
    refine XS.aloadN X24.here hx rfl (hD 54 rfl) rfl rfl ?_
    refine XS.iconst X24.here hx rfl (hD 55 rfl) ?_
    exact k))
  obtain ⟨T26, h26, a26, X26, e26, W26q, st26⟩ := newWR X24 hx hZ (t := .double) hown rfl (hw _ (mi 165 rfl)) (hw _ (mi 166 rfl)) e24 W22 (g := K25.g) rfl (hD 56 rfl) (z := (4 : Int32)) (n := 4) rfl (by decide) (by decide) (cap := 4) (by decide) (by decide) (by decide : 6 + 1 ≤ _) (by decide : 24 + 4 ≤ _)
  obtain ⟨T27, h27, L27, X27, e27, N27, W27q, st27⟩ := putW X26 hx hZ hown (host := "") (Or.inl (hw _ (mi 167 rfl))) e26 W26q N22 (own_dR hw) (Or.inl (hw _ (mi 168 rfl))) (hw _ (mi 8 rfl)) (ty := (.array (.array .double))) (by decide +kernel) (i := 7) (a := r) rfl (j := 22) rfl rfl (v := (.ref a26)) rfl rfl (g := (mkF m 95 #[sR r, sI 4, sI 0] [(kR a26), (kR r)])) rfl rfl (hD 57 rfl)
  have K28 : Rc K0 T27 (mkF m 99 #[sR r, sI 4, sI 0] [(kR r)]) := fun t k => K25 t (st26 t (st27 t (XS.aloadN X27.here hx rfl (hD 58 rfl) rfl rfl k)))
  obtain ⟨T29, X29, e29, st29⟩ := getF X27 hx hZ hown (host := "") (Or.inl (hw _ (mi 167 rfl))) Via.refl e27 (W27q.fld (i := 7) rfl (j := 22) rfl rfl) (g := K28.g) rfl rfl (hD 59 rfl)
  have K30 : Rc K0 T29 (mkF m 104 #[sR r, sI 4, sI 0] [(kR r), (kI 0), (kR a26)]) := fun t k => K28 t (st29 t (by
    refine XS.iconst X29.here hx rfl (hD 60 rfl) ?_
    refine XS.aloadN X29.here hx rfl (hD 61 rfl) rfl rfl ?_
    exact k))
  obtain ⟨T31, X31, e31, st31⟩ := getF X29 hx hZ hown (host := "") (Or.inl (hw _ (mi 42 rfl))) Via.refl e29 (W27q.fld (i := 7) rfl (j := 13) rfl rfl) (g := K30.g) rfl rfl (hD 62 rfl)
  obtain ⟨T32, h32, L32, X32, e32, N32, W32q, st32⟩ := aasW X31 hx hZ e31 W27q N27 (i := 0) (a := a26) rfl (j := (0 : Int32)) (k := 0) (by decide) (by decide) (by decide) (v := (.ref prb)) rfl (W27q.sto (i := 0) (j := 8) rfl rfl) (g := (mkF m 107 #[sR r, sI 4, sI 0] [(kR prb), (kI 0), (kR a26)])) rfl rfl (hD 63 rfl)
  have K33 : Rc K0 T32 (mkF m 109 #[sR r, sI 4, sI 0] [(kR r)]) := fun t k => K30 t (st31 t (st32 t (XS.aloadN X32.here hx rfl (hD 64 rfl) rfl rfl k)))
  obtain ⟨T34, X34, e34, st34⟩ := getF X32 hx hZ hown (host := "") (Or.inl (hw _ (mi 167 rfl))) Via.refl e32 (W32q.fld (i := 7) rfl (j := 22) rfl rfl) (g := K33.g) rfl rfl (hD 65 rfl)
  have K35 : Rc K0 T34 (mkF m 115 #[sR r, sI 4, sI 0] [(kI 64), (kI 1), (kR a26)]) := fun t k => K33 t (st34 t (by
    refine XS.iconst X34.here hx rfl (hD 66 rfl) ?_
    refine XS.bipush X34.here hx rfl (hD 67 rfl) ?_
    exact k))
  obtain ⟨T36, h36, a36, X36, e36, W36q, st36⟩ := newWA X34 hx hZ (aty := .double) (ty := .double) rfl (hw _ (mi 0 rfl)) e34 W32q (g := K35.g) rfl (hD 68 rfl) (z := (64 : Int32)) (n := 64) rfl (by decide) (by decide) (cap := 64) (by decide) (by decide) (by decide : 7 + 1 ≤ _) (by decide : 28 + 64 ≤ _)
  have W36 : Wo n0 h36 ((a36, Ar Z .double 64 zD) :: (a26, Pg Z .double 4 (upd zN 0 (kR prb))) :: (a21, Ar Z .int 4 zI) :: (a18, Ar Z .int 4 zI) :: (a15, Ar Z .int 4 zI) :: (a12, Ar Z .int 4 zI) :: (a9, Ar Z .int 4 zI) :: (a6, Ar Z .int 4 zI) :: (r, oR Z [(kR ks), (kR rgs), (kR ns), (kR fch), (kR fk), (kR kl), (kR frg), (kR fac), (kR fcm), (kR ftr), (kR acs), (kR cms), (kR sus), (kR prb), (kI shc), (kR a6), (kI 0), (kR a9), (kR a12), (kR a15), (kR a18), (kR a21), (kR a26), (kI 0), (kI 0)]) :: (prb, Ar Z .double 64 g_prb) :: Rr) := W36q
  obtain ⟨T37, h37, L37, X37, e37, N37, W37q, st37⟩ := aasW X36 hx hZ e36 W36 N32 (i := 1) (a := a26) rfl (j := (1 : Int32)) (k := 1) (by decide) (by decide) (by decide) (v := (.ref a36)) rfl (W36.sto (i := 1) (j := 0) rfl rfl) (g := (mkF m 117 #[sR r, sI 4, sI 0] [(kR a36), (kI 1), (kR a26)])) rfl rfl (hD 69 rfl)
  have K38 : Rc K0 T37 (mkF m 120 #[sR r, sI 4, sI 0] [(kI 2), (kR r)]) := fun t k => K35 t (st36 t (st37 t (by
    refine XS.aloadN X37.here hx rfl (hD 70 rfl) rfl rfl ?_
    refine XS.iconst X37.here hx rfl (hD 71 rfl) ?_
    exact k)))
  obtain ⟨T39, h39, L39, X39, e39, N39, W39q, st39⟩ := putW X37 hx hZ hown (host := "") (Or.inl (hw _ (mi 170 rfl))) e37 W37q N37 (own_dR hw) (Or.inl (hw _ (mi 171 rfl))) (hw _ (mi 8 rfl)) (ty := .int) (by decide +kernel) (i := 8) (a := r) rfl (j := 23) rfl rfl (v := (.int (2 : Int32))) rfl rfl (g := K38.g) rfl rfl (hD 72 rfl)
  have K40 : Rc K0 T39 (mkF m 123 #[sR r, sI 4, sI 0] []) := fun t k => K38 t (st39 t (k))
  obtain ⟨fs, hr, hrun, hended, hWm, hsame⟩ := X39.leave (v := none) (fun _ => rfl)
  refine ⟨_, _, pre0 _ (K40 _ (X39.returnOut hx Bd.returns (hD 73 rfl) hr)), hrun, hended, _, _, rfl, ?_, ⟨_, rfl⟩, hWm, hsame.mono (by decide) (by decide)⟩
  show QrmSR0 Z r ks rgs ns fch fk kl frg fac fcm ftr acs cms sus prb shc g_prb Rr n0 _ T39.heap _
  rw [e39]
  exact ⟨a36, a26, a21, a18, a15, a12, a9, a6, rfl, N39, W39q⟩
theorem ef_rmSR1 (m : MethodId) (r ks rgs ns fch fk kl frg fac fcm ftr acs cms sus prb : Addr) (shc : Int32) (g_prb : Nat → Value) : entryFrame m #[(.ref r)] 3 = mkF m 0 #[.val (.ref r), .unset, .unset] [] := by first | (simp [entryFrame, mkF, argsToLocals, Value.category]; done) | rfl
def QrmSR1 (Z : State) (r ks rgs ns fch fk kl frg fac fcm ftr acs cms sus prb : Addr) (shc : Int32) (g_prb : Nat → Value) (Rr : List (Addr × (Cell → Prop))) (n0 : Nat) (v : Option Value) (h : Heap) (L : List Loc) : Prop := ∃ a50 a40 a21 a18 a15 a12 a9 a6, v = none ∧ Fr n0 L ∧ Wo n0 h ((a50, Ar Z .double 64 zD) :: (a40, Pg Z .double 4 (upd (upd zN 0 (kR prb)) 1 (kR a50))) :: (a21, Ar Z .int 4 zI) :: (a18, Ar Z .int 4 zI) :: (a15, Ar Z .int 4 zI) :: (a12, Ar Z .int 4 (upd zI 0 (kI (-1)))) :: (a9, Ar Z .int 4 (upd zI 0 (kI 0))) :: (a6, Ar Z .int 4 (upd zI 0 (kI 0))) :: (r, oR Z [(kR ks), (kR rgs), (kR ns), (kR fch), (kR fk), (kR kl), (kR frg), (kR fac), (kR fcm), (kR ftr), (kR acs), (kR cms), (kR sus), (kR prb), (kI shc), (kR a6), (kI 1), (kR a9), (kR a12), (kR a15), (kR a18), (kR a21), (kR a40), (kI 2), (kI 0)]) :: (prb, Ar Z .double 64 g_prb) :: Rr)
set_option maxRecDepth 65536 in
set_option maxHeartbeats 40000000 in
theorem rmSR1 (l : Launch) (Z : State) (a0 : Array Value) (hw : ∀ d ∈ tables_1, d.before a0 Z = true) (ws : List Jvm.Cond) (r ks rgs ns fch fk kl frg fac fcm ftr acs cms sus prb : Addr) (shc : Int32) (g_prb : Nat → Value) (Rr : List (Addr × (Cell → Prop))) (h0 : Heap) (n0 : Nat) (W0 : Wo n0 h0 ((r, oR Z [(kR ks), (kR rgs), (kR ns), (kR fch), (kR fk), (kR kl), (kR frg), (kR fac), (kR fcm), (kR ftr), (kR acs), (kR cms), (kR sus), (kR prb), (kI shc), .null, (kI 1), .null, .null, .null, .null, .null, .null, (kI 0), (kI 0)]) :: (prb, Ar Z .double 64 g_prb) :: Rr)) :
    MetFree l y_sr (head1 (Jvm.Cond.code y_sr prog_87_method_4_code 3 none :: ws) ({ frames := 4, cells := 8, slots := 92, locals := 60 } : Room)) (fun aa U => aa = #[(.ref r)] ∧ Z.Warmed39 U.vm ∧ U.heap = h0) (fun _ _ _ _ _ => True) (fun _ U ou U' => ∃ v L, ou = .returned v ∧ QrmSR1 Z r ks rgs ns fch fk kl frg fac fcm ftr acs cms sus prb shc g_prb Rr n0 v U'.heap L ∧ FrameEnd U ou U' L ({ frames := 4, cells := 8, slots := 92, locals := 60 } : Room).cells ({ frames := 4, cells := 8, slots := 92, locals := 60 } : Room).slots) := by
  refine MetFree.of_bodySF (plainFor_of_name pn_Rows) hisR ?_
  intro p e s m args below meth c s₁ Bd hml0 hP hK
  obtain ⟨rfl, hZ, hh⟩ := hP
  have hx := Bd.exec
  have hby := Bd.bytes
  have hml : c.maxLocals = 3 := hml0
  have hD : ∀ (k : Nat) {pc : Nat} {i : Instr} {n : Nat}, Ld_sr[k]? = some (pc, i, n) → decode c.code pc = .ok (i, n) := by intro k pc i n h; exact hb hby (d_sr (pc, i, n) (mi k h))
  have hown : s.vm.findClass "com/example/sambre/sambre/engine/Rows" = some m.cls := findClass_of_methodNamed Bd.named
  have hnm := (name_of_methodNamed Bd.named Bd.method).1
  have X0 : Stand p l e ({ frames := 4, cells := 8, slots := 92, locals := 60 } : Room) s m #[(.ref r)] below meth c s₁ [] 0 0 := Stand.of_body Bd
  have e0 : s₁.heap = h0 := by rw [← hh, Bd.state]; rfl
  have N0 := Fr.nil n0
  obtain ⟨F0, hF0⟩ : ∃ F, F = mkF m 0 #[.val (.ref r), .unset, .unset] [] := ⟨_, rfl⟩
  have pre0 : ∀ t, Steps p.tables e below (s₁.setTop F0) t → Steps p.tables e below (s₁.setTop (entryFrame m #[(.ref r)] 3)) t := fun t k => castTop ((ef_rmSR1 m r ks rgs ns fch fk kl frg fac fcm ftr acs cms sus prb shc g_prb).trans hF0.symm) k
  have K0 : Rch p e below s₁ F0 s₁ (mkF m 0 #[.val (.ref r), .unset, .unset] []) := fun t k => castTop hF0 k
  have K1 : Rc K0 s₁ (mkF m 1 #[sR r, sU, sU] [(kR r)]) := fun t k => K0 t (XS.aloadN X0.here hx rfl (hD 0 rfl) rfl rfl k)
  obtain ⟨T2, X2, e2, st2⟩ := getF X0 hx hZ hown (host := "") (Or.inl (hw _ (mi 127 rfl))) Via.refl e0 (W0.fld (i := 0) rfl (j := 16) rfl rfl) (g := K1.g) rfl rfl (hD 1 rfl)
  have K3 : Rc K0 T2 (mkF m 7 #[sR r, sU, sU] [(kI 4), (kI 2)]) := fun t k => K1 t (st2 t (by
    refine XS.iconst X2.here hx rfl (hD 2 rfl) ?_
    refine XS.iadd X2.here hx rfl (hD 3 rfl) rfl ?_
    refine XS.iconst X2.here hx rfl (hD 4 rfl) ?_
    exact k))
  obtain ⟨_, _, ⟨T4, L4, k4, n4⟩, -, X4, ⟨Lc4, hQ4, l4, y4, z4⟩, st4⟩ := Jvm.LawKit.callS X2 hx (y := y_atl) hown (mvT hZ (hw _ (mi 129 rfl))) (mvT hZ (hw _ (mi 130 rfl))) (mvT hZ (hw _ (mi 131 rfl))) (mvT hZ (hw _ (mi 132 rfl))) (by decide) (backOf (W := 0) (rmAL2 l Z a0 hw []  ((r, oR Z [(kR ks), (kR rgs), (kR ns), (kR fch), (kR fk), (kR kl), (kR frg), (kR fac), (kR fcm), (kR ftr), (kR acs), (kR cms), (kR sus), (kR prb), (kI shc), .null, (kI 1), .null, .null, .null, .null, .null, .null, (kI 0), (kI 0)]) :: (prb, Ar Z .double 64 g_prb) :: Rr) h0 n0 W0) hZ (hw _ (mi 132 rfl)) (hw _ (mi 131 rfl)) (by decide) (by decide)) (g := K3.g) rfl (by rw [hml]; rfl) (argsL := [(.int (2 : Int32)), (.int (4 : Int32))]) (rest := []) (lenOf pd_atl rfl) rfl (by show 2 * 0 + _ ≤ _; exact Nat.le_of_eq rfl) (hD 5 rfl) (fun _ _ => ⟨rfl, e2, (by decide : 0 + 0 ≤ _), (by decide : 0 + 0 ≤ _)⟩)
  dsimp only [Pt.U, Pt.locs, Pt.cells, Pt.slots] at X4 l4 y4 z4 st4 hQ4
  subst l4 y4 z4
  obtain ⟨rfl, N4q, W4⟩ := hQ4
  have N4 := Fr.app N0 N4q
  have K5 : Rc K0 T4 (mkF m 13 #[sR r, sI 4, sU] [(kI 4), (kR r)]) := fun t k => K3 t (st4 t (by
    refine XS.istoreN X4.here hx rfl (hD 6 rfl) rfl (l' := #[sR r, sI 4, sU]) rfl ?_
    refine XS.aloadN X4.here hx rfl (hD 7 rfl) rfl rfl ?_
    refine XS.iloadN X4.here hx rfl (hD 8 rfl) rfl ?_
    exact k))
  obtain ⟨T6, h6, a6, X6, e6, W6q, st6⟩ := newWA X4 hx hZ (aty := .int) (ty := .int) rfl (hw _ (mi 6 rfl)) (rfl : T4.heap = T4.heap) W4 (g := K5.g) rfl (hD 9 rfl) (z := (4 : Int32)) (n := 4) rfl (by decide) (by decide) (cap := 4) (by decide) (by decide) (by decide : 0 + 1 ≤ _) (by decide : 0 + 4 ≤ _)
  obtain ⟨T7, h7, L7, X7, e7, N7, W7q, st7⟩ := putW X6 hx hZ hown (host := "") (Or.inl (hw _ (mi 107 rfl))) e6 W6q N4 (own_dR hw) (Or.inl (hw _ (mi 108 rfl))) (hw _ (mi 8 rfl)) (ty := (.array .int)) (by decide +kernel) (i := 1) (a := r) rfl (j := 15) rfl rfl (v := (.ref a6)) rfl rfl (g := (mkF m 15 #[sR r, sI 4, sU] [(kR a6), (kR r)])) rfl rfl (hD 10 rfl)
  have K8 : Rc K0 T7 (mkF m 20 #[sR r, sI 4, sU] [(kI 4), (kR r)]) := fun t k => K5 t (st6 t (st7 t (by
    refine XS.aloadN X7.here hx rfl (hD 11 rfl) rfl rfl ?_
    refine XS.iloadN X7.here hx rfl (hD 12 rfl) rfl ?_
    exact k)))
  obtain ⟨T9, h9, a9, X9, e9, W9q, st9⟩ := newWA X7 hx hZ (aty := .int) (ty := .int) rfl (hw _ (mi 6 rfl)) e7 W7q (g := K8.g) rfl (hD 13 rfl) (z := (4 : Int32)) (n := 4) rfl (by decide) (by decide) (cap := 4) (by decide) (by decide) (by decide : 1 + 1 ≤ _) (by decide : 4 + 4 ≤ _)
  obtain ⟨T10, h10, L10, X10, e10, N10, W10q, st10⟩ := putW X9 hx hZ hown (host := "") (Or.inl (hw _ (mi 155 rfl))) e9 W9q N7 (own_dR hw) (Or.inl (hw _ (mi 156 rfl))) (hw _ (mi 8 rfl)) (ty := (.array .int)) (by decide +kernel) (i := 2) (a := r) rfl (j := 17) rfl rfl (v := (.ref a9)) rfl rfl (g := (mkF m 22 #[sR r, sI 4, sU] [(kR a9), (kR r)])) rfl rfl (hD 14 rfl)
  have W10 : Wo n0 h10 ((a9, Ar Z .int 4 zI) :: (a6, Ar Z .int 4 zI) :: (r, oR Z [(kR ks), (kR rgs), (kR ns), (kR fch), (kR fk), (kR kl), (kR frg), (kR fac), (kR fcm), (kR ftr), (kR acs), (kR cms), (kR sus), (kR prb), (kI shc), (kR a6), (kI 1), (kR a9), .null, .null, .null, .null, .null, (kI 0), (kI 0)]) :: (prb, Ar Z .double 64 g_prb) :: Rr) := W10q
  have K11 : Rc K0 T10 (mkF m 27 #[sR r, sI 4, sU] [(kI 4), (kR r)]) := fun t k => K8 t (st9 t (st10 t (by
    refine XS.aloadN X10.here hx rfl (hD 15 rfl) rfl rfl ?_
    refine XS.iloadN X10.here hx rfl (hD 16 rfl) rfl ?_
    exact k)))
  obtain ⟨T12, h12, a12, X12, e12, W12q, st12⟩ := newWA X10 hx hZ (aty := .int) (ty := .int) rfl (hw _ (mi 6 rfl)) e10 W10 (g := K11.g) rfl (hD 17 rfl) (z := (4 : Int32)) (n := 4) rfl (by decide) (by decide) (cap := 4) (by decide) (by decide) (by decide : 2 + 1 ≤ _) (by decide : 8 + 4 ≤ _)
  obtain ⟨T13, h13, L13, X13, e13, N13, W13q, st13⟩ := putW X12 hx hZ hown (host := "") (Or.inl (hw _ (mi 157 rfl))) e12 W12q N10 (own_dR hw) (Or.inl (hw _ (mi 158 rfl))) (hw _ (mi 8 rfl)) (ty := (.array .int)) (by decide +kernel) (i := 3) (a := r) rfl (j := 18) rfl rfl (v := (.ref a12)) rfl rfl (g := (mkF m 29 #[sR r, sI 4, sU] [(kR a12), (kR r)])) rfl rfl (hD 18 rfl)
  have K14 : Rc K0 T13 (mkF m 34 #[sR r, sI 4, sU] [(kI 4), (kR r)]) := fun t k => K11 t (st12 t (st13 t (by
    refine XS.aloadN X13.here hx rfl (hD 19 rfl) rfl rfl ?_
    refine XS.iloadN X13.here hx rfl (hD 20 rfl) rfl ?_
    exact k)))
  obtain ⟨T15, h15, a15, X15, e15, W15q, st15⟩ := newWA X13 hx hZ (aty := .int) (ty := .int) rfl (hw _ (mi 6 rfl)) e13 W13q (g := K14.g) rfl (hD 21 rfl) (z := (4 : Int32)) (n := 4) rfl (by decide) (by decide) (cap := 4) (by decide) (by decide) (by decide : 3 + 1 ≤ _) (by decide : 12 + 4 ≤ _)
  obtain ⟨T16, h16, L16, X16, e16, N16, W16q, st16⟩ := putW X15 hx hZ hown (host := "") (Or.inl (hw _ (mi 159 rfl))) e15 W15q N13 (own_dR hw) (Or.inl (hw _ (mi 160 rfl))) (hw _ (mi 8 rfl)) (ty := (.array .int)) (by decide +kernel) (i := 4) (a := r) rfl (j := 19) rfl rfl (v := (.ref a15)) rfl rfl (g := (mkF m 36 #[sR r, sI 4, sU] [(kR a15), (kR r)])) rfl rfl (hD 22 rfl)
  have W16 : Wo n0 h16 ((a15, Ar Z .int 4 zI) :: (a12, Ar Z .int 4 zI) :: (a9, Ar Z .int 4 zI) :: (a6, Ar Z .int 4 zI) :: (r, oR Z [(kR ks), (kR rgs), (kR ns), (kR fch), (kR fk), (kR kl), (kR frg), (kR fac), (kR fcm), (kR ftr), (kR acs), (kR cms), (kR sus), (kR prb), (kI shc), (kR a6), (kI 1), (kR a9), (kR a12), (kR a15), .null, .null, .null, (kI 0), (kI 0)]) :: (prb, Ar Z .double 64 g_prb) :: Rr) := W16q
  have K17 : Rc K0 T16 (mkF m 41 #[sR r, sI 4, sU] [(kI 4), (kR r)]) := fun t k => K14 t (st15 t (st16 t (by
    refine XS.aloadN X16.here hx rfl (hD 23 rfl) rfl rfl ?_
    refine XS.iloadN X16.here hx rfl (hD 24 rfl) rfl ?_
    exact k)))
  obtain ⟨T18, h18, a18, X18, e18, W18q, st18⟩ := newWA X16 hx hZ (aty := .int) (ty := .int) rfl (hw _ (mi 6 rfl)) e16 W16 (g := K17.g) rfl (hD 25 rfl) (z := (4 : Int32)) (n := 4) rfl (by decide) (by decide) (cap := 4) (by decide) (by decide) (by decide : 4 + 1 ≤ _) (by decide : 16 + 4 ≤ _)
  obtain ⟨T19, h19, L19, X19, e19, N19, W19q, st19⟩ := putW X18 hx hZ hown (host := "") (Or.inl (hw _ (mi 161 rfl))) e18 W18q N16 (own_dR hw) (Or.inl (hw _ (mi 162 rfl))) (hw _ (mi 8 rfl)) (ty := (.array .int)) (by decide +kernel) (i := 5) (a := r) rfl (j := 20) rfl rfl (v := (.ref a18)) rfl rfl (g := (mkF m 43 #[sR r, sI 4, sU] [(kR a18), (kR r)])) rfl rfl (hD 26 rfl)
  have K20 : Rc K0 T19 (mkF m 48 #[sR r, sI 4, sU] [(kI 4), (kR r)]) := fun t k => K17 t (st18 t (st19 t (by
    refine XS.aloadN X19.here hx rfl (hD 27 rfl) rfl rfl ?_
    refine XS.iloadN X19.here hx rfl (hD 28 rfl) rfl ?_
    exact k)))
  obtain ⟨T21, h21, a21, X21, e21, W21q, st21⟩ := newWA X19 hx hZ (aty := .int) (ty := .int) rfl (hw _ (mi 6 rfl)) e19 W19q (g := K20.g) rfl (hD 29 rfl) (z := (4 : Int32)) (n := 4) rfl (by decide) (by decide) (cap := 4) (by decide) (by decide) (by decide : 5 + 1 ≤ _) (by decide : 20 + 4 ≤ _)
  obtain ⟨T22, h22, L22, X22, e22, N22, W22q, st22⟩ := putW X21 hx hZ hown (host := "") (Or.inl (hw _ (mi 163 rfl))) e21 W21q N19 (own_dR hw) (Or.inl (hw _ (mi 164 rfl))) (hw _ (mi 8 rfl)) (ty := (.array .int)) (by decide +kernel) (i := 6) (a := r) rfl (j := 21) rfl rfl (v := (.ref a21)) rfl rfl (g := (mkF m 50 #[sR r, sI 4, sU] [(kR a21), (kR r)])) rfl rfl (hD 30 rfl)
  have W22 : Wo n0 h22 ((a21, Ar Z .int 4 zI) :: (a18, Ar Z .int 4 zI) :: (a15, Ar Z .int 4 zI) :: (a12, Ar Z .int 4 zI) :: (a9, Ar Z .int 4 zI) :: (a6, Ar Z .int 4 zI) :: (r, oR Z [(kR ks), (kR rgs), (kR ns), (kR fch), (kR fk), (kR kl), (kR frg), (kR fac), (kR fcm), (kR ftr), (kR acs), (kR cms), (kR sus), (kR prb), (kI shc), (kR a6), (kI 1), (kR a9), (kR a12), (kR a15), (kR a18), (kR a21), .null, (kI 0), (kI 0)]) :: (prb, Ar Z .double 64 g_prb) :: Rr) := W22q
  have K23 : Rc K0 T22 (mkF m 57 #[sR r, sI 4, sI 0] [(kR r), (kI 0)]) := fun t k => K20 t (st21 t (st22 t (by
    refine XS.iconst X22.here hx rfl (hD 31 rfl) ?_
    refine XS.istoreN X22.here hx rfl (hD 32 rfl) rfl (l' := #[sR r, sI 4, sI 0]) rfl ?_
    refine XS.iloadN X22.here hx rfl (hD 33 rfl) rfl ?_
    refine XS.aloadN X22.here hx rfl (hD 34 rfl) rfl rfl ?_
    exact k)))
  obtain ⟨T24, X24, e24, st24⟩ := getF X22 hx hZ hown (host := "") (Or.inl (hw _ (mi 127 rfl))) Via.refl e22 (W22.fld (i := 6) rfl (j := 16) rfl rfl) (g := K23.g) rfl rfl (hD 35 rfl)
  have K25 : Rc K0 T24 (mkF m 64 #[sR r, sI 4, sI 0] [(kR r)]) := fun t k => K23 t (st24 t (by
    refine XS.icmpNo X24.here hx rfl (hD 36 rfl) rfl (by decide) ?_
    refine XS.aloadN X24.here hx rfl (hD 37 rfl) rfl rfl ?_
    exact k))
  obtain ⟨T26, X26, e26, st26⟩ := getF X24 hx hZ hown (host := "") (Or.inl (hw _ (mi 107 rfl))) Via.refl e24 (W22.fld (i := 6) rfl (j := 15) rfl rfl) (g := K25.g) rfl rfl (hD 38 rfl)
  have K27 : Rc K0 T26 (mkF m 69 #[sR r, sI 4, sI 0] [(kI 0), (kI 0), (kR a6)]) := fun t k => K25 t (st26 t (by
    refine XS.iloadN X26.here hx rfl (hD 39 rfl) rfl ?_
    refine XS.iloadN X26.here hx rfl (hD 40 rfl) rfl ?_
    exact k))
  obtain ⟨T28, h28, L28, X28, e28, N28, W28q, st28⟩ := iasW X26 hx hZ e26 W22 N22 (i := 5) (a := a6) rfl (j := (0 : Int32)) (x := (0 : Int32)) (k := 0) (by decide) (by decide) (by decide) (g := K27.g) rfl rfl (hD 41 rfl)
  have K29 : Rc K0 T28 (mkF m 71 #[sR r, sI 4, sI 0] [(kR r)]) := fun t k => K27 t (st28 t (XS.aloadN X28.here hx rfl (hD 42 rfl) rfl rfl k))
  obtain ⟨T30, X30, e30, st30⟩ := getF X28 hx hZ hown (host := "") (Or.inl (hw _ (mi 155 rfl))) Via.refl e28 (W28q.fld (i := 6) rfl (j := 17) rfl rfl) (g := K29.g) rfl rfl (hD 43 rfl)
  have K31 : Rc K0 T30 (mkF m 76 #[sR r, sI 4, sI 0] [(kI 0), (kI 0), (kR a9)]) := fun t k => K29 t (st30 t (by
    refine XS.iloadN X30.here hx rfl (hD 44 rfl) rfl ?_
    refine XS.iloadN X30.here hx rfl (hD 45 rfl) rfl ?_
    exact k))
  obtain ⟨T32, h32, L32, X32, e32, N32, W32q, st32⟩ := iasW X30 hx hZ e30 W28q N28 (i := 4) (a := a9) rfl (j := (0 : Int32)) (x := (0 : Int32)) (k := 0) (by decide) (by decide) (by decide) (g := K31.g) rfl rfl (hD 46 rfl)
  have K33 : Rc K0 T32 (mkF m 78 #[sR r, sI 4, sI 0] [(kR r)]) := fun t k => K31 t (st32 t (XS.aloadN X32.here hx rfl (hD 47 rfl) rfl rfl k))
  obtain ⟨T34, X34, e34, st34⟩ := getF X32 hx hZ hown (host := "") (Or.inl (hw _ (mi 157 rfl))) Via.refl e32 (W32q.fld (i := 6) rfl (j := 18) rfl rfl) (g := K33.g) rfl rfl (hD 48 rfl)
  have K35 : Rc K0 T34 (mkF m 83 #[sR r, sI 4, sI 0] [(kI (-1)), (kI 0), (kR a12)]) := fun t k => K33 t (st34 t (by
    refine XS.iloadN X34.here hx rfl (hD 49 rfl) rfl ?_
    refine XS.iconst X34.here hx rfl (hD 50 rfl) ?_
    exact k))
  obtain ⟨T36, h36, L36, X36, e36, N36, W36q, st36⟩ := iasW X34 hx hZ e34 W32q N32 (i := 3) (a := a12) rfl (j := (0 : Int32)) (x := (-1 : Int32)) (k := 0) (by decide) (by decide) (by decide) (g := K35.g) rfl rfl (hD 51 rfl)
  have K37 : Rc K0 T36 (mkF m 57 #[sR r, sI 4, sI 1] [(kR r), (kI 1)]) := fun t k => K35 t (st36 t (by
    refine XS.iinc X36.here hx rfl (hD 52 rfl) rfl (l' := #[sR r, sI 4, sI 1]) rfl ?_
    refine XS.goto X36.here hx rfl (pc0 := 87) (pc' := 55) rfl (hD 53 rfl) (by decide) (by decide) ?_
    refine XS.iloadN X36.here hx rfl (hD 33 rfl) rfl ?_
    refine XS.aloadN X36.here hx rfl (hD 34 rfl) rfl rfl ?_
    exact k))
  obtain ⟨T38, X38, e38, st38⟩ := getF X36 hx hZ hown (host := "") (Or.inl (hw _ (mi 127 rfl))) Via.refl e36 (W36q.fld (i := 6) rfl (j := 16) rfl rfl) (g := K37.g) rfl rfl (hD 35 rfl)
  have K39 : Rc K0 T38 (mkF m 92 #[sR r, sI 4, sI 1] [(kI 4), (kR r)]) := fun t k => K37 t (st38 t (by
    refine XS.icmpYes X38.here hx rfl (pc0 := 60) (pc' := 90) rfl (hD 36 rfl) rfl (by decide) (by decide) (by decide) ?_
    refine XS.aloadN X38.here hx rfl (hD 54 rfl) rfl rfl ?_
    refine XS.iconst X38.here hx rfl (hD 55 rfl) ?_
    exact k))
  obtain ⟨T40, h40, a40, X40, e40, W40q, st40⟩ := newWR X38 hx hZ (t := .double) hown rfl (hw _ (mi 165 rfl)) (hw _ (mi 166 rfl)) e38 W36q (g := K39.g) rfl (hD 56 rfl) (z := (4 : Int32)) (n := 4) rfl (by decide) (by decide) (cap := 4) (by decide) (by decide) (by decide : 6 + 1 ≤ _) (by decide : 24 + 4 ≤ _)
  have W40 : Wo n0 h40 ((a40, Pg Z .double 4 zN) :: (a21, Ar Z .int 4 zI) :: (a18, Ar Z .int 4 zI) :: (a15, Ar Z .int 4 zI) :: (a12, Ar Z .int 4 (upd zI 0 (kI (-1)))) :: (a9, Ar Z .int 4 (upd zI 0 (kI 0))) :: (a6, Ar Z .int 4 (upd zI 0 (kI 0))) :: (r, oR Z [(kR ks), (kR rgs), (kR ns), (kR fch), (kR fk), (kR kl), (kR frg), (kR fac), (kR fcm), (kR ftr), (kR acs), (kR cms), (kR sus), (kR prb), (kI shc), (kR a6), (kI 1), (kR a9), (kR a12), (kR a15), (kR a18), (kR a21), .null, (kI 0), (kI 0)]) :: (prb, Ar Z .double 64 g_prb) :: Rr) := W40q
  obtain ⟨T41, h41, L41, X41, e41, N41, W41q, st41⟩ := putW X40 hx hZ hown (host := "") (Or.inl (hw _ (mi 167 rfl))) e40 W40 N36 (own_dR hw) (Or.inl (hw _ (mi 168 rfl))) (hw _ (mi 8 rfl)) (ty := (.array (.array .double))) (by decide +kernel) (i := 7) (a := r) rfl (j := 22) rfl rfl (v := (.ref a40)) rfl rfl (g := (mkF m 95 #[sR r, sI 4, sI 1] [(kR a40), (kR r)])) rfl rfl (hD 57 rfl)
  have K42 : Rc K0 T41 (mkF m 99 #[sR r, sI 4, sI 1] [(kR r)]) := fun t k => K39 t (st40 t (st41 t (XS.aloadN X41.here hx rfl (hD 58 rfl) rfl rfl k)))
  obtain ⟨T43, X43, e43, st43⟩ := getF X41 hx hZ hown (host := "") (Or.inl (hw _ (mi 167 rfl))) Via.refl e41 (W41q.fld (i := 7) rfl (j := 22) rfl rfl) (g := K42.g) rfl rfl (hD 59 rfl)
  have K44 : Rc K0 T43 (mkF m 104 #[sR r, sI 4, sI 1] [(kR r), (kI 0), (kR a40)]) := fun t k => K42 t (st43 t (by
    refine XS.iconst X43.here hx rfl (hD 60 rfl) ?_
    refine XS.aloadN X43.here hx rfl (hD 61 rfl) rfl rfl ?_
    exact k))
  obtain ⟨T45, X45, e45, st45⟩ := getF X43 hx hZ hown (host := "") (Or.inl (hw _ (mi 42 rfl))) Via.refl e43 (W41q.fld (i := 7) rfl (j := 13) rfl rfl) (g := K44.g) rfl rfl (hD 62 rfl)
  obtain ⟨T46, h46, L46, X46, e46, N46, W46q, st46⟩ := aasW X45 hx hZ e45 W41q N41 (i := 0) (a := a40) rfl (j := (0 : Int32)) (k := 0) (by decide) (by decide) (by decide) (v := (.ref prb)) rfl (W41q.sto (i := 0) (j := 8) rfl rfl) (g := (mkF m 107 #[sR r, sI 4, sI 1] [(kR prb), (kI 0), (kR a40)])) rfl rfl (hD 63 rfl)
  have K47 : Rc K0 T46 (mkF m 109 #[sR r, sI 4, sI 1] [(kR r)]) := fun t k => K44 t (st45 t (st46 t (XS.aloadN X46.here hx rfl (hD 64 rfl) rfl rfl k)))
  obtain ⟨T48, X48, e48, st48⟩ := getF X46 hx hZ hown (host := "") (Or.inl (hw _ (mi 167 rfl))) Via.refl e46 (W46q.fld (i := 7) rfl (j := 22) rfl rfl) (g := K47.g) rfl rfl (hD 65 rfl)
  have K49 : Rc K0 T48 (mkF m 115 #[sR r, sI 4, sI 1] [(kI 64), (kI 1), (kR a40)]) := fun t k => K47 t (st48 t (by
    refine XS.iconst X48.here hx rfl (hD 66 rfl) ?_
    refine XS.bipush X48.here hx rfl (hD 67 rfl) ?_
    exact k))
  obtain ⟨T50, h50, a50, X50, e50, W50q, st50⟩ := newWA X48 hx hZ (aty := .double) (ty := .double) rfl (hw _ (mi 0 rfl)) e48 W46q (g := K49.g) rfl (hD 68 rfl) (z := (64 : Int32)) (n := 64) rfl (by decide) (by decide) (cap := 64) (by decide) (by decide) (by decide : 7 + 1 ≤ _) (by decide : 28 + 64 ≤ _)
  obtain ⟨T51, h51, L51, X51, e51, N51, W51q, st51⟩ := aasW X50 hx hZ e50 W50q N46 (i := 1) (a := a40) rfl (j := (1 : Int32)) (k := 1) (by decide) (by decide) (by decide) (v := (.ref a50)) rfl (W50q.sto (i := 1) (j := 0) rfl rfl) (g := (mkF m 117 #[sR r, sI 4, sI 1] [(kR a50), (kI 1), (kR a40)])) rfl rfl (hD 69 rfl)
  have W51 : Wo n0 h51 ((a50, Ar Z .double 64 zD) :: (a40, Pg Z .double 4 (upd (upd zN 0 (kR prb)) 1 (kR a50))) :: (a21, Ar Z .int 4 zI) :: (a18, Ar Z .int 4 zI) :: (a15, Ar Z .int 4 zI) :: (a12, Ar Z .int 4 (upd zI 0 (kI (-1)))) :: (a9, Ar Z .int 4 (upd zI 0 (kI 0))) :: (a6, Ar Z .int 4 (upd zI 0 (kI 0))) :: (r, oR Z [(kR ks), (kR rgs), (kR ns), (kR fch), (kR fk), (kR kl), (kR frg), (kR fac), (kR fcm), (kR ftr), (kR acs), (kR cms), (kR sus), (kR prb), (kI shc), (kR a6), (kI 1), (kR a9), (kR a12), (kR a15), (kR a18), (kR a21), (kR a40), (kI 0), (kI 0)]) :: (prb, Ar Z .double 64 g_prb) :: Rr) := W51q
  have K52 : Rc K0 T51 (mkF m 120 #[sR r, sI 4, sI 1] [(kI 2), (kR r)]) := fun t k => K49 t (st50 t (st51 t (by
    refine XS.aloadN X51.here hx rfl (hD 70 rfl) rfl rfl ?_
    refine XS.iconst X51.here hx rfl (hD 71 rfl) ?_
    exact k)))
  obtain ⟨T53, h53, L53, X53, e53, N53, W53q, st53⟩ := putW X51 hx hZ hown (host := "") (Or.inl (hw _ (mi 170 rfl))) e51 W51 N51 (own_dR hw) (Or.inl (hw _ (mi 171 rfl))) (hw _ (mi 8 rfl)) (ty := .int) (by decide +kernel) (i := 8) (a := r) rfl (j := 23) rfl rfl (v := (.int (2 : Int32))) rfl rfl (g := K52.g) rfl rfl (hD 72 rfl)
  have K54 : Rc K0 T53 (mkF m 123 #[sR r, sI 4, sI 1] []) := fun t k => K52 t (st53 t (k))
  obtain ⟨fs, hr, hrun, hended, hWm, hsame⟩ := X53.leave (v := none) (fun _ => rfl)
  refine ⟨_, _, pre0 _ (K54 _ (X53.returnOut hx Bd.returns (hD 73 rfl) hr)), hrun, hended, _, _, rfl, ?_, ⟨_, rfl⟩, hWm, hsame.mono (by decide) (by decide)⟩
  show QrmSR1 Z r ks rgs ns fch fk kl frg fac fcm ftr acs cms sus prb shc g_prb Rr n0 _ T53.heap _
  rw [e53]
  exact ⟨a50, a40, a21, a18, a15, a12, a9, a6, rfl, N53, W53q⟩
abbrev y_pl : MethodName := ⟨"com/example/sambre/sambre/engine/Rows", "place", "(I[DI[D)I"⟩
theorem pd_pl : parseMethodDescriptor "(I[DI[D)I" = some ⟨[.int, (.array .double), .int, (.array .double)], some .int⟩ := by decide +kernel
def Ld_pl : List (Nat × Instr × Nat) := [(0, .aload_n 0, 1), (1, .getfield 37, 3), (4, .aload_n 0, 1), (5, .getfield 19, 3), (8, .iload_n 1, 1), (9, .iaload, 1), (10, .iaload, 1), (11, .istore 5, 2), (13, .aload_n 0, 1), (14, .getfield 37, 3), (17, .aload_n 0, 1), (18, .getfield 19, 3), (21, .iload_n 1, 1), (22, .iconst 1, 1), (23, .iadd, 1), (24, .iaload, 1), (25, .iaload, 1), (26, .iload 5, 2), (28, .isub, 1), (29, .istore 6, 2), (31, .iload_n 3, 1), (32, .iload 6, 2), (34, .iadd, 1), (35, .istore 7, 2), (37, .aload_n 0, 1), (38, .getfield 146, 3), (41, .iload 7, 2), (43, .iadd, 1), (44, .aload_n 0, 1), (45, .getfield 139, 3), (48, .aload_n 0, 1), (49, .getfield 143, 3), (52, .iconst 1, 1), (53, .isub, 1), (54, .aaload, 1), (55, .arraylength, 1), (56, .if_icmp .le 87, 3), (143, .aload_n 0, 1), (144, .dup, 1), (145, .getfield 99, 3), (148, .dup_x1, 1), (149, .iconst 1, 1), (150, .iadd, 1), (151, .putfield 99, 3), (154, .istore 8, 2), (156, .iload 8, 2), (158, .aload_n 0, 1), (159, .getfield 124, 3), (162, .arraylength, 1), (163, .if_icmp .ne 78, 3), (241, .aload_n 0, 1), (242, .getfield 139, 3), (245, .aload_n 0, 1), (246, .getfield 143, 3), (249, .iconst 1, 1), (250, .isub, 1), (251, .aaload, 1), (252, .astore 9, 2), (254, .aload_n 2, 1), (255, .iconst 0, 1), (256, .aload 9, 2), (258, .aload_n 0, 1), (259, .getfield 146, 3), (262, .iload_n 3, 1), (263, .invokestatic 90, 3), (266, .aload 4, 2), (268, .iconst 0, 1), (269, .aload 9, 2), (271, .aload_n 0, 1), (272, .getfield 146, 3), (275, .iload_n 3, 1), (276, .iadd, 1), (277, .iload 6, 2), (279, .invokestatic 90, 3), (282, .aload_n 0, 1), (283, .getfield 124, 3), (286, .iload 8, 2), (288, .iload_n 1, 1), (289, .iastore, 1), (290, .aload_n 0, 1), (291, .getfield 127, 3), (294, .iload 8, 2), (296, .aload_n 0, 1), (297, .getfield 67, 3), (300, .iload_n 1, 1), (301, .iaload, 1), (302, .iastore, 1), (303, .aload_n 0, 1), (304, .getfield 67, 3), (307, .iload_n 1, 1), (308, .iload 8, 2), (310, .iastore, 1), (311, .aload_n 0, 1), (312, .getfield 130, 3), (315, .iload 8, 2), (317, .aload_n 0, 1), (318, .getfield 143, 3), (321, .iconst 1, 1), (322, .isub, 1), (323, .iastore, 1), (324, .aload_n 0, 1), (325, .getfield 133, 3), (328, .iload 8, 2), (330, .aload_n 0, 1), (331, .getfield 146, 3), (334, .iload_n 3, 1), (335, .iadd, 1), (336, .iload 5, 2), (338, .isub, 1), (339, .iastore, 1), (340, .aload_n 0, 1), (341, .getfield 136, 3), (344, .iload 8, 2), (346, .iload_n 3, 1), (347, .iastore, 1), (348, .aload_n 0, 1), (349, .dup, 1), (350, .getfield 146, 3), (353, .iload 7, 2), (355, .iadd, 1), (356, .putfield 146, 3), (359, .iload 8, 2), (361, .ireturn, 1)]
set_option maxRecDepth 65536 in
theorem d_pl : ∀ x ∈ Ld_pl, decode prog_87_method_5_code x.1 = .ok (x.2.1, x.2.2) := by decide +kernel
theorem ef_rmPL00 (m : MethodId) (r ks rgs ns fch fk kl frg fac fcm ftr acs cms sus prb : Addr) (lr so nr bo shf vcn bl bk vv pp : Addr) (u : Nat) (g_ftr g_fch g_bl g_bk g_lr g_so g_nr g_bo g_shf g_vcn g_vv g_pp : Nat → Value) : entryFrame m #[(.ref r), (.int (0 : Int32)), (.ref vv), (.int (Int32.ofNat u)), (.ref pp)] 10 = mkF m 0 #[.val (.ref r), .val (.int (0 : Int32)), .val (.ref vv), .val (.int (Int32.ofNat u)), .val (.ref pp), .unset, .unset, .unset, .unset, .unset] [] := by first | (simp [entryFrame, mkF, argsToLocals, Value.category]; done) | rfl
def QrmPL00 (Z : State) (r ks rgs ns fch fk kl frg fac fcm ftr acs cms sus prb : Addr) (lr so nr bo shf vcn bl bk vv pp : Addr) (u : Nat) (g_ftr g_fch g_bl g_bk g_lr g_so g_nr g_bo g_shf g_vcn g_vv g_pp : Nat → Value) (Rr : List (Addr × (Cell → Prop))) (n0 : Nat) (v : Option Value) (h : Heap) (L : List Loc) : Prop := v = some (.int (0 : Int32)) ∧ Fr n0 L ∧ Wo n0 h ((r, oR Z [(kR ks), (kR rgs), (kR ns), (kR fch), (kR fk), (kR kl), (kR frg), (kR fac), (kR fcm), (kR ftr), (kR acs), (kR cms), (kR sus), (kR prb), (kI 1), (kR lr), (kI 1), (kR so), (kR nr), (kR bo), (kR shf), (kR vcn), (kR bl), (kI 2), (kI (Int32.ofNat (u + 1)))]) :: (ftr, Ar Z .int 17 g_ftr) :: (fch, Ar Z .int 17 g_fch) :: (bl, Pg Z .double 4 g_bl) :: (bk, Ar Z .double 64 (cpy g_pp (cpy g_vv g_bk 0 0 u) 0 u 1)) :: (lr, Ar Z .int 4 (upd g_lr 0 (kI 0))) :: (so, Ar Z .int 4 (upd g_so 0 (kI 0))) :: (nr, Ar Z .int 4 (upd g_nr 0 (kI (-1)))) :: (bo, Ar Z .int 4 (upd g_bo 0 (kI 1))) :: (shf, Ar Z .int 4 (upd g_shf 0 (kI ((Int32.ofNat u) - (0 : Int32))))) :: (vcn, Ar Z .int 4 (upd g_vcn 0 (kI (Int32.ofNat u)))) :: (vv, Ar Z .double 4 g_vv) :: (pp, Ar Z .double 4 g_pp) :: Rr)
set_option maxRecDepth 65536 in
set_option maxHeartbeats 40000000 in
theorem rmPL00 (l : Launch) (Z : State) (a0 : Array Value) (hw : ∀ d ∈ tables_1, d.before a0 Z = true) (ws : List Jvm.Cond) (r ks rgs ns fch fk kl frg fac fcm ftr acs cms sus prb : Addr) (lr so nr bo shf vcn bl bk vv pp : Addr) (u : Nat) (g_ftr g_fch g_bl g_bk g_lr g_so g_nr g_bo g_shf g_vcn g_vv g_pp : Nat → Value) (Rr : List (Addr × (Cell → Prop))) (h0 : Heap) (n0 : Nat) (W0 : Wo n0 h0 ((r, oR Z [(kR ks), (kR rgs), (kR ns), (kR fch), (kR fk), (kR kl), (kR frg), (kR fac), (kR fcm), (kR ftr), (kR acs), (kR cms), (kR sus), (kR prb), (kI 1), (kR lr), (kI 0), (kR so), (kR nr), (kR bo), (kR shf), (kR vcn), (kR bl), (kI 2), (kI 0)]) :: (ftr, Ar Z .int 17 g_ftr) :: (fch, Ar Z .int 17 g_fch) :: (bl, Pg Z .double 4 g_bl) :: (bk, Ar Z .double 64 g_bk) :: (lr, Ar Z .int 4 g_lr) :: (so, Ar Z .int 4 g_so) :: (nr, Ar Z .int 4 g_nr) :: (bo, Ar Z .int 4 g_bo) :: (shf, Ar Z .int 4 g_shf) :: (vcn, Ar Z .int 4 g_vcn) :: (vv, Ar Z .double 4 g_vv) :: (pp, Ar Z .double 4 g_pp) :: Rr)) (hu1 : 1 ≤ u) (hu4 : u ≤ 4) (h1 : g_ftr 0 = .int 0) (h2 : g_ftr 1 = .int 1) (h3 : g_fch 0 = .int 0) (h4 : g_fch 1 = .int 1) (h5 : g_bl 1 = .ref bk) (h6 : g_lr 0 = .int (-1 : Int32)) :
    MetFree l y_pl (head1 (Jvm.Cond.code y_pl prog_87_method_5_code 10 (some .int) :: ws) ({ frames := 1, cells := 0, slots := 0, locals := 18 } : Room)) (fun aa U => aa = #[(.ref r), (.int (0 : Int32)), (.ref vv), (.int (Int32.ofNat u)), (.ref pp)] ∧ Z.Warmed39 U.vm ∧ U.heap = h0) (fun _ _ _ _ _ => True) (fun _ U ou U' => ∃ v L, ou = .returned v ∧ QrmPL00 Z r ks rgs ns fch fk kl frg fac fcm ftr acs cms sus prb lr so nr bo shf vcn bl bk vv pp u g_ftr g_fch g_bl g_bk g_lr g_so g_nr g_bo g_shf g_vcn g_vv g_pp Rr n0 v U'.heap L ∧ FrameEnd U ou U' L ({ frames := 1, cells := 0, slots := 0, locals := 18 } : Room).cells ({ frames := 1, cells := 0, slots := 0, locals := 18 } : Room).slots) := by
  refine MetFree.of_bodySF (plainFor_of_name pn_Rows) hisR ?_
  intro p e s m args below meth c s₁ Bd hml0 hP hK
  obtain ⟨rfl, hZ, hh⟩ := hP
  have hx := Bd.exec
  have hby := Bd.bytes
  have hml : c.maxLocals = 10 := hml0
  have hD : ∀ (k : Nat) {pc : Nat} {i : Instr} {n : Nat}, Ld_pl[k]? = some (pc, i, n) → decode c.code pc = .ok (i, n) := by intro k pc i n h; exact hb hby (d_pl (pc, i, n) (mi k h))
  have hown : s.vm.findClass "com/example/sambre/sambre/engine/Rows" = some m.cls := findClass_of_methodNamed Bd.named
  have hnm := (name_of_methodNamed Bd.named Bd.method).1
  have X0 : Stand p l e ({ frames := 1, cells := 0, slots := 0, locals := 18 } : Room) s m #[(.ref r), (.int (0 : Int32)), (.ref vv), (.int (Int32.ofNat u)), (.ref pp)] below meth c s₁ [] 0 0 := Stand.of_body Bd
  have e0 : s₁.heap = h0 := by rw [← hh, Bd.state]; rfl
  have N0 := Fr.nil n0
  obtain ⟨F0, hF0⟩ : ∃ F, F = mkF m 0 #[.val (.ref r), .val (.int (0 : Int32)), .val (.ref vv), .val (.int (Int32.ofNat u)), .val (.ref pp), .unset, .unset, .unset, .unset, .unset] [] := ⟨_, rfl⟩
  have pre0 : ∀ t, Steps p.tables e below (s₁.setTop F0) t → Steps p.tables e below (s₁.setTop (entryFrame m #[(.ref r), (.int (0 : Int32)), (.ref vv), (.int (Int32.ofNat u)), (.ref pp)] 10)) t := fun t k => castTop ((ef_rmPL00 m r ks rgs ns fch fk kl frg fac fcm ftr acs cms sus prb lr so nr bo shf vcn bl bk vv pp u g_ftr g_fch g_bl g_bk g_lr g_so g_nr g_bo g_shf g_vcn g_vv g_pp).trans hF0.symm) k
  have K0 : Rch p e below s₁ F0 s₁ (mkF m 0 #[.val (.ref r), .val (.int (0 : Int32)), .val (.ref vv), .val (.int (Int32.ofNat u)), .val (.ref pp), .unset, .unset, .unset, .unset, .unset] []) := fun t k => castTop hF0 k
  have K1 : Rc K0 s₁ (mkF m 1 #[sR r, sI 0, sR vv, sI (Int32.ofNat u), sR pp, sU, sU, sU, sU, sU] [(kR r)]) := fun t k => K0 t (XS.aloadN X0.here hx rfl (hD 0 rfl) rfl rfl k)
  obtain ⟨T2, X2, e2, st2⟩ := getF X0 hx hZ hown (host := "") (Or.inl (hw _ (mi 34 rfl))) Via.refl e0 (W0.fld (i := 0) rfl (j := 9) rfl rfl) (g := K1.g) rfl rfl (hD 1 rfl)
  have K3 : Rc K0 T2 (mkF m 5 #[sR r, sI 0, sR vv, sI (Int32.ofNat u), sR pp, sU, sU, sU, sU, sU] [(kR r), (kR ftr)]) := fun t k => K1 t (st2 t (XS.aloadN X2.here hx rfl (hD 2 rfl) rfl rfl k))
  obtain ⟨T4, X4, e4, st4⟩ := getF X2 hx hZ hown (host := "") (Or.inl (hw _ (mi 22 rfl))) Via.refl e2 (W0.fld (i := 0) rfl (j := 3) rfl rfl) (g := K3.g) rfl rfl (hD 3 rfl)
  have K5 : Rc K0 T4 (mkF m 14 #[sR r, sI 0, sR vv, sI (Int32.ofNat u), sR pp, sI 0, sU, sU, sU, sU] [(kR r)]) := fun t k => K3 t (st4 t (by
    refine XS.iloadN X4.here hx rfl (hD 4 rfl) rfl ?_
    refine ialW X4 hx hZ e4 W0 (i := 2) rfl (j := (0 : Int32)) (k := 0) (by decide) (by decide) (by decide) (v := (.int (0 : Int32))) h3 (g := (mkF m 9 #[sR r, sI 0, sR vv, sI (Int32.ofNat u), sR pp, sU, sU, sU, sU, sU] [(kI 0), (kR fch), (kR ftr)])) rfl rfl (hD 5 rfl) _ ?_
    refine ialW X4 hx hZ e4 W0 (i := 1) rfl (j := (0 : Int32)) (k := 0) (by decide) (by decide) (by decide) (v := (.int (0 : Int32))) h1 (g := (mkF m 10 #[sR r, sI 0, sR vv, sI (Int32.ofNat u), sR pp, sU, sU, sU, sU, sU] [(kI 0), (kR ftr)])) rfl rfl (hD 6 rfl) _ ?_
    refine XS.istore X4.here hx rfl (hD 7 rfl) rfl (l' := #[sR r, sI 0, sR vv, sI (Int32.ofNat u), sR pp, sI 0, sU, sU, sU, sU]) rfl ?_
    refine XS.aloadN X4.here hx rfl (hD 8 rfl) rfl rfl ?_
    exact k))
  obtain ⟨T6, X6, e6, st6⟩ := getF X4 hx hZ hown (host := "") (Or.inl (hw _ (mi 34 rfl))) Via.refl e4 (W0.fld (i := 0) rfl (j := 9) rfl rfl) (g := K5.g) rfl rfl (hD 9 rfl)
  have K7 : Rc K0 T6 (mkF m 18 #[sR r, sI 0, sR vv, sI (Int32.ofNat u), sR pp, sI 0, sU, sU, sU, sU] [(kR r), (kR ftr)]) := fun t k => K5 t (st6 t (XS.aloadN X6.here hx rfl (hD 10 rfl) rfl rfl k))
  obtain ⟨T8, X8, e8, st8⟩ := getF X6 hx hZ hown (host := "") (Or.inl (hw _ (mi 22 rfl))) Via.refl e6 (W0.fld (i := 0) rfl (j := 3) rfl rfl) (g := K7.g) rfl rfl (hD 11 rfl)
  have K9 : Rc K0 T8 (mkF m 38 #[sR r, sI 0, sR vv, sI (Int32.ofNat u), sR pp, sI 0, sI 1, sI (Int32.ofNat (u + 1)), sU, sU] [(kR r)]) := fun t k => K7 t (st8 t (by
    refine XS.iloadN X8.here hx rfl (hD 12 rfl) rfl ?_
    refine XS.iconst X8.here hx rfl (hD 13 rfl) ?_
    refine XS.iadd X8.here hx rfl (hD 14 rfl) rfl ?_
    refine ialW X8 hx hZ e8 W0 (i := 2) rfl (j := (1 : Int32)) (k := 1) (by decide) (by decide) (by decide) (v := (.int (1 : Int32))) h4 (g := (mkF m 24 #[sR r, sI 0, sR vv, sI (Int32.ofNat u), sR pp, sI 0, sU, sU, sU, sU] [(kI 1), (kR fch), (kR ftr)])) rfl rfl (hD 15 rfl) _ ?_
    refine ialW X8 hx hZ e8 W0 (i := 1) rfl (j := (1 : Int32)) (k := 1) (by decide) (by decide) (by decide) (v := (.int (1 : Int32))) h2 (g := (mkF m 25 #[sR r, sI 0, sR vv, sI (Int32.ofNat u), sR pp, sI 0, sU, sU, sU, sU] [(kI 1), (kR ftr)])) rfl rfl (hD 16 rfl) _ ?_
    refine XS.iload X8.here hx rfl (hD 17 rfl) rfl ?_
    refine XS.isub X8.here hx rfl (hD 18 rfl) rfl ?_
    refine XS.istore X8.here hx rfl (hD 19 rfl) rfl (l' := #[sR r, sI 0, sR vv, sI (Int32.ofNat u), sR pp, sI 0, sI 1, sU, sU, sU]) rfl ?_
    refine XS.iloadN X8.here hx rfl (hD 20 rfl) rfl ?_
    refine XS.iload X8.here hx rfl (hD 21 rfl) rfl ?_
    refine XS.iadd X8.here hx rfl (hD 22 rfl) rfl ?_
    show Steps p.tables e below (T8.setTop (mkF m 35 #[sR r, sI 0, sR vv, sI (Int32.ofNat u), sR pp, sI 0, sI 1, sU, sU, sU] [(kI ((Int32.ofNat u) + (1 : Int32)))])) _
    rw [show (Int32.ofNat u) + (1 : Int32) = (Int32.ofNat (u + 1)) from own_add u 1]
    show Steps p.tables e below (T8.setTop (mkF m 35 #[sR r, sI 0, sR vv, sI (Int32.ofNat u), sR pp, sI 0, sI 1, sU, sU, sU] [(kI (Int32.ofNat (u + 1)))])) _
    refine XS.istore X8.here hx rfl (hD 23 rfl) rfl (l' := #[sR r, sI 0, sR vv, sI (Int32.ofNat u), sR pp, sI 0, sI 1, sI (Int32.ofNat (u + 1)), sU, sU]) rfl ?_
    refine XS.aloadN X8.here hx rfl (hD 24 rfl) rfl rfl ?_
    exact k))
  obtain ⟨T10, X10, e10, st10⟩ := getF X8 hx hZ hown (host := "") (Or.inl (hw _ (mi 181 rfl))) Via.refl e8 (W0.fld (i := 0) rfl (j := 24) rfl rfl) (g := K9.g) rfl rfl (hD 25 rfl)
  have K11 : Rc K0 T10 (mkF m 45 #[sR r, sI 0, sR vv, sI (Int32.ofNat u), sR pp, sI 0, sI 1, sI (Int32.ofNat (u + 1)), sU, sU] [(kR r), (kI (Int32.ofNat (u + 1)))]) := fun t k => K9 t (st10 t (by
    refine XS.iload X10.here hx rfl (hD 26 rfl) rfl ?_
    refine XS.iadd X10.here hx rfl (hD 27 rfl) rfl ?_
    show Steps p.tables e below (T10.setTop (mkF m 44 #[sR r, sI 0, sR vv, sI (Int32.ofNat u), sR pp, sI 0, sI 1, sI (Int32.ofNat (u + 1)), sU, sU] [(kI ((0 : Int32) + (Int32.ofNat (u + 1))))])) _
    rw [Int32.zero_add]
    show Steps p.tables e below (T10.setTop (mkF m 44 #[sR r, sI 0, sR vv, sI (Int32.ofNat u), sR pp, sI 0, sI 1, sI (Int32.ofNat (u + 1)), sU, sU] [(kI (Int32.ofNat (u + 1)))])) _
    refine XS.aloadN X10.here hx rfl (hD 28 rfl) rfl rfl ?_
    exact k))
  obtain ⟨T12, X12, e12, st12⟩ := getF X10 hx hZ hown (host := "") (Or.inl (hw _ (mi 167 rfl))) Via.refl e10 (W0.fld (i := 0) rfl (j := 22) rfl rfl) (g := K11.g) rfl rfl (hD 29 rfl)
  have K13 : Rc K0 T12 (mkF m 49 #[sR r, sI 0, sR vv, sI (Int32.ofNat u), sR pp, sI 0, sI 1, sI (Int32.ofNat (u + 1)), sU, sU] [(kR r), (kR bl), (kI (Int32.ofNat (u + 1)))]) := fun t k => K11 t (st12 t (XS.aloadN X12.here hx rfl (hD 30 rfl) rfl rfl k))
  obtain ⟨T14, X14, e14, st14⟩ := getF X12 hx hZ hown (host := "") (Or.inl (hw _ (mi 170 rfl))) Via.refl e12 (W0.fld (i := 0) rfl (j := 23) rfl rfl) (g := K13.g) rfl rfl (hD 31 rfl)
  have K15 : Rc K0 T14 (mkF m 145 #[sR r, sI 0, sR vv, sI (Int32.ofNat u), sR pp, sI 0, sI 1, sI (Int32.ofNat (u + 1)), sU, sU] [(kR r), (kR r)]) := fun t k => K13 t (st14 t (by
    refine XS.iconst X14.here hx rfl (hD 32 rfl) ?_
    refine XS.isub X14.here hx rfl (hD 33 rfl) rfl ?_
    refine aalW X14 hx hZ e14 W0 (i := 3) rfl (fun _ q => q.1) rfl (j := (1 : Int32)) (k := 1) (by decide) (by decide) (by decide) (v := (.ref bk)) h5 (g := (mkF m 54 #[sR r, sI 0, sR vv, sI (Int32.ofNat u), sR pp, sI 0, sI 1, sI (Int32.ofNat (u + 1)), sU, sU] [(kI 1), (kR bl), (kI (Int32.ofNat (u + 1)))])) rfl rfl (hD 34 rfl) _ ?_
    refine lenW X14 hx hZ e14 W0 (i := 4) rfl (fun _ q => q) (z := (64 : Int32)) (by decide) (g := (mkF m 55 #[sR r, sI 0, sR vv, sI (Int32.ofNat u), sR pp, sI 0, sI 1, sI (Int32.ofNat (u + 1)), sU, sU] [(kR bk), (kI (Int32.ofNat (u + 1)))])) rfl rfl (hD 35 rfl) _ ?_
    refine XS.icmpYes X14.here hx rfl (pc0 := 56) (pc' := 143) rfl (hD 36 rfl) rfl (flt (own_nlt (a := 64) (b := u + 1) (by omega) (by decide))).2.2.2 (by decide) (by decide) ?_
    refine XS.aloadN X14.here hx rfl (hD 37 rfl) rfl rfl ?_
    refine XS.dup X14.here hx rfl (hD 38 rfl) rfl rfl ?_
    exact k))
  obtain ⟨T16, X16, e16, st16⟩ := getF X14 hx hZ hown (host := "") (Or.inl (hw _ (mi 127 rfl))) Via.refl e14 (W0.fld (i := 0) rfl (j := 16) rfl rfl) (g := K15.g) rfl rfl (hD 39 rfl)
  have K17 : Rc K0 T16 (mkF m 151 #[sR r, sI 0, sR vv, sI (Int32.ofNat u), sR pp, sI 0, sI 1, sI (Int32.ofNat (u + 1)), sU, sU] [(kI 1), (kR r), (kI 0)]) := fun t k => K15 t (st16 t (by
    refine XS.dupX1 X16.here hx rfl (hD 40 rfl) rfl rfl rfl ?_
    refine XS.iconst X16.here hx rfl (hD 41 rfl) ?_
    refine XS.iadd X16.here hx rfl (hD 42 rfl) rfl ?_
    exact k))
  obtain ⟨T18, h18, L18, X18, e18, N18, W18q, st18⟩ := putW X16 hx hZ hown (host := "") (Or.inl (hw _ (mi 127 rfl))) e16 W0 N0 (own_dR hw) (Or.inl (hw _ (mi 128 rfl))) (hw _ (mi 8 rfl)) (ty := .int) (by decide +kernel) (i := 0) (a := r) rfl (j := 16) rfl rfl (v := (.int (1 : Int32))) rfl rfl (g := K17.g) rfl rfl (hD 43 rfl)
  have K19 : Rc K0 T18 (mkF m 159 #[sR r, sI 0, sR vv, sI (Int32.ofNat u), sR pp, sI 0, sI 1, sI (Int32.ofNat (u + 1)), sI 0, sU] [(kR r), (kI 0)]) := fun t k => K17 t (st18 t (by
    refine XS.istore X18.here hx rfl (hD 44 rfl) rfl (l' := #[sR r, sI 0, sR vv, sI (Int32.ofNat u), sR pp, sI 0, sI 1, sI (Int32.ofNat (u + 1)), sI 0, sU]) rfl ?_
    refine XS.iload X18.here hx rfl (hD 45 rfl) rfl ?_
    refine XS.aloadN X18.here hx rfl (hD 46 rfl) rfl rfl ?_
    exact k))
  obtain ⟨T20, X20, e20, st20⟩ := getF X18 hx hZ hown (host := "") (Or.inl (hw _ (mi 155 rfl))) Via.refl e18 (W18q.fld (i := 0) rfl (j := 17) rfl rfl) (g := K19.g) rfl rfl (hD 47 rfl)
  have K21 : Rc K0 T20 (mkF m 242 #[sR r, sI 0, sR vv, sI (Int32.ofNat u), sR pp, sI 0, sI 1, sI (Int32.ofNat (u + 1)), sI 0, sU] [(kR r)]) := fun t k => K19 t (st20 t (by
    refine lenW X20 hx hZ e20 W18q (i := 6) rfl (fun _ q => q) (z := (4 : Int32)) (by decide) (g := (mkF m 162 #[sR r, sI 0, sR vv, sI (Int32.ofNat u), sR pp, sI 0, sI 1, sI (Int32.ofNat (u + 1)), sI 0, sU] [(kR so), (kI 0)])) rfl rfl (hD 48 rfl) _ ?_
    refine XS.icmpYes X20.here hx rfl (pc0 := 163) (pc' := 241) rfl (hD 49 rfl) rfl (by decide) (by decide) (by decide) ?_
    refine XS.aloadN X20.here hx rfl (hD 50 rfl) rfl rfl ?_
    exact k))
  obtain ⟨T22, X22, e22, st22⟩ := getF X20 hx hZ hown (host := "") (Or.inl (hw _ (mi 167 rfl))) Via.refl e20 (W18q.fld (i := 0) rfl (j := 22) rfl rfl) (g := K21.g) rfl rfl (hD 51 rfl)
  have K23 : Rc K0 T22 (mkF m 246 #[sR r, sI 0, sR vv, sI (Int32.ofNat u), sR pp, sI 0, sI 1, sI (Int32.ofNat (u + 1)), sI 0, sU] [(kR r), (kR bl)]) := fun t k => K21 t (st22 t (XS.aloadN X22.here hx rfl (hD 52 rfl) rfl rfl k))
  obtain ⟨T24, X24, e24, st24⟩ := getF X22 hx hZ hown (host := "") (Or.inl (hw _ (mi 170 rfl))) Via.refl e22 (W18q.fld (i := 0) rfl (j := 23) rfl rfl) (g := K23.g) rfl rfl (hD 53 rfl)
  have K25 : Rc K0 T24 (mkF m 259 #[sR r, sI 0, sR vv, sI (Int32.ofNat u), sR pp, sI 0, sI 1, sI (Int32.ofNat (u + 1)), sI 0, sR bk] [(kR r), (kR bk), (kI 0), (kR vv)]) := fun t k => K23 t (st24 t (by
    refine XS.iconst X24.here hx rfl (hD 54 rfl) ?_
    refine XS.isub X24.here hx rfl (hD 55 rfl) rfl ?_
    refine aalW X24 hx hZ e24 W18q (i := 3) rfl (fun _ q => q.1) rfl (j := (1 : Int32)) (k := 1) (by decide) (by decide) (by decide) (v := (.ref bk)) h5 (g := (mkF m 251 #[sR r, sI 0, sR vv, sI (Int32.ofNat u), sR pp, sI 0, sI 1, sI (Int32.ofNat (u + 1)), sI 0, sU] [(kI 1), (kR bl)])) rfl rfl (hD 56 rfl) _ ?_
    refine XS.astore X24.here hx rfl (hD 57 rfl) rfl rfl (l' := #[sR r, sI 0, sR vv, sI (Int32.ofNat u), sR pp, sI 0, sI 1, sI (Int32.ofNat (u + 1)), sI 0, sR bk]) rfl ?_
    refine XS.aloadN X24.here hx rfl (hD 58 rfl) rfl rfl ?_
    refine XS.iconst X24.here hx rfl (hD 59 rfl) ?_
    refine XS.aload X24.here hx rfl (hD 60 rfl) rfl rfl ?_
    refine XS.aloadN X24.here hx rfl (hD 61 rfl) rfl rfl ?_
    exact k))
  obtain ⟨T26, X26, e26, st26⟩ := getF X24 hx hZ hown (host := "") (Or.inl (hw _ (mi 181 rfl))) Via.refl e24 (W18q.fld (i := 0) rfl (j := 24) rfl rfl) (g := K25.g) rfl rfl (hD 62 rfl)
  have K27 : Rc K0 T26 (mkF m 263 #[sR r, sI 0, sR vv, sI (Int32.ofNat u), sR pp, sI 0, sI 1, sI (Int32.ofNat (u + 1)), sI 0, sR bk] [(kI (Int32.ofNat u)), (kI 0), (kR bk), (kI 0), (kR vv)]) := fun t k => K25 t (st26 t (XS.iloadN X26.here hx rfl (hD 63 rfl) rfl k))
  obtain ⟨T28, h28, L28, X28, e28, N28, W28q, st28⟩ := cpW X26 hx hZ hown (hw _ (mi 117 rfl)) (hw _ (mi 120 rfl)) (hw _ (mi 118 rfl)) (hw _ (mi 119 rfl)) e26 W18q N18 (i := 11) (j := 4) rfl rfl rfl (sp := (0 : Int32)) (dp := (0 : Int32)) (nn := (Int32.ofNat u)) (s' := 0) (d' := 0) (k' := u) (by decide) (by decide) (own_nn (by omega)) (by decide) (by decide) (own_tn (by omega)) (by omega) (by omega) (g := K27.g) rfl (by rw [hml]; rfl) (rest := []) rfl (hD 64 rfl) (by decide) (W0 := 0) (by show 2 * 0 + _ ≤ _; exact Nat.le_of_eq rfl) (by decide)
  have K29 : Rc K0 T28 (mkF m 272 #[sR r, sI 0, sR vv, sI (Int32.ofNat u), sR pp, sI 0, sI 1, sI (Int32.ofNat (u + 1)), sI 0, sR bk] [(kR r), (kR bk), (kI 0), (kR pp)]) := fun t k => K27 t (st28 t (by
    refine XS.aload X28.here hx rfl (hD 65 rfl) rfl rfl ?_
    refine XS.iconst X28.here hx rfl (hD 66 rfl) ?_
    refine XS.aload X28.here hx rfl (hD 67 rfl) rfl rfl ?_
    refine XS.aloadN X28.here hx rfl (hD 68 rfl) rfl rfl ?_
    exact k))
  obtain ⟨T30, X30, e30, st30⟩ := getF X28 hx hZ hown (host := "") (Or.inl (hw _ (mi 181 rfl))) Via.refl e28 (W28q.fld (i := 0) rfl (j := 24) rfl rfl) (g := K29.g) rfl rfl (hD 69 rfl)
  have K31 : Rc K0 T30 (mkF m 279 #[sR r, sI 0, sR vv, sI (Int32.ofNat u), sR pp, sI 0, sI 1, sI (Int32.ofNat (u + 1)), sI 0, sR bk] [(kI 1), (kI (Int32.ofNat u)), (kR bk), (kI 0), (kR pp)]) := fun t k => K29 t (st30 t (by
    refine XS.iloadN X30.here hx rfl (hD 70 rfl) rfl ?_
    refine XS.iadd X30.here hx rfl (hD 71 rfl) rfl ?_
    show Steps p.tables e below (T30.setTop (mkF m 277 #[sR r, sI 0, sR vv, sI (Int32.ofNat u), sR pp, sI 0, sI 1, sI (Int32.ofNat (u + 1)), sI 0, sR bk] [(kI ((0 : Int32) + (Int32.ofNat u))), (kR bk), (kI 0), (kR pp)])) _
    rw [Int32.zero_add]
    show Steps p.tables e below (T30.setTop (mkF m 277 #[sR r, sI 0, sR vv, sI (Int32.ofNat u), sR pp, sI 0, sI 1, sI (Int32.ofNat (u + 1)), sI 0, sR bk] [(kI (Int32.ofNat u)), (kR bk), (kI 0), (kR pp)])) _
    refine XS.iload X30.here hx rfl (hD 72 rfl) rfl ?_
    exact k))
  obtain ⟨T32, h32, L32, X32, e32, N32, W32q, st32⟩ := cpW X30 hx hZ hown (hw _ (mi 117 rfl)) (hw _ (mi 120 rfl)) (hw _ (mi 118 rfl)) (hw _ (mi 119 rfl)) e30 W28q N28 (i := 12) (j := 4) rfl rfl rfl (sp := (0 : Int32)) (dp := (Int32.ofNat u)) (nn := (1 : Int32)) (s' := 0) (d' := u) (k' := 1) (by decide) (own_nn (by omega)) (by decide) (by decide) (own_tn (by omega)) (by decide) (by omega) (by omega) (g := K31.g) rfl (by rw [hml]; rfl) (rest := []) rfl (hD 73 rfl) (by decide) (W0 := 0) (by show 2 * 0 + _ ≤ _; exact Nat.le_of_eq rfl) (by decide)
  have K33 : Rc K0 T32 (mkF m 283 #[sR r, sI 0, sR vv, sI (Int32.ofNat u), sR pp, sI 0, sI 1, sI (Int32.ofNat (u + 1)), sI 0, sR bk] [(kR r)]) := fun t k => K31 t (st32 t (XS.aloadN X32.here hx rfl (hD 74 rfl) rfl rfl k))
  obtain ⟨T34, X34, e34, st34⟩ := getF X32 hx hZ hown (host := "") (Or.inl (hw _ (mi 155 rfl))) Via.refl e32 (W32q.fld (i := 0) rfl (j := 17) rfl rfl) (g := K33.g) rfl rfl (hD 75 rfl)
  have K35 : Rc K0 T34 (mkF m 289 #[sR r, sI 0, sR vv, sI (Int32.ofNat u), sR pp, sI 0, sI 1, sI (Int32.ofNat (u + 1)), sI 0, sR bk] [(kI 0), (kI 0), (kR so)]) := fun t k => K33 t (st34 t (by
    refine XS.iload X34.here hx rfl (hD 76 rfl) rfl ?_
    refine XS.iloadN X34.here hx rfl (hD 77 rfl) rfl ?_
    exact k))
  obtain ⟨T36, h36, L36, X36, e36, N36, W36q, st36⟩ := iasW X34 hx hZ e34 W32q N32 (i := 6) (a := so) rfl (j := (0 : Int32)) (x := (0 : Int32)) (k := 0) (by decide) (by decide) (by decide) (g := K35.g) rfl rfl (hD 78 rfl)
  have W36 : Wo n0 h36 ((r, oR Z [(kR ks), (kR rgs), (kR ns), (kR fch), (kR fk), (kR kl), (kR frg), (kR fac), (kR fcm), (kR ftr), (kR acs), (kR cms), (kR sus), (kR prb), (kI 1), (kR lr), (kI 1), (kR so), (kR nr), (kR bo), (kR shf), (kR vcn), (kR bl), (kI 2), (kI 0)]) :: (ftr, Ar Z .int 17 g_ftr) :: (fch, Ar Z .int 17 g_fch) :: (bl, Pg Z .double 4 g_bl) :: (bk, Ar Z .double 64 (cpy g_pp (cpy g_vv g_bk 0 0 u) 0 u 1)) :: (lr, Ar Z .int 4 g_lr) :: (so, Ar Z .int 4 (upd g_so 0 (kI 0))) :: (nr, Ar Z .int 4 g_nr) :: (bo, Ar Z .int 4 g_bo) :: (shf, Ar Z .int 4 g_shf) :: (vcn, Ar Z .int 4 g_vcn) :: (vv, Ar Z .double 4 g_vv) :: (pp, Ar Z .double 4 g_pp) :: Rr) := W36q
  have K37 : Rc K0 T36 (mkF m 291 #[sR r, sI 0, sR vv, sI (Int32.ofNat u), sR pp, sI 0, sI 1, sI (Int32.ofNat (u + 1)), sI 0, sR bk] [(kR r)]) := fun t k => K35 t (st36 t (XS.aloadN X36.here hx rfl (hD 79 rfl) rfl rfl k))
  obtain ⟨T38, X38, e38, st38⟩ := getF X36 hx hZ hown (host := "") (Or.inl (hw _ (mi 157 rfl))) Via.refl e36 (W36.fld (i := 0) rfl (j := 18) rfl rfl) (g := K37.g) rfl rfl (hD 80 rfl)
  have K39 : Rc K0 T38 (mkF m 297 #[sR r, sI 0, sR vv, sI (Int32.ofNat u), sR pp, sI 0, sI 1, sI (Int32.ofNat (u + 1)), sI 0, sR bk] [(kR r), (kI 0), (kR nr)]) := fun t k => K37 t (st38 t (by
    refine XS.iload X38.here hx rfl (hD 81 rfl) rfl ?_
    refine XS.aloadN X38.here hx rfl (hD 82 rfl) rfl rfl ?_
    exact k))
  obtain ⟨T40, X40, e40, st40⟩ := getF X38 hx hZ hown (host := "") (Or.inl (hw _ (mi 107 rfl))) Via.refl e38 (W36.fld (i := 0) rfl (j := 15) rfl rfl) (g := K39.g) rfl rfl (hD 83 rfl)
  have K41 : Rc K0 T40 (mkF m 302 #[sR r, sI 0, sR vv, sI (Int32.ofNat u), sR pp, sI 0, sI 1, sI (Int32.ofNat (u + 1)), sI 0, sR bk] [(kI (-1)), (kI 0), (kR nr)]) := fun t k => K39 t (st40 t (by
    refine XS.iloadN X40.here hx rfl (hD 84 rfl) rfl ?_
    refine ialW X40 hx hZ e40 W36 (i := 5) rfl (j := (0 : Int32)) (k := 0) (by decide) (by decide) (by decide) (v := (.int (-1 : Int32))) h6 (g := (mkF m 301 #[sR r, sI 0, sR vv, sI (Int32.ofNat u), sR pp, sI 0, sI 1, sI (Int32.ofNat (u + 1)), sI 0, sR bk] [(kI 0), (kR lr), (kI 0), (kR nr)])) rfl rfl (hD 85 rfl) _ ?_
    exact k))
  obtain ⟨T42, h42, L42, X42, e42, N42, W42q, st42⟩ := iasW X40 hx hZ e40 W36 N36 (i := 7) (a := nr) rfl (j := (0 : Int32)) (x := (-1 : Int32)) (k := 0) (by decide) (by decide) (by decide) (g := K41.g) rfl rfl (hD 86 rfl)
  have K43 : Rc K0 T42 (mkF m 304 #[sR r, sI 0, sR vv, sI (Int32.ofNat u), sR pp, sI 0, sI 1, sI (Int32.ofNat (u + 1)), sI 0, sR bk] [(kR r)]) := fun t k => K41 t (st42 t (XS.aloadN X42.here hx rfl (hD 87 rfl) rfl rfl k))
  obtain ⟨T44, X44, e44, st44⟩ := getF X42 hx hZ hown (host := "") (Or.inl (hw _ (mi 107 rfl))) Via.refl e42 (W42q.fld (i := 0) rfl (j := 15) rfl rfl) (g := K43.g) rfl rfl (hD 88 rfl)
  have K45 : Rc K0 T44 (mkF m 310 #[sR r, sI 0, sR vv, sI (Int32.ofNat u), sR pp, sI 0, sI 1, sI (Int32.ofNat (u + 1)), sI 0, sR bk] [(kI 0), (kI 0), (kR lr)]) := fun t k => K43 t (st44 t (by
    refine XS.iloadN X44.here hx rfl (hD 89 rfl) rfl ?_
    refine XS.iload X44.here hx rfl (hD 90 rfl) rfl ?_
    exact k))
  obtain ⟨T46, h46, L46, X46, e46, N46, W46q, st46⟩ := iasW X44 hx hZ e44 W42q N42 (i := 5) (a := lr) rfl (j := (0 : Int32)) (x := (0 : Int32)) (k := 0) (by decide) (by decide) (by decide) (g := K45.g) rfl rfl (hD 91 rfl)
  have K47 : Rc K0 T46 (mkF m 312 #[sR r, sI 0, sR vv, sI (Int32.ofNat u), sR pp, sI 0, sI 1, sI (Int32.ofNat (u + 1)), sI 0, sR bk] [(kR r)]) := fun t k => K45 t (st46 t (XS.aloadN X46.here hx rfl (hD 92 rfl) rfl rfl k))
  obtain ⟨T48, X48, e48, st48⟩ := getF X46 hx hZ hown (host := "") (Or.inl (hw _ (mi 159 rfl))) Via.refl e46 (W46q.fld (i := 0) rfl (j := 19) rfl rfl) (g := K47.g) rfl rfl (hD 93 rfl)
  have K49 : Rc K0 T48 (mkF m 318 #[sR r, sI 0, sR vv, sI (Int32.ofNat u), sR pp, sI 0, sI 1, sI (Int32.ofNat (u + 1)), sI 0, sR bk] [(kR r), (kI 0), (kR bo)]) := fun t k => K47 t (st48 t (by
    refine XS.iload X48.here hx rfl (hD 94 rfl) rfl ?_
    refine XS.aloadN X48.here hx rfl (hD 95 rfl) rfl rfl ?_
    exact k))
  obtain ⟨T50, X50, e50, st50⟩ := getF X48 hx hZ hown (host := "") (Or.inl (hw _ (mi 170 rfl))) Via.refl e48 (W46q.fld (i := 0) rfl (j := 23) rfl rfl) (g := K49.g) rfl rfl (hD 96 rfl)
  have K51 : Rc K0 T50 (mkF m 323 #[sR r, sI 0, sR vv, sI (Int32.ofNat u), sR pp, sI 0, sI 1, sI (Int32.ofNat (u + 1)), sI 0, sR bk] [(kI 1), (kI 0), (kR bo)]) := fun t k => K49 t (st50 t (by
    refine XS.iconst X50.here hx rfl (hD 97 rfl) ?_
    refine XS.isub X50.here hx rfl (hD 98 rfl) rfl ?_
    exact k))
  obtain ⟨T52, h52, L52, X52, e52, N52, W52q, st52⟩ := iasW X50 hx hZ e50 W46q N46 (i := 8) (a := bo) rfl (j := (0 : Int32)) (x := (1 : Int32)) (k := 0) (by decide) (by decide) (by decide) (g := K51.g) rfl rfl (hD 99 rfl)
  have K53 : Rc K0 T52 (mkF m 325 #[sR r, sI 0, sR vv, sI (Int32.ofNat u), sR pp, sI 0, sI 1, sI (Int32.ofNat (u + 1)), sI 0, sR bk] [(kR r)]) := fun t k => K51 t (st52 t (XS.aloadN X52.here hx rfl (hD 100 rfl) rfl rfl k))
  obtain ⟨T54, X54, e54, st54⟩ := getF X52 hx hZ hown (host := "") (Or.inl (hw _ (mi 161 rfl))) Via.refl e52 (W52q.fld (i := 0) rfl (j := 20) rfl rfl) (g := K53.g) rfl rfl (hD 101 rfl)
  have K55 : Rc K0 T54 (mkF m 331 #[sR r, sI 0, sR vv, sI (Int32.ofNat u), sR pp, sI 0, sI 1, sI (Int32.ofNat (u + 1)), sI 0, sR bk] [(kR r), (kI 0), (kR shf)]) := fun t k => K53 t (st54 t (by
    refine XS.iload X54.here hx rfl (hD 102 rfl) rfl ?_
    refine XS.aloadN X54.here hx rfl (hD 103 rfl) rfl rfl ?_
    exact k))
  obtain ⟨T56, X56, e56, st56⟩ := getF X54 hx hZ hown (host := "") (Or.inl (hw _ (mi 181 rfl))) Via.refl e54 (W52q.fld (i := 0) rfl (j := 24) rfl rfl) (g := K55.g) rfl rfl (hD 104 rfl)
  have K57 : Rc K0 T56 (mkF m 339 #[sR r, sI 0, sR vv, sI (Int32.ofNat u), sR pp, sI 0, sI 1, sI (Int32.ofNat (u + 1)), sI 0, sR bk] [(kI ((Int32.ofNat u) - (0 : Int32))), (kI 0), (kR shf)]) := fun t k => K55 t (st56 t (by
    refine XS.iloadN X56.here hx rfl (hD 105 rfl) rfl ?_
    refine XS.iadd X56.here hx rfl (hD 106 rfl) rfl ?_
    show Steps p.tables e below (T56.setTop (mkF m 336 #[sR r, sI 0, sR vv, sI (Int32.ofNat u), sR pp, sI 0, sI 1, sI (Int32.ofNat (u + 1)), sI 0, sR bk] [(kI ((0 : Int32) + (Int32.ofNat u))), (kI 0), (kR shf)])) _
    rw [Int32.zero_add]
    show Steps p.tables e below (T56.setTop (mkF m 336 #[sR r, sI 0, sR vv, sI (Int32.ofNat u), sR pp, sI 0, sI 1, sI (Int32.ofNat (u + 1)), sI 0, sR bk] [(kI (Int32.ofNat u)), (kI 0), (kR shf)])) _
    refine XS.iload X56.here hx rfl (hD 107 rfl) rfl ?_
    refine XS.isub X56.here hx rfl (hD 108 rfl) rfl ?_
    exact k))
  obtain ⟨T58, h58, L58, X58, e58, N58, W58q, st58⟩ := iasW X56 hx hZ e56 W52q N52 (i := 9) (a := shf) rfl (j := (0 : Int32)) (x := ((Int32.ofNat u) - (0 : Int32))) (k := 0) (by decide) (by decide) (by decide) (g := K57.g) rfl rfl (hD 109 rfl)
  have W58 : Wo n0 h58 ((r, oR Z [(kR ks), (kR rgs), (kR ns), (kR fch), (kR fk), (kR kl), (kR frg), (kR fac), (kR fcm), (kR ftr), (kR acs), (kR cms), (kR sus), (kR prb), (kI 1), (kR lr), (kI 1), (kR so), (kR nr), (kR bo), (kR shf), (kR vcn), (kR bl), (kI 2), (kI 0)]) :: (ftr, Ar Z .int 17 g_ftr) :: (fch, Ar Z .int 17 g_fch) :: (bl, Pg Z .double 4 g_bl) :: (bk, Ar Z .double 64 (cpy g_pp (cpy g_vv g_bk 0 0 u) 0 u 1)) :: (lr, Ar Z .int 4 (upd g_lr 0 (kI 0))) :: (so, Ar Z .int 4 (upd g_so 0 (kI 0))) :: (nr, Ar Z .int 4 (upd g_nr 0 (kI (-1)))) :: (bo, Ar Z .int 4 (upd g_bo 0 (kI 1))) :: (shf, Ar Z .int 4 (upd g_shf 0 (kI ((Int32.ofNat u) - (0 : Int32))))) :: (vcn, Ar Z .int 4 g_vcn) :: (vv, Ar Z .double 4 g_vv) :: (pp, Ar Z .double 4 g_pp) :: Rr) := W58q
  have K59 : Rc K0 T58 (mkF m 341 #[sR r, sI 0, sR vv, sI (Int32.ofNat u), sR pp, sI 0, sI 1, sI (Int32.ofNat (u + 1)), sI 0, sR bk] [(kR r)]) := fun t k => K57 t (st58 t (XS.aloadN X58.here hx rfl (hD 110 rfl) rfl rfl k))
  obtain ⟨T60, X60, e60, st60⟩ := getF X58 hx hZ hown (host := "") (Or.inl (hw _ (mi 163 rfl))) Via.refl e58 (W58.fld (i := 0) rfl (j := 21) rfl rfl) (g := K59.g) rfl rfl (hD 111 rfl)
  have K61 : Rc K0 T60 (mkF m 347 #[sR r, sI 0, sR vv, sI (Int32.ofNat u), sR pp, sI 0, sI 1, sI (Int32.ofNat (u + 1)), sI 0, sR bk] [(kI (Int32.ofNat u)), (kI 0), (kR vcn)]) := fun t k => K59 t (st60 t (by
    refine XS.iload X60.here hx rfl (hD 112 rfl) rfl ?_
    refine XS.iloadN X60.here hx rfl (hD 113 rfl) rfl ?_
    exact k))
  obtain ⟨T62, h62, L62, X62, e62, N62, W62q, st62⟩ := iasW X60 hx hZ e60 W58 N58 (i := 10) (a := vcn) rfl (j := (0 : Int32)) (x := (Int32.ofNat u)) (k := 0) (by decide) (by decide) (by decide) (g := K61.g) rfl rfl (hD 114 rfl)
  have K63 : Rc K0 T62 (mkF m 350 #[sR r, sI 0, sR vv, sI (Int32.ofNat u), sR pp, sI 0, sI 1, sI (Int32.ofNat (u + 1)), sI 0, sR bk] [(kR r), (kR r)]) := fun t k => K61 t (st62 t (by
    refine XS.aloadN X62.here hx rfl (hD 115 rfl) rfl rfl ?_
    refine XS.dup X62.here hx rfl (hD 116 rfl) rfl rfl ?_
    exact k))
  obtain ⟨T64, X64, e64, st64⟩ := getF X62 hx hZ hown (host := "") (Or.inl (hw _ (mi 181 rfl))) Via.refl e62 (W62q.fld (i := 0) rfl (j := 24) rfl rfl) (g := K63.g) rfl rfl (hD 117 rfl)
  have K65 : Rc K0 T64 (mkF m 356 #[sR r, sI 0, sR vv, sI (Int32.ofNat u), sR pp, sI 0, sI 1, sI (Int32.ofNat (u + 1)), sI 0, sR bk] [(kI (Int32.ofNat (u + 1))), (kR r)]) := fun t k => K63 t (st64 t (by
    refine XS.iload X64.here hx rfl (hD 118 rfl) rfl ?_
    refine XS.iadd X64.here hx rfl (hD 119 rfl) rfl ?_
    show Steps p.tables e below (T64.setTop (mkF m 356 #[sR r, sI 0, sR vv, sI (Int32.ofNat u), sR pp, sI 0, sI 1, sI (Int32.ofNat (u + 1)), sI 0, sR bk] [(kI ((0 : Int32) + (Int32.ofNat (u + 1)))), (kR r)])) _
    rw [Int32.zero_add]
    exact k))
  obtain ⟨T66, h66, L66, X66, e66, N66, W66q, st66⟩ := putW X64 hx hZ hown (host := "") (Or.inl (hw _ (mi 181 rfl))) e64 W62q N62 (own_dR hw) (Or.inl (hw _ (mi 182 rfl))) (hw _ (mi 8 rfl)) (ty := .int) (by decide +kernel) (i := 0) (a := r) rfl (j := 24) rfl rfl (v := (.int (Int32.ofNat (u + 1)))) rfl rfl (g := K65.g) rfl rfl (hD 120 rfl)
  have K67 : Rc K0 T66 (mkF m 361 #[sR r, sI 0, sR vv, sI (Int32.ofNat u), sR pp, sI 0, sI 1, sI (Int32.ofNat (u + 1)), sI 0, sR bk] [(kI 0)]) := fun t k => K65 t (st66 t (XS.iload X66.here hx rfl (hD 121 rfl) rfl k))
  obtain ⟨fs, hr, hrun, hended, hWm, hsame⟩ := X66.leave (v := some (.int (0 : Int32))) (fun h => by rw [Bd.returns] at h; cases h)
  refine ⟨_, _, pre0 _ (K67 _ (retI X66 hx Bd.returns (hD 122 rfl) hr)), hrun, hended, _, _, rfl, ?_, ⟨_, rfl⟩, hWm, hsame.mono (by decide) (by decide)⟩
  show QrmPL00 Z r ks rgs ns fch fk kl frg fac fcm ftr acs cms sus prb lr so nr bo shf vcn bl bk vv pp u g_ftr g_fch g_bl g_bk g_lr g_so g_nr g_bo g_shf g_vcn g_vv g_pp Rr n0 _ T66.heap _
  rw [e66]
  exact ⟨rfl, N66, W66q⟩
theorem ef_rmPL11 (m : MethodId) (r ks rgs ns fch fk kl frg fac fcm ftr acs cms sus prb : Addr) (lr so nr bo shf vcn bl bk vv pp : Addr) (u : Nat) (g_ftr g_fch g_bl g_bk g_lr g_so g_nr g_bo g_shf g_vcn g_vv g_pp : Nat → Value) : entryFrame m #[(.ref r), (.int (1 : Int32)), (.ref vv), (.int (Int32.ofNat u)), (.ref pp)] 10 = mkF m 0 #[.val (.ref r), .val (.int (1 : Int32)), .val (.ref vv), .val (.int (Int32.ofNat u)), .val (.ref pp), .unset, .unset, .unset, .unset, .unset] [] := by first | (simp [entryFrame, mkF, argsToLocals, Value.category]; done) | rfl
def QrmPL11 (Z : State) (r ks rgs ns fch fk kl frg fac fcm ftr acs cms sus prb : Addr) (lr so nr bo shf vcn bl bk vv pp : Addr) (u : Nat) (g_ftr g_fch g_bl g_bk g_lr g_so g_nr g_bo g_shf g_vcn g_vv g_pp : Nat → Value) (Rr : List (Addr × (Cell → Prop))) (n0 : Nat) (v : Option Value) (h : Heap) (L : List Loc) : Prop := v = some (.int (1 : Int32)) ∧ Fr n0 L ∧ Wo n0 h ((r, oR Z [(kR ks), (kR rgs), (kR ns), (kR fch), (kR fk), (kR kl), (kR frg), (kR fac), (kR fcm), (kR ftr), (kR acs), (kR cms), (kR sus), (kR prb), (kI 2), (kR lr), (kI 2), (kR so), (kR nr), (kR bo), (kR shf), (kR vcn), (kR bl), (kI 2), (kI (Int32.ofNat (u + 1)))]) :: (ftr, Ar Z .int 17 g_ftr) :: (fch, Ar Z .int 17 g_fch) :: (bl, Pg Z .double 4 g_bl) :: (bk, Ar Z .double 64 (cpy g_pp (cpy g_vv g_bk 0 0 u) 0 u 1)) :: (lr, Ar Z .int 4 (upd g_lr 1 (kI 1))) :: (so, Ar Z .int 4 (upd g_so 1 (kI 1))) :: (nr, Ar Z .int 4 (upd g_nr 1 (kI (-1)))) :: (bo, Ar Z .int 4 (upd g_bo 1 (kI 1))) :: (shf, Ar Z .int 4 (upd g_shf 1 (kI ((Int32.ofNat u) - (1 : Int32))))) :: (vcn, Ar Z .int 4 (upd g_vcn 1 (kI (Int32.ofNat u)))) :: (vv, Ar Z .double 4 g_vv) :: (pp, Ar Z .double 4 g_pp) :: Rr)
set_option maxRecDepth 65536 in
set_option maxHeartbeats 40000000 in
theorem rmPL11 (l : Launch) (Z : State) (a0 : Array Value) (hw : ∀ d ∈ tables_1, d.before a0 Z = true) (ws : List Jvm.Cond) (r ks rgs ns fch fk kl frg fac fcm ftr acs cms sus prb : Addr) (lr so nr bo shf vcn bl bk vv pp : Addr) (u : Nat) (g_ftr g_fch g_bl g_bk g_lr g_so g_nr g_bo g_shf g_vcn g_vv g_pp : Nat → Value) (Rr : List (Addr × (Cell → Prop))) (h0 : Heap) (n0 : Nat) (W0 : Wo n0 h0 ((r, oR Z [(kR ks), (kR rgs), (kR ns), (kR fch), (kR fk), (kR kl), (kR frg), (kR fac), (kR fcm), (kR ftr), (kR acs), (kR cms), (kR sus), (kR prb), (kI 2), (kR lr), (kI 1), (kR so), (kR nr), (kR bo), (kR shf), (kR vcn), (kR bl), (kI 2), (kI 0)]) :: (ftr, Ar Z .int 17 g_ftr) :: (fch, Ar Z .int 17 g_fch) :: (bl, Pg Z .double 4 g_bl) :: (bk, Ar Z .double 64 g_bk) :: (lr, Ar Z .int 4 g_lr) :: (so, Ar Z .int 4 g_so) :: (nr, Ar Z .int 4 g_nr) :: (bo, Ar Z .int 4 g_bo) :: (shf, Ar Z .int 4 g_shf) :: (vcn, Ar Z .int 4 g_vcn) :: (vv, Ar Z .double 4 g_vv) :: (pp, Ar Z .double 4 g_pp) :: Rr)) (hu1 : 1 ≤ u) (hu4 : u ≤ 4) (h1 : g_ftr 1 = .int 1) (h2 : g_ftr 2 = .int 2) (h3 : g_fch 1 = .int 1) (h4 : g_fch 2 = .int 2) (h5 : g_bl 1 = .ref bk) (h6 : g_lr 1 = .int (-1 : Int32)) :
    MetFree l y_pl (head1 (Jvm.Cond.code y_pl prog_87_method_5_code 10 (some .int) :: ws) ({ frames := 1, cells := 0, slots := 0, locals := 18 } : Room)) (fun aa U => aa = #[(.ref r), (.int (1 : Int32)), (.ref vv), (.int (Int32.ofNat u)), (.ref pp)] ∧ Z.Warmed39 U.vm ∧ U.heap = h0) (fun _ _ _ _ _ => True) (fun _ U ou U' => ∃ v L, ou = .returned v ∧ QrmPL11 Z r ks rgs ns fch fk kl frg fac fcm ftr acs cms sus prb lr so nr bo shf vcn bl bk vv pp u g_ftr g_fch g_bl g_bk g_lr g_so g_nr g_bo g_shf g_vcn g_vv g_pp Rr n0 v U'.heap L ∧ FrameEnd U ou U' L ({ frames := 1, cells := 0, slots := 0, locals := 18 } : Room).cells ({ frames := 1, cells := 0, slots := 0, locals := 18 } : Room).slots) := by
  refine MetFree.of_bodySF (plainFor_of_name pn_Rows) hisR ?_
  intro p e s m args below meth c s₁ Bd hml0 hP hK
  obtain ⟨rfl, hZ, hh⟩ := hP
  have hx := Bd.exec
  have hby := Bd.bytes
  have hml : c.maxLocals = 10 := hml0
  have hD : ∀ (k : Nat) {pc : Nat} {i : Instr} {n : Nat}, Ld_pl[k]? = some (pc, i, n) → decode c.code pc = .ok (i, n) := by intro k pc i n h; exact hb hby (d_pl (pc, i, n) (mi k h))
  have hown : s.vm.findClass "com/example/sambre/sambre/engine/Rows" = some m.cls := findClass_of_methodNamed Bd.named
  have hnm := (name_of_methodNamed Bd.named Bd.method).1
  have X0 : Stand p l e ({ frames := 1, cells := 0, slots := 0, locals := 18 } : Room) s m #[(.ref r), (.int (1 : Int32)), (.ref vv), (.int (Int32.ofNat u)), (.ref pp)] below meth c s₁ [] 0 0 := Stand.of_body Bd
  have e0 : s₁.heap = h0 := by rw [← hh, Bd.state]; rfl
  have N0 := Fr.nil n0
  obtain ⟨F0, hF0⟩ : ∃ F, F = mkF m 0 #[.val (.ref r), .val (.int (1 : Int32)), .val (.ref vv), .val (.int (Int32.ofNat u)), .val (.ref pp), .unset, .unset, .unset, .unset, .unset] [] := ⟨_, rfl⟩
  have pre0 : ∀ t, Steps p.tables e below (s₁.setTop F0) t → Steps p.tables e below (s₁.setTop (entryFrame m #[(.ref r), (.int (1 : Int32)), (.ref vv), (.int (Int32.ofNat u)), (.ref pp)] 10)) t := fun t k => castTop ((ef_rmPL11 m r ks rgs ns fch fk kl frg fac fcm ftr acs cms sus prb lr so nr bo shf vcn bl bk vv pp u g_ftr g_fch g_bl g_bk g_lr g_so g_nr g_bo g_shf g_vcn g_vv g_pp).trans hF0.symm) k
  have K0 : Rch p e below s₁ F0 s₁ (mkF m 0 #[.val (.ref r), .val (.int (1 : Int32)), .val (.ref vv), .val (.int (Int32.ofNat u)), .val (.ref pp), .unset, .unset, .unset, .unset, .unset] []) := fun t k => castTop hF0 k
  have K1 : Rc K0 s₁ (mkF m 1 #[sR r, sI 1, sR vv, sI (Int32.ofNat u), sR pp, sU, sU, sU, sU, sU] [(kR r)]) := fun t k => K0 t (XS.aloadN X0.here hx rfl (hD 0 rfl) rfl rfl k)
  obtain ⟨T2, X2, e2, st2⟩ := getF X0 hx hZ hown (host := "") (Or.inl (hw _ (mi 34 rfl))) Via.refl e0 (W0.fld (i := 0) rfl (j := 9) rfl rfl) (g := K1.g) rfl rfl (hD 1 rfl)
  have K3 : Rc K0 T2 (mkF m 5 #[sR r, sI 1, sR vv, sI (Int32.ofNat u), sR pp, sU, sU, sU, sU, sU] [(kR r), (kR ftr)]) := fun t k => K1 t (st2 t (XS.aloadN X2.here hx rfl (hD 2 rfl) rfl rfl k))
  obtain ⟨T4, X4, e4, st4⟩ := getF X2 hx hZ hown (host := "") (Or.inl (hw _ (mi 22 rfl))) Via.refl e2 (W0.fld (i := 0) rfl (j := 3) rfl rfl) (g := K3.g) rfl rfl (hD 3 rfl)
  have K5 : Rc K0 T4 (mkF m 14 #[sR r, sI 1, sR vv, sI (Int32.ofNat u), sR pp, sI 1, sU, sU, sU, sU] [(kR r)]) := fun t k => K3 t (st4 t (by
    refine XS.iloadN X4.here hx rfl (hD 4 rfl) rfl ?_
    refine ialW X4 hx hZ e4 W0 (i := 2) rfl (j := (1 : Int32)) (k := 1) (by decide) (by decide) (by decide) (v := (.int (1 : Int32))) h3 (g := (mkF m 9 #[sR r, sI 1, sR vv, sI (Int32.ofNat u), sR pp, sU, sU, sU, sU, sU] [(kI 1), (kR fch), (kR ftr)])) rfl rfl (hD 5 rfl) _ ?_
    refine ialW X4 hx hZ e4 W0 (i := 1) rfl (j := (1 : Int32)) (k := 1) (by decide) (by decide) (by decide) (v := (.int (1 : Int32))) h1 (g := (mkF m 10 #[sR r, sI 1, sR vv, sI (Int32.ofNat u), sR pp, sU, sU, sU, sU, sU] [(kI 1), (kR ftr)])) rfl rfl (hD 6 rfl) _ ?_
    refine XS.istore X4.here hx rfl (hD 7 rfl) rfl (l' := #[sR r, sI 1, sR vv, sI (Int32.ofNat u), sR pp, sI 1, sU, sU, sU, sU]) rfl ?_
    refine XS.aloadN X4.here hx rfl (hD 8 rfl) rfl rfl ?_
    exact k))
  obtain ⟨T6, X6, e6, st6⟩ := getF X4 hx hZ hown (host := "") (Or.inl (hw _ (mi 34 rfl))) Via.refl e4 (W0.fld (i := 0) rfl (j := 9) rfl rfl) (g := K5.g) rfl rfl (hD 9 rfl)
  have K7 : Rc K0 T6 (mkF m 18 #[sR r, sI 1, sR vv, sI (Int32.ofNat u), sR pp, sI 1, sU, sU, sU, sU] [(kR r), (kR ftr)]) := fun t k => K5 t (st6 t (XS.aloadN X6.here hx rfl (hD 10 rfl) rfl rfl k))
  obtain ⟨T8, X8, e8, st8⟩ := getF X6 hx hZ hown (host := "") (Or.inl (hw _ (mi 22 rfl))) Via.refl e6 (W0.fld (i := 0) rfl (j := 3) rfl rfl) (g := K7.g) rfl rfl (hD 11 rfl)
  have K9 : Rc K0 T8 (mkF m 38 #[sR r, sI 1, sR vv, sI (Int32.ofNat u), sR pp, sI 1, sI 1, sI (Int32.ofNat (u + 1)), sU, sU] [(kR r)]) := fun t k => K7 t (st8 t (by
    refine XS.iloadN X8.here hx rfl (hD 12 rfl) rfl ?_
    refine XS.iconst X8.here hx rfl (hD 13 rfl) ?_
    refine XS.iadd X8.here hx rfl (hD 14 rfl) rfl ?_
    refine ialW X8 hx hZ e8 W0 (i := 2) rfl (j := (2 : Int32)) (k := 2) (by decide) (by decide) (by decide) (v := (.int (2 : Int32))) h4 (g := (mkF m 24 #[sR r, sI 1, sR vv, sI (Int32.ofNat u), sR pp, sI 1, sU, sU, sU, sU] [(kI 2), (kR fch), (kR ftr)])) rfl rfl (hD 15 rfl) _ ?_
    refine ialW X8 hx hZ e8 W0 (i := 1) rfl (j := (2 : Int32)) (k := 2) (by decide) (by decide) (by decide) (v := (.int (2 : Int32))) h2 (g := (mkF m 25 #[sR r, sI 1, sR vv, sI (Int32.ofNat u), sR pp, sI 1, sU, sU, sU, sU] [(kI 2), (kR ftr)])) rfl rfl (hD 16 rfl) _ ?_
    refine XS.iload X8.here hx rfl (hD 17 rfl) rfl ?_
    refine XS.isub X8.here hx rfl (hD 18 rfl) rfl ?_
    refine XS.istore X8.here hx rfl (hD 19 rfl) rfl (l' := #[sR r, sI 1, sR vv, sI (Int32.ofNat u), sR pp, sI 1, sI 1, sU, sU, sU]) rfl ?_
    refine XS.iloadN X8.here hx rfl (hD 20 rfl) rfl ?_
    refine XS.iload X8.here hx rfl (hD 21 rfl) rfl ?_
    refine XS.iadd X8.here hx rfl (hD 22 rfl) rfl ?_
    show Steps p.tables e below (T8.setTop (mkF m 35 #[sR r, sI 1, sR vv, sI (Int32.ofNat u), sR pp, sI 1, sI 1, sU, sU, sU] [(kI ((Int32.ofNat u) + (1 : Int32)))])) _
    rw [show (Int32.ofNat u) + (1 : Int32) = (Int32.ofNat (u + 1)) from own_add u 1]
    show Steps p.tables e below (T8.setTop (mkF m 35 #[sR r, sI 1, sR vv, sI (Int32.ofNat u), sR pp, sI 1, sI 1, sU, sU, sU] [(kI (Int32.ofNat (u + 1)))])) _
    refine XS.istore X8.here hx rfl (hD 23 rfl) rfl (l' := #[sR r, sI 1, sR vv, sI (Int32.ofNat u), sR pp, sI 1, sI 1, sI (Int32.ofNat (u + 1)), sU, sU]) rfl ?_
    refine XS.aloadN X8.here hx rfl (hD 24 rfl) rfl rfl ?_
    exact k))
  obtain ⟨T10, X10, e10, st10⟩ := getF X8 hx hZ hown (host := "") (Or.inl (hw _ (mi 181 rfl))) Via.refl e8 (W0.fld (i := 0) rfl (j := 24) rfl rfl) (g := K9.g) rfl rfl (hD 25 rfl)
  have K11 : Rc K0 T10 (mkF m 45 #[sR r, sI 1, sR vv, sI (Int32.ofNat u), sR pp, sI 1, sI 1, sI (Int32.ofNat (u + 1)), sU, sU] [(kR r), (kI (Int32.ofNat (u + 1)))]) := fun t k => K9 t (st10 t (by
    refine XS.iload X10.here hx rfl (hD 26 rfl) rfl ?_
    refine XS.iadd X10.here hx rfl (hD 27 rfl) rfl ?_
    show Steps p.tables e below (T10.setTop (mkF m 44 #[sR r, sI 1, sR vv, sI (Int32.ofNat u), sR pp, sI 1, sI 1, sI (Int32.ofNat (u + 1)), sU, sU] [(kI ((0 : Int32) + (Int32.ofNat (u + 1))))])) _
    rw [Int32.zero_add]
    show Steps p.tables e below (T10.setTop (mkF m 44 #[sR r, sI 1, sR vv, sI (Int32.ofNat u), sR pp, sI 1, sI 1, sI (Int32.ofNat (u + 1)), sU, sU] [(kI (Int32.ofNat (u + 1)))])) _
    refine XS.aloadN X10.here hx rfl (hD 28 rfl) rfl rfl ?_
    exact k))
  obtain ⟨T12, X12, e12, st12⟩ := getF X10 hx hZ hown (host := "") (Or.inl (hw _ (mi 167 rfl))) Via.refl e10 (W0.fld (i := 0) rfl (j := 22) rfl rfl) (g := K11.g) rfl rfl (hD 29 rfl)
  have K13 : Rc K0 T12 (mkF m 49 #[sR r, sI 1, sR vv, sI (Int32.ofNat u), sR pp, sI 1, sI 1, sI (Int32.ofNat (u + 1)), sU, sU] [(kR r), (kR bl), (kI (Int32.ofNat (u + 1)))]) := fun t k => K11 t (st12 t (XS.aloadN X12.here hx rfl (hD 30 rfl) rfl rfl k))
  obtain ⟨T14, X14, e14, st14⟩ := getF X12 hx hZ hown (host := "") (Or.inl (hw _ (mi 170 rfl))) Via.refl e12 (W0.fld (i := 0) rfl (j := 23) rfl rfl) (g := K13.g) rfl rfl (hD 31 rfl)
  have K15 : Rc K0 T14 (mkF m 145 #[sR r, sI 1, sR vv, sI (Int32.ofNat u), sR pp, sI 1, sI 1, sI (Int32.ofNat (u + 1)), sU, sU] [(kR r), (kR r)]) := fun t k => K13 t (st14 t (by
    refine XS.iconst X14.here hx rfl (hD 32 rfl) ?_
    refine XS.isub X14.here hx rfl (hD 33 rfl) rfl ?_
    refine aalW X14 hx hZ e14 W0 (i := 3) rfl (fun _ q => q.1) rfl (j := (1 : Int32)) (k := 1) (by decide) (by decide) (by decide) (v := (.ref bk)) h5 (g := (mkF m 54 #[sR r, sI 1, sR vv, sI (Int32.ofNat u), sR pp, sI 1, sI 1, sI (Int32.ofNat (u + 1)), sU, sU] [(kI 1), (kR bl), (kI (Int32.ofNat (u + 1)))])) rfl rfl (hD 34 rfl) _ ?_
    refine lenW X14 hx hZ e14 W0 (i := 4) rfl (fun _ q => q) (z := (64 : Int32)) (by decide) (g := (mkF m 55 #[sR r, sI 1, sR vv, sI (Int32.ofNat u), sR pp, sI 1, sI 1, sI (Int32.ofNat (u + 1)), sU, sU] [(kR bk), (kI (Int32.ofNat (u + 1)))])) rfl rfl (hD 35 rfl) _ ?_
    refine XS.icmpYes X14.here hx rfl (pc0 := 56) (pc' := 143) rfl (hD 36 rfl) rfl (flt (own_nlt (a := 64) (b := u + 1) (by omega) (by decide))).2.2.2 (by decide) (by decide) ?_
    refine XS.aloadN X14.here hx rfl (hD 37 rfl) rfl rfl ?_
    refine XS.dup X14.here hx rfl (hD 38 rfl) rfl rfl ?_
    exact k))
  obtain ⟨T16, X16, e16, st16⟩ := getF X14 hx hZ hown (host := "") (Or.inl (hw _ (mi 127 rfl))) Via.refl e14 (W0.fld (i := 0) rfl (j := 16) rfl rfl) (g := K15.g) rfl rfl (hD 39 rfl)
  have K17 : Rc K0 T16 (mkF m 151 #[sR r, sI 1, sR vv, sI (Int32.ofNat u), sR pp, sI 1, sI 1, sI (Int32.ofNat (u + 1)), sU, sU] [(kI 2), (kR r), (kI 1)]) := fun t k => K15 t (st16 t (by
    refine XS.dupX1 X16.here hx rfl (hD 40 rfl) rfl rfl rfl ?_
    refine XS.iconst X16.here hx rfl (hD 41 rfl) ?_
    refine XS.iadd X16.here hx rfl (hD 42 rfl) rfl ?_
    exact k))
  obtain ⟨T18, h18, L18, X18, e18, N18, W18q, st18⟩ := putW X16 hx hZ hown (host := "") (Or.inl (hw _ (mi 127 rfl))) e16 W0 N0 (own_dR hw) (Or.inl (hw _ (mi 128 rfl))) (hw _ (mi 8 rfl)) (ty := .int) (by decide +kernel) (i := 0) (a := r) rfl (j := 16) rfl rfl (v := (.int (2 : Int32))) rfl rfl (g := K17.g) rfl rfl (hD 43 rfl)
  have K19 : Rc K0 T18 (mkF m 159 #[sR r, sI 1, sR vv, sI (Int32.ofNat u), sR pp, sI 1, sI 1, sI (Int32.ofNat (u + 1)), sI 1, sU] [(kR r), (kI 1)]) := fun t k => K17 t (st18 t (by
    refine XS.istore X18.here hx rfl (hD 44 rfl) rfl (l' := #[sR r, sI 1, sR vv, sI (Int32.ofNat u), sR pp, sI 1, sI 1, sI (Int32.ofNat (u + 1)), sI 1, sU]) rfl ?_
    refine XS.iload X18.here hx rfl (hD 45 rfl) rfl ?_
    refine XS.aloadN X18.here hx rfl (hD 46 rfl) rfl rfl ?_
    exact k))
  obtain ⟨T20, X20, e20, st20⟩ := getF X18 hx hZ hown (host := "") (Or.inl (hw _ (mi 155 rfl))) Via.refl e18 (W18q.fld (i := 0) rfl (j := 17) rfl rfl) (g := K19.g) rfl rfl (hD 47 rfl)
  have K21 : Rc K0 T20 (mkF m 242 #[sR r, sI 1, sR vv, sI (Int32.ofNat u), sR pp, sI 1, sI 1, sI (Int32.ofNat (u + 1)), sI 1, sU] [(kR r)]) := fun t k => K19 t (st20 t (by
    refine lenW X20 hx hZ e20 W18q (i := 6) rfl (fun _ q => q) (z := (4 : Int32)) (by decide) (g := (mkF m 162 #[sR r, sI 1, sR vv, sI (Int32.ofNat u), sR pp, sI 1, sI 1, sI (Int32.ofNat (u + 1)), sI 1, sU] [(kR so), (kI 1)])) rfl rfl (hD 48 rfl) _ ?_
    refine XS.icmpYes X20.here hx rfl (pc0 := 163) (pc' := 241) rfl (hD 49 rfl) rfl (by decide) (by decide) (by decide) ?_
    refine XS.aloadN X20.here hx rfl (hD 50 rfl) rfl rfl ?_
    exact k))
  obtain ⟨T22, X22, e22, st22⟩ := getF X20 hx hZ hown (host := "") (Or.inl (hw _ (mi 167 rfl))) Via.refl e20 (W18q.fld (i := 0) rfl (j := 22) rfl rfl) (g := K21.g) rfl rfl (hD 51 rfl)
  have K23 : Rc K0 T22 (mkF m 246 #[sR r, sI 1, sR vv, sI (Int32.ofNat u), sR pp, sI 1, sI 1, sI (Int32.ofNat (u + 1)), sI 1, sU] [(kR r), (kR bl)]) := fun t k => K21 t (st22 t (XS.aloadN X22.here hx rfl (hD 52 rfl) rfl rfl k))
  obtain ⟨T24, X24, e24, st24⟩ := getF X22 hx hZ hown (host := "") (Or.inl (hw _ (mi 170 rfl))) Via.refl e22 (W18q.fld (i := 0) rfl (j := 23) rfl rfl) (g := K23.g) rfl rfl (hD 53 rfl)
  have K25 : Rc K0 T24 (mkF m 259 #[sR r, sI 1, sR vv, sI (Int32.ofNat u), sR pp, sI 1, sI 1, sI (Int32.ofNat (u + 1)), sI 1, sR bk] [(kR r), (kR bk), (kI 0), (kR vv)]) := fun t k => K23 t (st24 t (by
    refine XS.iconst X24.here hx rfl (hD 54 rfl) ?_
    refine XS.isub X24.here hx rfl (hD 55 rfl) rfl ?_
    refine aalW X24 hx hZ e24 W18q (i := 3) rfl (fun _ q => q.1) rfl (j := (1 : Int32)) (k := 1) (by decide) (by decide) (by decide) (v := (.ref bk)) h5 (g := (mkF m 251 #[sR r, sI 1, sR vv, sI (Int32.ofNat u), sR pp, sI 1, sI 1, sI (Int32.ofNat (u + 1)), sI 1, sU] [(kI 1), (kR bl)])) rfl rfl (hD 56 rfl) _ ?_
    refine XS.astore X24.here hx rfl (hD 57 rfl) rfl rfl (l' := #[sR r, sI 1, sR vv, sI (Int32.ofNat u), sR pp, sI 1, sI 1, sI (Int32.ofNat (u + 1)), sI 1, sR bk]) rfl ?_
    refine XS.aloadN X24.here hx rfl (hD 58 rfl) rfl rfl ?_
    refine XS.iconst X24.here hx rfl (hD 59 rfl) ?_
    refine XS.aload X24.here hx rfl (hD 60 rfl) rfl rfl ?_
    refine XS.aloadN X24.here hx rfl (hD 61 rfl) rfl rfl ?_
    exact k))
  obtain ⟨T26, X26, e26, st26⟩ := getF X24 hx hZ hown (host := "") (Or.inl (hw _ (mi 181 rfl))) Via.refl e24 (W18q.fld (i := 0) rfl (j := 24) rfl rfl) (g := K25.g) rfl rfl (hD 62 rfl)
  have K27 : Rc K0 T26 (mkF m 263 #[sR r, sI 1, sR vv, sI (Int32.ofNat u), sR pp, sI 1, sI 1, sI (Int32.ofNat (u + 1)), sI 1, sR bk] [(kI (Int32.ofNat u)), (kI 0), (kR bk), (kI 0), (kR vv)]) := fun t k => K25 t (st26 t (XS.iloadN X26.here hx rfl (hD 63 rfl) rfl k))
  obtain ⟨T28, h28, L28, X28, e28, N28, W28q, st28⟩ := cpW X26 hx hZ hown (hw _ (mi 117 rfl)) (hw _ (mi 120 rfl)) (hw _ (mi 118 rfl)) (hw _ (mi 119 rfl)) e26 W18q N18 (i := 11) (j := 4) rfl rfl rfl (sp := (0 : Int32)) (dp := (0 : Int32)) (nn := (Int32.ofNat u)) (s' := 0) (d' := 0) (k' := u) (by decide) (by decide) (own_nn (by omega)) (by decide) (by decide) (own_tn (by omega)) (by omega) (by omega) (g := K27.g) rfl (by rw [hml]; rfl) (rest := []) rfl (hD 64 rfl) (by decide) (W0 := 0) (by show 2 * 0 + _ ≤ _; exact Nat.le_of_eq rfl) (by decide)
  have K29 : Rc K0 T28 (mkF m 272 #[sR r, sI 1, sR vv, sI (Int32.ofNat u), sR pp, sI 1, sI 1, sI (Int32.ofNat (u + 1)), sI 1, sR bk] [(kR r), (kR bk), (kI 0), (kR pp)]) := fun t k => K27 t (st28 t (by
    refine XS.aload X28.here hx rfl (hD 65 rfl) rfl rfl ?_
    refine XS.iconst X28.here hx rfl (hD 66 rfl) ?_
    refine XS.aload X28.here hx rfl (hD 67 rfl) rfl rfl ?_
    refine XS.aloadN X28.here hx rfl (hD 68 rfl) rfl rfl ?_
    exact k))
  obtain ⟨T30, X30, e30, st30⟩ := getF X28 hx hZ hown (host := "") (Or.inl (hw _ (mi 181 rfl))) Via.refl e28 (W28q.fld (i := 0) rfl (j := 24) rfl rfl) (g := K29.g) rfl rfl (hD 69 rfl)
  have K31 : Rc K0 T30 (mkF m 279 #[sR r, sI 1, sR vv, sI (Int32.ofNat u), sR pp, sI 1, sI 1, sI (Int32.ofNat (u + 1)), sI 1, sR bk] [(kI 1), (kI (Int32.ofNat u)), (kR bk), (kI 0), (kR pp)]) := fun t k => K29 t (st30 t (by
    refine XS.iloadN X30.here hx rfl (hD 70 rfl) rfl ?_
    refine XS.iadd X30.here hx rfl (hD 71 rfl) rfl ?_
    show Steps p.tables e below (T30.setTop (mkF m 277 #[sR r, sI 1, sR vv, sI (Int32.ofNat u), sR pp, sI 1, sI 1, sI (Int32.ofNat (u + 1)), sI 1, sR bk] [(kI ((0 : Int32) + (Int32.ofNat u))), (kR bk), (kI 0), (kR pp)])) _
    rw [Int32.zero_add]
    show Steps p.tables e below (T30.setTop (mkF m 277 #[sR r, sI 1, sR vv, sI (Int32.ofNat u), sR pp, sI 1, sI 1, sI (Int32.ofNat (u + 1)), sI 1, sR bk] [(kI (Int32.ofNat u)), (kR bk), (kI 0), (kR pp)])) _
    refine XS.iload X30.here hx rfl (hD 72 rfl) rfl ?_
    exact k))
  obtain ⟨T32, h32, L32, X32, e32, N32, W32q, st32⟩ := cpW X30 hx hZ hown (hw _ (mi 117 rfl)) (hw _ (mi 120 rfl)) (hw _ (mi 118 rfl)) (hw _ (mi 119 rfl)) e30 W28q N28 (i := 12) (j := 4) rfl rfl rfl (sp := (0 : Int32)) (dp := (Int32.ofNat u)) (nn := (1 : Int32)) (s' := 0) (d' := u) (k' := 1) (by decide) (own_nn (by omega)) (by decide) (by decide) (own_tn (by omega)) (by decide) (by omega) (by omega) (g := K31.g) rfl (by rw [hml]; rfl) (rest := []) rfl (hD 73 rfl) (by decide) (W0 := 0) (by show 2 * 0 + _ ≤ _; exact Nat.le_of_eq rfl) (by decide)
  have K33 : Rc K0 T32 (mkF m 283 #[sR r, sI 1, sR vv, sI (Int32.ofNat u), sR pp, sI 1, sI 1, sI (Int32.ofNat (u + 1)), sI 1, sR bk] [(kR r)]) := fun t k => K31 t (st32 t (XS.aloadN X32.here hx rfl (hD 74 rfl) rfl rfl k))
  obtain ⟨T34, X34, e34, st34⟩ := getF X32 hx hZ hown (host := "") (Or.inl (hw _ (mi 155 rfl))) Via.refl e32 (W32q.fld (i := 0) rfl (j := 17) rfl rfl) (g := K33.g) rfl rfl (hD 75 rfl)
  have K35 : Rc K0 T34 (mkF m 289 #[sR r, sI 1, sR vv, sI (Int32.ofNat u), sR pp, sI 1, sI 1, sI (Int32.ofNat (u + 1)), sI 1, sR bk] [(kI 1), (kI 1), (kR so)]) := fun t k => K33 t (st34 t (by
    refine XS.iload X34.here hx rfl (hD 76 rfl) rfl ?_
    refine XS.iloadN X34.here hx rfl (hD 77 rfl) rfl ?_
    exact k))
  obtain ⟨T36, h36, L36, X36, e36, N36, W36q, st36⟩ := iasW X34 hx hZ e34 W32q N32 (i := 6) (a := so) rfl (j := (1 : Int32)) (x := (1 : Int32)) (k := 1) (by decide) (by decide) (by decide) (g := K35.g) rfl rfl (hD 78 rfl)
  have W36 : Wo n0 h36 ((r, oR Z [(kR ks), (kR rgs), (kR ns), (kR fch), (kR fk), (kR kl), (kR frg), (kR fac), (kR fcm), (kR ftr), (kR acs), (kR cms), (kR sus), (kR prb), (kI 2), (kR lr), (kI 2), (kR so), (kR nr), (kR bo), (kR shf), (kR vcn), (kR bl), (kI 2), (kI 0)]) :: (ftr, Ar Z .int 17 g_ftr) :: (fch, Ar Z .int 17 g_fch) :: (bl, Pg Z .double 4 g_bl) :: (bk, Ar Z .double 64 (cpy g_pp (cpy g_vv g_bk 0 0 u) 0 u 1)) :: (lr, Ar Z .int 4 g_lr) :: (so, Ar Z .int 4 (upd g_so 1 (kI 1))) :: (nr, Ar Z .int 4 g_nr) :: (bo, Ar Z .int 4 g_bo) :: (shf, Ar Z .int 4 g_shf) :: (vcn, Ar Z .int 4 g_vcn) :: (vv, Ar Z .double 4 g_vv) :: (pp, Ar Z .double 4 g_pp) :: Rr) := W36q
  have K37 : Rc K0 T36 (mkF m 291 #[sR r, sI 1, sR vv, sI (Int32.ofNat u), sR pp, sI 1, sI 1, sI (Int32.ofNat (u + 1)), sI 1, sR bk] [(kR r)]) := fun t k => K35 t (st36 t (XS.aloadN X36.here hx rfl (hD 79 rfl) rfl rfl k))
  obtain ⟨T38, X38, e38, st38⟩ := getF X36 hx hZ hown (host := "") (Or.inl (hw _ (mi 157 rfl))) Via.refl e36 (W36.fld (i := 0) rfl (j := 18) rfl rfl) (g := K37.g) rfl rfl (hD 80 rfl)
  have K39 : Rc K0 T38 (mkF m 297 #[sR r, sI 1, sR vv, sI (Int32.ofNat u), sR pp, sI 1, sI 1, sI (Int32.ofNat (u + 1)), sI 1, sR bk] [(kR r), (kI 1), (kR nr)]) := fun t k => K37 t (st38 t (by
    refine XS.iload X38.here hx rfl (hD 81 rfl) rfl ?_
    refine XS.aloadN X38.here hx rfl (hD 82 rfl) rfl rfl ?_
    exact k))
  obtain ⟨T40, X40, e40, st40⟩ := getF X38 hx hZ hown (host := "") (Or.inl (hw _ (mi 107 rfl))) Via.refl e38 (W36.fld (i := 0) rfl (j := 15) rfl rfl) (g := K39.g) rfl rfl (hD 83 rfl)
  have K41 : Rc K0 T40 (mkF m 302 #[sR r, sI 1, sR vv, sI (Int32.ofNat u), sR pp, sI 1, sI 1, sI (Int32.ofNat (u + 1)), sI 1, sR bk] [(kI (-1)), (kI 1), (kR nr)]) := fun t k => K39 t (st40 t (by
    refine XS.iloadN X40.here hx rfl (hD 84 rfl) rfl ?_
    refine ialW X40 hx hZ e40 W36 (i := 5) rfl (j := (1 : Int32)) (k := 1) (by decide) (by decide) (by decide) (v := (.int (-1 : Int32))) h6 (g := (mkF m 301 #[sR r, sI 1, sR vv, sI (Int32.ofNat u), sR pp, sI 1, sI 1, sI (Int32.ofNat (u + 1)), sI 1, sR bk] [(kI 1), (kR lr), (kI 1), (kR nr)])) rfl rfl (hD 85 rfl) _ ?_
    exact k))
  obtain ⟨T42, h42, L42, X42, e42, N42, W42q, st42⟩ := iasW X40 hx hZ e40 W36 N36 (i := 7) (a := nr) rfl (j := (1 : Int32)) (x := (-1 : Int32)) (k := 1) (by decide) (by decide) (by decide) (g := K41.g) rfl rfl (hD 86 rfl)
  have K43 : Rc K0 T42 (mkF m 304 #[sR r, sI 1, sR vv, sI (Int32.ofNat u), sR pp, sI 1, sI 1, sI (Int32.ofNat (u + 1)), sI 1, sR bk] [(kR r)]) := fun t k => K41 t (st42 t (XS.aloadN X42.here hx rfl (hD 87 rfl) rfl rfl k))
  obtain ⟨T44, X44, e44, st44⟩ := getF X42 hx hZ hown (host := "") (Or.inl (hw _ (mi 107 rfl))) Via.refl e42 (W42q.fld (i := 0) rfl (j := 15) rfl rfl) (g := K43.g) rfl rfl (hD 88 rfl)
  have K45 : Rc K0 T44 (mkF m 310 #[sR r, sI 1, sR vv, sI (Int32.ofNat u), sR pp, sI 1, sI 1, sI (Int32.ofNat (u + 1)), sI 1, sR bk] [(kI 1), (kI 1), (kR lr)]) := fun t k => K43 t (st44 t (by
    refine XS.iloadN X44.here hx rfl (hD 89 rfl) rfl ?_
    refine XS.iload X44.here hx rfl (hD 90 rfl) rfl ?_
    exact k))
  obtain ⟨T46, h46, L46, X46, e46, N46, W46q, st46⟩ := iasW X44 hx hZ e44 W42q N42 (i := 5) (a := lr) rfl (j := (1 : Int32)) (x := (1 : Int32)) (k := 1) (by decide) (by decide) (by decide) (g := K45.g) rfl rfl (hD 91 rfl)
  have K47 : Rc K0 T46 (mkF m 312 #[sR r, sI 1, sR vv, sI (Int32.ofNat u), sR pp, sI 1, sI 1, sI (Int32.ofNat (u + 1)), sI 1, sR bk] [(kR r)]) := fun t k => K45 t (st46 t (XS.aloadN X46.here hx rfl (hD 92 rfl) rfl rfl k))
  obtain ⟨T48, X48, e48, st48⟩ := getF X46 hx hZ hown (host := "") (Or.inl (hw _ (mi 159 rfl))) Via.refl e46 (W46q.fld (i := 0) rfl (j := 19) rfl rfl) (g := K47.g) rfl rfl (hD 93 rfl)
  have K49 : Rc K0 T48 (mkF m 318 #[sR r, sI 1, sR vv, sI (Int32.ofNat u), sR pp, sI 1, sI 1, sI (Int32.ofNat (u + 1)), sI 1, sR bk] [(kR r), (kI 1), (kR bo)]) := fun t k => K47 t (st48 t (by
    refine XS.iload X48.here hx rfl (hD 94 rfl) rfl ?_
    refine XS.aloadN X48.here hx rfl (hD 95 rfl) rfl rfl ?_
    exact k))
  obtain ⟨T50, X50, e50, st50⟩ := getF X48 hx hZ hown (host := "") (Or.inl (hw _ (mi 170 rfl))) Via.refl e48 (W46q.fld (i := 0) rfl (j := 23) rfl rfl) (g := K49.g) rfl rfl (hD 96 rfl)
  have K51 : Rc K0 T50 (mkF m 323 #[sR r, sI 1, sR vv, sI (Int32.ofNat u), sR pp, sI 1, sI 1, sI (Int32.ofNat (u + 1)), sI 1, sR bk] [(kI 1), (kI 1), (kR bo)]) := fun t k => K49 t (st50 t (by
    refine XS.iconst X50.here hx rfl (hD 97 rfl) ?_
    refine XS.isub X50.here hx rfl (hD 98 rfl) rfl ?_
    exact k))
  obtain ⟨T52, h52, L52, X52, e52, N52, W52q, st52⟩ := iasW X50 hx hZ e50 W46q N46 (i := 8) (a := bo) rfl (j := (1 : Int32)) (x := (1 : Int32)) (k := 1) (by decide) (by decide) (by decide) (g := K51.g) rfl rfl (hD 99 rfl)
  have K53 : Rc K0 T52 (mkF m 325 #[sR r, sI 1, sR vv, sI (Int32.ofNat u), sR pp, sI 1, sI 1, sI (Int32.ofNat (u + 1)), sI 1, sR bk] [(kR r)]) := fun t k => K51 t (st52 t (XS.aloadN X52.here hx rfl (hD 100 rfl) rfl rfl k))
  obtain ⟨T54, X54, e54, st54⟩ := getF X52 hx hZ hown (host := "") (Or.inl (hw _ (mi 161 rfl))) Via.refl e52 (W52q.fld (i := 0) rfl (j := 20) rfl rfl) (g := K53.g) rfl rfl (hD 101 rfl)
  have K55 : Rc K0 T54 (mkF m 331 #[sR r, sI 1, sR vv, sI (Int32.ofNat u), sR pp, sI 1, sI 1, sI (Int32.ofNat (u + 1)), sI 1, sR bk] [(kR r), (kI 1), (kR shf)]) := fun t k => K53 t (st54 t (by
    refine XS.iload X54.here hx rfl (hD 102 rfl) rfl ?_
    refine XS.aloadN X54.here hx rfl (hD 103 rfl) rfl rfl ?_
    exact k))
  obtain ⟨T56, X56, e56, st56⟩ := getF X54 hx hZ hown (host := "") (Or.inl (hw _ (mi 181 rfl))) Via.refl e54 (W52q.fld (i := 0) rfl (j := 24) rfl rfl) (g := K55.g) rfl rfl (hD 104 rfl)
  have K57 : Rc K0 T56 (mkF m 339 #[sR r, sI 1, sR vv, sI (Int32.ofNat u), sR pp, sI 1, sI 1, sI (Int32.ofNat (u + 1)), sI 1, sR bk] [(kI ((Int32.ofNat u) - (1 : Int32))), (kI 1), (kR shf)]) := fun t k => K55 t (st56 t (by
    refine XS.iloadN X56.here hx rfl (hD 105 rfl) rfl ?_
    refine XS.iadd X56.here hx rfl (hD 106 rfl) rfl ?_
    show Steps p.tables e below (T56.setTop (mkF m 336 #[sR r, sI 1, sR vv, sI (Int32.ofNat u), sR pp, sI 1, sI 1, sI (Int32.ofNat (u + 1)), sI 1, sR bk] [(kI ((0 : Int32) + (Int32.ofNat u))), (kI 1), (kR shf)])) _
    rw [Int32.zero_add]
    show Steps p.tables e below (T56.setTop (mkF m 336 #[sR r, sI 1, sR vv, sI (Int32.ofNat u), sR pp, sI 1, sI 1, sI (Int32.ofNat (u + 1)), sI 1, sR bk] [(kI (Int32.ofNat u)), (kI 1), (kR shf)])) _
    refine XS.iload X56.here hx rfl (hD 107 rfl) rfl ?_
    refine XS.isub X56.here hx rfl (hD 108 rfl) rfl ?_
    exact k))
  obtain ⟨T58, h58, L58, X58, e58, N58, W58q, st58⟩ := iasW X56 hx hZ e56 W52q N52 (i := 9) (a := shf) rfl (j := (1 : Int32)) (x := ((Int32.ofNat u) - (1 : Int32))) (k := 1) (by decide) (by decide) (by decide) (g := K57.g) rfl rfl (hD 109 rfl)
  have W58 : Wo n0 h58 ((r, oR Z [(kR ks), (kR rgs), (kR ns), (kR fch), (kR fk), (kR kl), (kR frg), (kR fac), (kR fcm), (kR ftr), (kR acs), (kR cms), (kR sus), (kR prb), (kI 2), (kR lr), (kI 2), (kR so), (kR nr), (kR bo), (kR shf), (kR vcn), (kR bl), (kI 2), (kI 0)]) :: (ftr, Ar Z .int 17 g_ftr) :: (fch, Ar Z .int 17 g_fch) :: (bl, Pg Z .double 4 g_bl) :: (bk, Ar Z .double 64 (cpy g_pp (cpy g_vv g_bk 0 0 u) 0 u 1)) :: (lr, Ar Z .int 4 (upd g_lr 1 (kI 1))) :: (so, Ar Z .int 4 (upd g_so 1 (kI 1))) :: (nr, Ar Z .int 4 (upd g_nr 1 (kI (-1)))) :: (bo, Ar Z .int 4 (upd g_bo 1 (kI 1))) :: (shf, Ar Z .int 4 (upd g_shf 1 (kI ((Int32.ofNat u) - (1 : Int32))))) :: (vcn, Ar Z .int 4 g_vcn) :: (vv, Ar Z .double 4 g_vv) :: (pp, Ar Z .double 4 g_pp) :: Rr) := W58q
  have K59 : Rc K0 T58 (mkF m 341 #[sR r, sI 1, sR vv, sI (Int32.ofNat u), sR pp, sI 1, sI 1, sI (Int32.ofNat (u + 1)), sI 1, sR bk] [(kR r)]) := fun t k => K57 t (st58 t (XS.aloadN X58.here hx rfl (hD 110 rfl) rfl rfl k))
  obtain ⟨T60, X60, e60, st60⟩ := getF X58 hx hZ hown (host := "") (Or.inl (hw _ (mi 163 rfl))) Via.refl e58 (W58.fld (i := 0) rfl (j := 21) rfl rfl) (g := K59.g) rfl rfl (hD 111 rfl)
  have K61 : Rc K0 T60 (mkF m 347 #[sR r, sI 1, sR vv, sI (Int32.ofNat u), sR pp, sI 1, sI 1, sI (Int32.ofNat (u + 1)), sI 1, sR bk] [(kI (Int32.ofNat u)), (kI 1), (kR vcn)]) := fun t k => K59 t (st60 t (by
    refine XS.iload X60.here hx rfl (hD 112 rfl) rfl ?_
    refine XS.iloadN X60.here hx rfl (hD 113 rfl) rfl ?_
    exact k))
  obtain ⟨T62, h62, L62, X62, e62, N62, W62q, st62⟩ := iasW X60 hx hZ e60 W58 N58 (i := 10) (a := vcn) rfl (j := (1 : Int32)) (x := (Int32.ofNat u)) (k := 1) (by decide) (by decide) (by decide) (g := K61.g) rfl rfl (hD 114 rfl)
  have K63 : Rc K0 T62 (mkF m 350 #[sR r, sI 1, sR vv, sI (Int32.ofNat u), sR pp, sI 1, sI 1, sI (Int32.ofNat (u + 1)), sI 1, sR bk] [(kR r), (kR r)]) := fun t k => K61 t (st62 t (by
    refine XS.aloadN X62.here hx rfl (hD 115 rfl) rfl rfl ?_
    refine XS.dup X62.here hx rfl (hD 116 rfl) rfl rfl ?_
    exact k))
  obtain ⟨T64, X64, e64, st64⟩ := getF X62 hx hZ hown (host := "") (Or.inl (hw _ (mi 181 rfl))) Via.refl e62 (W62q.fld (i := 0) rfl (j := 24) rfl rfl) (g := K63.g) rfl rfl (hD 117 rfl)
  have K65 : Rc K0 T64 (mkF m 356 #[sR r, sI 1, sR vv, sI (Int32.ofNat u), sR pp, sI 1, sI 1, sI (Int32.ofNat (u + 1)), sI 1, sR bk] [(kI (Int32.ofNat (u + 1))), (kR r)]) := fun t k => K63 t (st64 t (by
    refine XS.iload X64.here hx rfl (hD 118 rfl) rfl ?_
    refine XS.iadd X64.here hx rfl (hD 119 rfl) rfl ?_
    show Steps p.tables e below (T64.setTop (mkF m 356 #[sR r, sI 1, sR vv, sI (Int32.ofNat u), sR pp, sI 1, sI 1, sI (Int32.ofNat (u + 1)), sI 1, sR bk] [(kI ((0 : Int32) + (Int32.ofNat (u + 1)))), (kR r)])) _
    rw [Int32.zero_add]
    exact k))
  obtain ⟨T66, h66, L66, X66, e66, N66, W66q, st66⟩ := putW X64 hx hZ hown (host := "") (Or.inl (hw _ (mi 181 rfl))) e64 W62q N62 (own_dR hw) (Or.inl (hw _ (mi 182 rfl))) (hw _ (mi 8 rfl)) (ty := .int) (by decide +kernel) (i := 0) (a := r) rfl (j := 24) rfl rfl (v := (.int (Int32.ofNat (u + 1)))) rfl rfl (g := K65.g) rfl rfl (hD 120 rfl)
  have K67 : Rc K0 T66 (mkF m 361 #[sR r, sI 1, sR vv, sI (Int32.ofNat u), sR pp, sI 1, sI 1, sI (Int32.ofNat (u + 1)), sI 1, sR bk] [(kI 1)]) := fun t k => K65 t (st66 t (XS.iload X66.here hx rfl (hD 121 rfl) rfl k))
  obtain ⟨fs, hr, hrun, hended, hWm, hsame⟩ := X66.leave (v := some (.int (1 : Int32))) (fun h => by rw [Bd.returns] at h; cases h)
  refine ⟨_, _, pre0 _ (K67 _ (retI X66 hx Bd.returns (hD 122 rfl) hr)), hrun, hended, _, _, rfl, ?_, ⟨_, rfl⟩, hWm, hsame.mono (by decide) (by decide)⟩
  show QrmPL11 Z r ks rgs ns fch fk kl frg fac fcm ftr acs cms sus prb lr so nr bo shf vcn bl bk vv pp u g_ftr g_fch g_bl g_bk g_lr g_so g_nr g_bo g_shf g_vcn g_vv g_pp Rr n0 _ T66.heap _
  rw [e66]
  exact ⟨rfl, N66, W66q⟩
theorem ef_rmPL01 (m : MethodId) (r ks rgs ns fch fk kl frg fac fcm ftr acs cms sus prb : Addr) (lr so nr bo shf vcn bl bk vv pp : Addr) (u : Nat) (g_ftr g_fch g_bl g_bk g_lr g_so g_nr g_bo g_shf g_vcn g_vv g_pp : Nat → Value) : entryFrame m #[(.ref r), (.int (0 : Int32)), (.ref vv), (.int (Int32.ofNat u)), (.ref pp)] 10 = mkF m 0 #[.val (.ref r), .val (.int (0 : Int32)), .val (.ref vv), .val (.int (Int32.ofNat u)), .val (.ref pp), .unset, .unset, .unset, .unset, .unset] [] := by first | (simp [entryFrame, mkF, argsToLocals, Value.category]; done) | rfl
def QrmPL01 (Z : State) (r ks rgs ns fch fk kl frg fac fcm ftr acs cms sus prb : Addr) (lr so nr bo shf vcn bl bk vv pp : Addr) (u : Nat) (g_ftr g_fch g_bl g_bk g_lr g_so g_nr g_bo g_shf g_vcn g_vv g_pp : Nat → Value) (Rr : List (Addr × (Cell → Prop))) (n0 : Nat) (v : Option Value) (h : Heap) (L : List Loc) : Prop := v = some (.int (1 : Int32)) ∧ Fr n0 L ∧ Wo n0 h ((r, oR Z [(kR ks), (kR rgs), (kR ns), (kR fch), (kR fk), (kR kl), (kR frg), (kR fac), (kR fcm), (kR ftr), (kR acs), (kR cms), (kR sus), (kR prb), (kI 1), (kR lr), (kI 2), (kR so), (kR nr), (kR bo), (kR shf), (kR vcn), (kR bl), (kI 2), (kI (Int32.ofNat ((u + 1) + (u + 1))))]) :: (ftr, Ar Z .int 17 g_ftr) :: (fch, Ar Z .int 17 g_fch) :: (bl, Pg Z .double 4 g_bl) :: (bk, Ar Z .double 64 (cpy g_pp (cpy g_vv g_bk 0 (u + 1) u) 0 ((u + 1) + u) 1)) :: (lr, Ar Z .int 4 (upd g_lr 0 (kI 1))) :: (so, Ar Z .int 4 (upd g_so 1 (kI 0))) :: (nr, Ar Z .int 4 (upd g_nr 1 (kI 0))) :: (bo, Ar Z .int 4 (upd g_bo 1 (kI 1))) :: (shf, Ar Z .int 4 (upd g_shf 1 (kI ((Int32.ofNat ((u + 1) + u)) - (0 : Int32))))) :: (vcn, Ar Z .int 4 (upd g_vcn 1 (kI (Int32.ofNat u)))) :: (vv, Ar Z .double 4 g_vv) :: (pp, Ar Z .double 1 g_pp) :: Rr)
set_option maxRecDepth 65536 in
set_option maxHeartbeats 40000000 in
theorem rmPL01 (l : Launch) (Z : State) (a0 : Array Value) (hw : ∀ d ∈ tables_1, d.before a0 Z = true) (ws : List Jvm.Cond) (r ks rgs ns fch fk kl frg fac fcm ftr acs cms sus prb : Addr) (lr so nr bo shf vcn bl bk vv pp : Addr) (u : Nat) (g_ftr g_fch g_bl g_bk g_lr g_so g_nr g_bo g_shf g_vcn g_vv g_pp : Nat → Value) (Rr : List (Addr × (Cell → Prop))) (h0 : Heap) (n0 : Nat) (W0 : Wo n0 h0 ((r, oR Z [(kR ks), (kR rgs), (kR ns), (kR fch), (kR fk), (kR kl), (kR frg), (kR fac), (kR fcm), (kR ftr), (kR acs), (kR cms), (kR sus), (kR prb), (kI 1), (kR lr), (kI 1), (kR so), (kR nr), (kR bo), (kR shf), (kR vcn), (kR bl), (kI 2), (kI (Int32.ofNat (u + 1)))]) :: (ftr, Ar Z .int 17 g_ftr) :: (fch, Ar Z .int 17 g_fch) :: (bl, Pg Z .double 4 g_bl) :: (bk, Ar Z .double 64 g_bk) :: (lr, Ar Z .int 4 g_lr) :: (so, Ar Z .int 4 g_so) :: (nr, Ar Z .int 4 g_nr) :: (bo, Ar Z .int 4 g_bo) :: (shf, Ar Z .int 4 g_shf) :: (vcn, Ar Z .int 4 g_vcn) :: (vv, Ar Z .double 4 g_vv) :: (pp, Ar Z .double 1 g_pp) :: Rr)) (hu1 : 1 ≤ u) (hu4 : u ≤ 4) (h1 : g_ftr 0 = .int 0) (h2 : g_ftr 1 = .int 1) (h3 : g_fch 0 = .int 0) (h4 : g_fch 1 = .int 1) (h5 : g_bl 1 = .ref bk) (h6 : g_lr 0 = .int (0 : Int32)) :
    MetFree l y_pl (head1 (Jvm.Cond.code y_pl prog_87_method_5_code 10 (some .int) :: ws) ({ frames := 1, cells := 0, slots := 0, locals := 18 } : Room)) (fun aa U => aa = #[(.ref r), (.int (0 : Int32)), (.ref vv), (.int (Int32.ofNat u)), (.ref pp)] ∧ Z.Warmed39 U.vm ∧ U.heap = h0) (fun _ _ _ _ _ => True) (fun _ U ou U' => ∃ v L, ou = .returned v ∧ QrmPL01 Z r ks rgs ns fch fk kl frg fac fcm ftr acs cms sus prb lr so nr bo shf vcn bl bk vv pp u g_ftr g_fch g_bl g_bk g_lr g_so g_nr g_bo g_shf g_vcn g_vv g_pp Rr n0 v U'.heap L ∧ FrameEnd U ou U' L ({ frames := 1, cells := 0, slots := 0, locals := 18 } : Room).cells ({ frames := 1, cells := 0, slots := 0, locals := 18 } : Room).slots) := by
  refine MetFree.of_bodySF (plainFor_of_name pn_Rows) hisR ?_
  intro p e s m args below meth c s₁ Bd hml0 hP hK
  obtain ⟨rfl, hZ, hh⟩ := hP
  have hx := Bd.exec
  have hby := Bd.bytes
  have hml : c.maxLocals = 10 := hml0
  have hD : ∀ (k : Nat) {pc : Nat} {i : Instr} {n : Nat}, Ld_pl[k]? = some (pc, i, n) → decode c.code pc = .ok (i, n) := by intro k pc i n h; exact hb hby (d_pl (pc, i, n) (mi k h))
  have hown : s.vm.findClass "com/example/sambre/sambre/engine/Rows" = some m.cls := findClass_of_methodNamed Bd.named
  have hnm := (name_of_methodNamed Bd.named Bd.method).1
  have X0 : Stand p l e ({ frames := 1, cells := 0, slots := 0, locals := 18 } : Room) s m #[(.ref r), (.int (0 : Int32)), (.ref vv), (.int (Int32.ofNat u)), (.ref pp)] below meth c s₁ [] 0 0 := Stand.of_body Bd
  have e0 : s₁.heap = h0 := by rw [← hh, Bd.state]; rfl
  have N0 := Fr.nil n0
  obtain ⟨F0, hF0⟩ : ∃ F, F = mkF m 0 #[.val (.ref r), .val (.int (0 : Int32)), .val (.ref vv), .val (.int (Int32.ofNat u)), .val (.ref pp), .unset, .unset, .unset, .unset, .unset] [] := ⟨_, rfl⟩
  have pre0 : ∀ t, Steps p.tables e below (s₁.setTop F0) t → Steps p.tables e below (s₁.setTop (entryFrame m #[(.ref r), (.int (0 : Int32)), (.ref vv), (.int (Int32.ofNat u)), (.ref pp)] 10)) t := fun t k => castTop ((ef_rmPL01 m r ks rgs ns fch fk kl frg fac fcm ftr acs cms sus prb lr so nr bo shf vcn bl bk vv pp u g_ftr g_fch g_bl g_bk g_lr g_so g_nr g_bo g_shf g_vcn g_vv g_pp).trans hF0.symm) k
  have K0 : Rch p e below s₁ F0 s₁ (mkF m 0 #[.val (.ref r), .val (.int (0 : Int32)), .val (.ref vv), .val (.int (Int32.ofNat u)), .val (.ref pp), .unset, .unset, .unset, .unset, .unset] []) := fun t k => castTop hF0 k
  have K1 : Rc K0 s₁ (mkF m 1 #[sR r, sI 0, sR vv, sI (Int32.ofNat u), sR pp, sU, sU, sU, sU, sU] [(kR r)]) := fun t k => K0 t (XS.aloadN X0.here hx rfl (hD 0 rfl) rfl rfl k)
  obtain ⟨T2, X2, e2, st2⟩ := getF X0 hx hZ hown (host := "") (Or.inl (hw _ (mi 34 rfl))) Via.refl e0 (W0.fld (i := 0) rfl (j := 9) rfl rfl) (g := K1.g) rfl rfl (hD 1 rfl)
  have K3 : Rc K0 T2 (mkF m 5 #[sR r, sI 0, sR vv, sI (Int32.ofNat u), sR pp, sU, sU, sU, sU, sU] [(kR r), (kR ftr)]) := fun t k => K1 t (st2 t (XS.aloadN X2.here hx rfl (hD 2 rfl) rfl rfl k))
  obtain ⟨T4, X4, e4, st4⟩ := getF X2 hx hZ hown (host := "") (Or.inl (hw _ (mi 22 rfl))) Via.refl e2 (W0.fld (i := 0) rfl (j := 3) rfl rfl) (g := K3.g) rfl rfl (hD 3 rfl)
  have K5 : Rc K0 T4 (mkF m 14 #[sR r, sI 0, sR vv, sI (Int32.ofNat u), sR pp, sI 0, sU, sU, sU, sU] [(kR r)]) := fun t k => K3 t (st4 t (by
    refine XS.iloadN X4.here hx rfl (hD 4 rfl) rfl ?_
    refine ialW X4 hx hZ e4 W0 (i := 2) rfl (j := (0 : Int32)) (k := 0) (by decide) (by decide) (by decide) (v := (.int (0 : Int32))) h3 (g := (mkF m 9 #[sR r, sI 0, sR vv, sI (Int32.ofNat u), sR pp, sU, sU, sU, sU, sU] [(kI 0), (kR fch), (kR ftr)])) rfl rfl (hD 5 rfl) _ ?_
    refine ialW X4 hx hZ e4 W0 (i := 1) rfl (j := (0 : Int32)) (k := 0) (by decide) (by decide) (by decide) (v := (.int (0 : Int32))) h1 (g := (mkF m 10 #[sR r, sI 0, sR vv, sI (Int32.ofNat u), sR pp, sU, sU, sU, sU, sU] [(kI 0), (kR ftr)])) rfl rfl (hD 6 rfl) _ ?_
    refine XS.istore X4.here hx rfl (hD 7 rfl) rfl (l' := #[sR r, sI 0, sR vv, sI (Int32.ofNat u), sR pp, sI 0, sU, sU, sU, sU]) rfl ?_
    refine XS.aloadN X4.here hx rfl (hD 8 rfl) rfl rfl ?_
    exact k))
  obtain ⟨T6, X6, e6, st6⟩ := getF X4 hx hZ hown (host := "") (Or.inl (hw _ (mi 34 rfl))) Via.refl e4 (W0.fld (i := 0) rfl (j := 9) rfl rfl) (g := K5.g) rfl rfl (hD 9 rfl)
  have K7 : Rc K0 T6 (mkF m 18 #[sR r, sI 0, sR vv, sI (Int32.ofNat u), sR pp, sI 0, sU, sU, sU, sU] [(kR r), (kR ftr)]) := fun t k => K5 t (st6 t (XS.aloadN X6.here hx rfl (hD 10 rfl) rfl rfl k))
  obtain ⟨T8, X8, e8, st8⟩ := getF X6 hx hZ hown (host := "") (Or.inl (hw _ (mi 22 rfl))) Via.refl e6 (W0.fld (i := 0) rfl (j := 3) rfl rfl) (g := K7.g) rfl rfl (hD 11 rfl)
  have K9 : Rc K0 T8 (mkF m 38 #[sR r, sI 0, sR vv, sI (Int32.ofNat u), sR pp, sI 0, sI 1, sI (Int32.ofNat (u + 1)), sU, sU] [(kR r)]) := fun t k => K7 t (st8 t (by
    refine XS.iloadN X8.here hx rfl (hD 12 rfl) rfl ?_
    refine XS.iconst X8.here hx rfl (hD 13 rfl) ?_
    refine XS.iadd X8.here hx rfl (hD 14 rfl) rfl ?_
    refine ialW X8 hx hZ e8 W0 (i := 2) rfl (j := (1 : Int32)) (k := 1) (by decide) (by decide) (by decide) (v := (.int (1 : Int32))) h4 (g := (mkF m 24 #[sR r, sI 0, sR vv, sI (Int32.ofNat u), sR pp, sI 0, sU, sU, sU, sU] [(kI 1), (kR fch), (kR ftr)])) rfl rfl (hD 15 rfl) _ ?_
    refine ialW X8 hx hZ e8 W0 (i := 1) rfl (j := (1 : Int32)) (k := 1) (by decide) (by decide) (by decide) (v := (.int (1 : Int32))) h2 (g := (mkF m 25 #[sR r, sI 0, sR vv, sI (Int32.ofNat u), sR pp, sI 0, sU, sU, sU, sU] [(kI 1), (kR ftr)])) rfl rfl (hD 16 rfl) _ ?_
    refine XS.iload X8.here hx rfl (hD 17 rfl) rfl ?_
    refine XS.isub X8.here hx rfl (hD 18 rfl) rfl ?_
    refine XS.istore X8.here hx rfl (hD 19 rfl) rfl (l' := #[sR r, sI 0, sR vv, sI (Int32.ofNat u), sR pp, sI 0, sI 1, sU, sU, sU]) rfl ?_
    refine XS.iloadN X8.here hx rfl (hD 20 rfl) rfl ?_
    refine XS.iload X8.here hx rfl (hD 21 rfl) rfl ?_
    refine XS.iadd X8.here hx rfl (hD 22 rfl) rfl ?_
    show Steps p.tables e below (T8.setTop (mkF m 35 #[sR r, sI 0, sR vv, sI (Int32.ofNat u), sR pp, sI 0, sI 1, sU, sU, sU] [(kI ((Int32.ofNat u) + (1 : Int32)))])) _
    rw [show (Int32.ofNat u) + (1 : Int32) = (Int32.ofNat (u + 1)) from own_add u 1]
    show Steps p.tables e below (T8.setTop (mkF m 35 #[sR r, sI 0, sR vv, sI (Int32.ofNat u), sR pp, sI 0, sI 1, sU, sU, sU] [(kI (Int32.ofNat (u + 1)))])) _
    refine XS.istore X8.here hx rfl (hD 23 rfl) rfl (l' := #[sR r, sI 0, sR vv, sI (Int32.ofNat u), sR pp, sI 0, sI 1, sI (Int32.ofNat (u + 1)), sU, sU]) rfl ?_
    refine XS.aloadN X8.here hx rfl (hD 24 rfl) rfl rfl ?_
    exact k))
  obtain ⟨T10, X10, e10, st10⟩ := getF X8 hx hZ hown (host := "") (Or.inl (hw _ (mi 181 rfl))) Via.refl e8 (W0.fld (i := 0) rfl (j := 24) rfl rfl) (g := K9.g) rfl rfl (hD 25 rfl)
  have K11 : Rc K0 T10 (mkF m 45 #[sR r, sI 0, sR vv, sI (Int32.ofNat u), sR pp, sI 0, sI 1, sI (Int32.ofNat (u + 1)), sU, sU] [(kR r), (kI (Int32.ofNat ((u + 1) + (u + 1))))]) := fun t k => K9 t (st10 t (by
    refine XS.iload X10.here hx rfl (hD 26 rfl) rfl ?_
    refine XS.iadd X10.here hx rfl (hD 27 rfl) rfl ?_
    show Steps p.tables e below (T10.setTop (mkF m 44 #[sR r, sI 0, sR vv, sI (Int32.ofNat u), sR pp, sI 0, sI 1, sI (Int32.ofNat (u + 1)), sU, sU] [(kI ((Int32.ofNat (u + 1)) + (Int32.ofNat (u + 1))))])) _
    rw [own_add (u + 1) (u + 1)]
    show Steps p.tables e below (T10.setTop (mkF m 44 #[sR r, sI 0, sR vv, sI (Int32.ofNat u), sR pp, sI 0, sI 1, sI (Int32.ofNat (u + 1)), sU, sU] [(kI (Int32.ofNat ((u + 1) + (u + 1))))])) _
    refine XS.aloadN X10.here hx rfl (hD 28 rfl) rfl rfl ?_
    exact k))
  obtain ⟨T12, X12, e12, st12⟩ := getF X10 hx hZ hown (host := "") (Or.inl (hw _ (mi 167 rfl))) Via.refl e10 (W0.fld (i := 0) rfl (j := 22) rfl rfl) (g := K11.g) rfl rfl (hD 29 rfl)
  have K13 : Rc K0 T12 (mkF m 49 #[sR r, sI 0, sR vv, sI (Int32.ofNat u), sR pp, sI 0, sI 1, sI (Int32.ofNat (u + 1)), sU, sU] [(kR r), (kR bl), (kI (Int32.ofNat ((u + 1) + (u + 1))))]) := fun t k => K11 t (st12 t (XS.aloadN X12.here hx rfl (hD 30 rfl) rfl rfl k))
  obtain ⟨T14, X14, e14, st14⟩ := getF X12 hx hZ hown (host := "") (Or.inl (hw _ (mi 170 rfl))) Via.refl e12 (W0.fld (i := 0) rfl (j := 23) rfl rfl) (g := K13.g) rfl rfl (hD 31 rfl)
  have K15 : Rc K0 T14 (mkF m 145 #[sR r, sI 0, sR vv, sI (Int32.ofNat u), sR pp, sI 0, sI 1, sI (Int32.ofNat (u + 1)), sU, sU] [(kR r), (kR r)]) := fun t k => K13 t (st14 t (by
    refine XS.iconst X14.here hx rfl (hD 32 rfl) ?_
    refine XS.isub X14.here hx rfl (hD 33 rfl) rfl ?_
    refine aalW X14 hx hZ e14 W0 (i := 3) rfl (fun _ q => q.1) rfl (j := (1 : Int32)) (k := 1) (by decide) (by decide) (by decide) (v := (.ref bk)) h5 (g := (mkF m 54 #[sR r, sI 0, sR vv, sI (Int32.ofNat u), sR pp, sI 0, sI 1, sI (Int32.ofNat (u + 1)), sU, sU] [(kI 1), (kR bl), (kI (Int32.ofNat ((u + 1) + (u + 1))))])) rfl rfl (hD 34 rfl) _ ?_
    refine lenW X14 hx hZ e14 W0 (i := 4) rfl (fun _ q => q) (z := (64 : Int32)) (by decide) (g := (mkF m 55 #[sR r, sI 0, sR vv, sI (Int32.ofNat u), sR pp, sI 0, sI 1, sI (Int32.ofNat (u + 1)), sU, sU] [(kR bk), (kI (Int32.ofNat ((u + 1) + (u + 1))))])) rfl rfl (hD 35 rfl) _ ?_
    refine XS.icmpYes X14.here hx rfl (pc0 := 56) (pc' := 143) rfl (hD 36 rfl) rfl (flt (own_nlt (a := 64) (b := u + 1 + (u + 1)) (by omega) (by decide))).2.2.2 (by decide) (by decide) ?_
    refine XS.aloadN X14.here hx rfl (hD 37 rfl) rfl rfl ?_
    refine XS.dup X14.here hx rfl (hD 38 rfl) rfl rfl ?_
    exact k))
  obtain ⟨T16, X16, e16, st16⟩ := getF X14 hx hZ hown (host := "") (Or.inl (hw _ (mi 127 rfl))) Via.refl e14 (W0.fld (i := 0) rfl (j := 16) rfl rfl) (g := K15.g) rfl rfl (hD 39 rfl)
  have K17 : Rc K0 T16 (mkF m 151 #[sR r, sI 0, sR vv, sI (Int32.ofNat u), sR pp, sI 0, sI 1, sI (Int32.ofNat (u + 1)), sU, sU] [(kI 2), (kR r), (kI 1)]) := fun t k => K15 t (st16 t (by
    refine XS.dupX1 X16.here hx rfl (hD 40 rfl) rfl rfl rfl ?_
    refine XS.iconst X16.here hx rfl (hD 41 rfl) ?_
    refine XS.iadd X16.here hx rfl (hD 42 rfl) rfl ?_
    exact k))
  obtain ⟨T18, h18, L18, X18, e18, N18, W18q, st18⟩ := putW X16 hx hZ hown (host := "") (Or.inl (hw _ (mi 127 rfl))) e16 W0 N0 (own_dR hw) (Or.inl (hw _ (mi 128 rfl))) (hw _ (mi 8 rfl)) (ty := .int) (by decide +kernel) (i := 0) (a := r) rfl (j := 16) rfl rfl (v := (.int (2 : Int32))) rfl rfl (g := K17.g) rfl rfl (hD 43 rfl)
  have K19 : Rc K0 T18 (mkF m 159 #[sR r, sI 0, sR vv, sI (Int32.ofNat u), sR pp, sI 0, sI 1, sI (Int32.ofNat (u + 1)), sI 1, sU] [(kR r), (kI 1)]) := fun t k => K17 t (st18 t (by
    refine XS.istore X18.here hx rfl (hD 44 rfl) rfl (l' := #[sR r, sI 0, sR vv, sI (Int32.ofNat u), sR pp, sI 0, sI 1, sI (Int32.ofNat (u + 1)), sI 1, sU]) rfl ?_
    refine XS.iload X18.here hx rfl (hD 45 rfl) rfl ?_
    refine XS.aloadN X18.here hx rfl (hD 46 rfl) rfl rfl ?_
    exact k))
  obtain ⟨T20, X20, e20, st20⟩ := getF X18 hx hZ hown (host := "") (Or.inl (hw _ (mi 155 rfl))) Via.refl e18 (W18q.fld (i := 0) rfl (j := 17) rfl rfl) (g := K19.g) rfl rfl (hD 47 rfl)
  have K21 : Rc K0 T20 (mkF m 242 #[sR r, sI 0, sR vv, sI (Int32.ofNat u), sR pp, sI 0, sI 1, sI (Int32.ofNat (u + 1)), sI 1, sU] [(kR r)]) := fun t k => K19 t (st20 t (by
    refine lenW X20 hx hZ e20 W18q (i := 6) rfl (fun _ q => q) (z := (4 : Int32)) (by decide) (g := (mkF m 162 #[sR r, sI 0, sR vv, sI (Int32.ofNat u), sR pp, sI 0, sI 1, sI (Int32.ofNat (u + 1)), sI 1, sU] [(kR so), (kI 1)])) rfl rfl (hD 48 rfl) _ ?_
    refine XS.icmpYes X20.here hx rfl (pc0 := 163) (pc' := 241) rfl (hD 49 rfl) rfl (by decide) (by decide) (by decide) ?_
    refine XS.aloadN X20.here hx rfl (hD 50 rfl) rfl rfl ?_
    exact k))
  obtain ⟨T22, X22, e22, st22⟩ := getF X20 hx hZ hown (host := "") (Or.inl (hw _ (mi 167 rfl))) Via.refl e20 (W18q.fld (i := 0) rfl (j := 22) rfl rfl) (g := K21.g) rfl rfl (hD 51 rfl)
  have K23 : Rc K0 T22 (mkF m 246 #[sR r, sI 0, sR vv, sI (Int32.ofNat u), sR pp, sI 0, sI 1, sI (Int32.ofNat (u + 1)), sI 1, sU] [(kR r), (kR bl)]) := fun t k => K21 t (st22 t (XS.aloadN X22.here hx rfl (hD 52 rfl) rfl rfl k))
  obtain ⟨T24, X24, e24, st24⟩ := getF X22 hx hZ hown (host := "") (Or.inl (hw _ (mi 170 rfl))) Via.refl e22 (W18q.fld (i := 0) rfl (j := 23) rfl rfl) (g := K23.g) rfl rfl (hD 53 rfl)
  have K25 : Rc K0 T24 (mkF m 259 #[sR r, sI 0, sR vv, sI (Int32.ofNat u), sR pp, sI 0, sI 1, sI (Int32.ofNat (u + 1)), sI 1, sR bk] [(kR r), (kR bk), (kI 0), (kR vv)]) := fun t k => K23 t (st24 t (by
    refine XS.iconst X24.here hx rfl (hD 54 rfl) ?_
    refine XS.isub X24.here hx rfl (hD 55 rfl) rfl ?_
    refine aalW X24 hx hZ e24 W18q (i := 3) rfl (fun _ q => q.1) rfl (j := (1 : Int32)) (k := 1) (by decide) (by decide) (by decide) (v := (.ref bk)) h5 (g := (mkF m 251 #[sR r, sI 0, sR vv, sI (Int32.ofNat u), sR pp, sI 0, sI 1, sI (Int32.ofNat (u + 1)), sI 1, sU] [(kI 1), (kR bl)])) rfl rfl (hD 56 rfl) _ ?_
    refine XS.astore X24.here hx rfl (hD 57 rfl) rfl rfl (l' := #[sR r, sI 0, sR vv, sI (Int32.ofNat u), sR pp, sI 0, sI 1, sI (Int32.ofNat (u + 1)), sI 1, sR bk]) rfl ?_
    refine XS.aloadN X24.here hx rfl (hD 58 rfl) rfl rfl ?_
    refine XS.iconst X24.here hx rfl (hD 59 rfl) ?_
    refine XS.aload X24.here hx rfl (hD 60 rfl) rfl rfl ?_
    refine XS.aloadN X24.here hx rfl (hD 61 rfl) rfl rfl ?_
    exact k))
  obtain ⟨T26, X26, e26, st26⟩ := getF X24 hx hZ hown (host := "") (Or.inl (hw _ (mi 181 rfl))) Via.refl e24 (W18q.fld (i := 0) rfl (j := 24) rfl rfl) (g := K25.g) rfl rfl (hD 62 rfl)
  have K27 : Rc K0 T26 (mkF m 263 #[sR r, sI 0, sR vv, sI (Int32.ofNat u), sR pp, sI 0, sI 1, sI (Int32.ofNat (u + 1)), sI 1, sR bk] [(kI (Int32.ofNat u)), (kI (Int32.ofNat (u + 1))), (kR bk), (kI 0), (kR vv)]) := fun t k => K25 t (st26 t (XS.iloadN X26.here hx rfl (hD 63 rfl) rfl k))
  obtain ⟨T28, h28, L28, X28, e28, N28, W28q, st28⟩ := cpW X26 hx hZ hown (hw _ (mi 117 rfl)) (hw _ (mi 120 rfl)) (hw _ (mi 118 rfl)) (hw _ (mi 119 rfl)) e26 W18q N18 (i := 11) (j := 4) rfl rfl rfl (sp := (0 : Int32)) (dp := (Int32.ofNat (u + 1))) (nn := (Int32.ofNat u)) (s' := 0) (d' := (u + 1)) (k' := u) (by decide) (own_nn (by omega)) (own_nn (by omega)) (by decide) (own_tn (by omega)) (own_tn (by omega)) (by omega) (by omega) (g := K27.g) rfl (by rw [hml]; rfl) (rest := []) rfl (hD 64 rfl) (by decide) (W0 := 0) (by show 2 * 0 + _ ≤ _; exact Nat.le_of_eq rfl) (by decide)
  have K29 : Rc K0 T28 (mkF m 272 #[sR r, sI 0, sR vv, sI (Int32.ofNat u), sR pp, sI 0, sI 1, sI (Int32.ofNat (u + 1)), sI 1, sR bk] [(kR r), (kR bk), (kI 0), (kR pp)]) := fun t k => K27 t (st28 t (by
    refine XS.aload X28.here hx rfl (hD 65 rfl) rfl rfl ?_
    refine XS.iconst X28.here hx rfl (hD 66 rfl) ?_
    refine XS.aload X28.here hx rfl (hD 67 rfl) rfl rfl ?_
    refine XS.aloadN X28.here hx rfl (hD 68 rfl) rfl rfl ?_
    exact k))
  obtain ⟨T30, X30, e30, st30⟩ := getF X28 hx hZ hown (host := "") (Or.inl (hw _ (mi 181 rfl))) Via.refl e28 (W28q.fld (i := 0) rfl (j := 24) rfl rfl) (g := K29.g) rfl rfl (hD 69 rfl)
  have K31 : Rc K0 T30 (mkF m 279 #[sR r, sI 0, sR vv, sI (Int32.ofNat u), sR pp, sI 0, sI 1, sI (Int32.ofNat (u + 1)), sI 1, sR bk] [(kI 1), (kI (Int32.ofNat ((u + 1) + u))), (kR bk), (kI 0), (kR pp)]) := fun t k => K29 t (st30 t (by
    refine XS.iloadN X30.here hx rfl (hD 70 rfl) rfl ?_
    refine XS.iadd X30.here hx rfl (hD 71 rfl) rfl ?_
    show Steps p.tables e below (T30.setTop (mkF m 277 #[sR r, sI 0, sR vv, sI (Int32.ofNat u), sR pp, sI 0, sI 1, sI (Int32.ofNat (u + 1)), sI 1, sR bk] [(kI ((Int32.ofNat (u + 1)) + (Int32.ofNat u))), (kR bk), (kI 0), (kR pp)])) _
    rw [own_add (u + 1) u]
    show Steps p.tables e below (T30.setTop (mkF m 277 #[sR r, sI 0, sR vv, sI (Int32.ofNat u), sR pp, sI 0, sI 1, sI (Int32.ofNat (u + 1)), sI 1, sR bk] [(kI (Int32.ofNat ((u + 1) + u))), (kR bk), (kI 0), (kR pp)])) _
    refine XS.iload X30.here hx rfl (hD 72 rfl) rfl ?_
    exact k))
  obtain ⟨T32, h32, L32, X32, e32, N32, W32q, st32⟩ := cpW X30 hx hZ hown (hw _ (mi 117 rfl)) (hw _ (mi 120 rfl)) (hw _ (mi 118 rfl)) (hw _ (mi 119 rfl)) e30 W28q N28 (i := 12) (j := 4) rfl rfl rfl (sp := (0 : Int32)) (dp := (Int32.ofNat ((u + 1) + u))) (nn := (1 : Int32)) (s' := 0) (d' := ((u + 1) + u)) (k' := 1) (by decide) (own_nn (by omega)) (by decide) (by decide) (own_tn (by omega)) (by decide) (by omega) (by omega) (g := K31.g) rfl (by rw [hml]; rfl) (rest := []) rfl (hD 73 rfl) (by decide) (W0 := 0) (by show 2 * 0 + _ ≤ _; exact Nat.le_of_eq rfl) (by decide)
  have K33 : Rc K0 T32 (mkF m 283 #[sR r, sI 0, sR vv, sI (Int32.ofNat u), sR pp, sI 0, sI 1, sI (Int32.ofNat (u + 1)), sI 1, sR bk] [(kR r)]) := fun t k => K31 t (st32 t (XS.aloadN X32.here hx rfl (hD 74 rfl) rfl rfl k))
  obtain ⟨T34, X34, e34, st34⟩ := getF X32 hx hZ hown (host := "") (Or.inl (hw _ (mi 155 rfl))) Via.refl e32 (W32q.fld (i := 0) rfl (j := 17) rfl rfl) (g := K33.g) rfl rfl (hD 75 rfl)
  have K35 : Rc K0 T34 (mkF m 289 #[sR r, sI 0, sR vv, sI (Int32.ofNat u), sR pp, sI 0, sI 1, sI (Int32.ofNat (u + 1)), sI 1, sR bk] [(kI 0), (kI 1), (kR so)]) := fun t k => K33 t (st34 t (by
    refine XS.iload X34.here hx rfl (hD 76 rfl) rfl ?_
    refine XS.iloadN X34.here hx rfl (hD 77 rfl) rfl ?_
    exact k))
  obtain ⟨T36, h36, L36, X36, e36, N36, W36q, st36⟩ := iasW X34 hx hZ e34 W32q N32 (i := 6) (a := so) rfl (j := (1 : Int32)) (x := (0 : Int32)) (k := 1) (by decide) (by decide) (by decide) (g := K35.g) rfl rfl (hD 78 rfl)
  have W36 : Wo n0 h36 ((r, oR Z [(kR ks), (kR rgs), (kR ns), (kR fch), (kR fk), (kR kl), (kR frg), (kR fac), (kR fcm), (kR ftr), (kR acs), (kR cms), (kR sus), (kR prb), (kI 1), (kR lr), (kI 2), (kR so), (kR nr), (kR bo), (kR shf), (kR vcn), (kR bl), (kI 2), (kI (Int32.ofNat (u + 1)))]) :: (ftr, Ar Z .int 17 g_ftr) :: (fch, Ar Z .int 17 g_fch) :: (bl, Pg Z .double 4 g_bl) :: (bk, Ar Z .double 64 (cpy g_pp (cpy g_vv g_bk 0 (u + 1) u) 0 ((u + 1) + u) 1)) :: (lr, Ar Z .int 4 g_lr) :: (so, Ar Z .int 4 (upd g_so 1 (kI 0))) :: (nr, Ar Z .int 4 g_nr) :: (bo, Ar Z .int 4 g_bo) :: (shf, Ar Z .int 4 g_shf) :: (vcn, Ar Z .int 4 g_vcn) :: (vv, Ar Z .double 4 g_vv) :: (pp, Ar Z .double 1 g_pp) :: Rr) := W36q
  have K37 : Rc K0 T36 (mkF m 291 #[sR r, sI 0, sR vv, sI (Int32.ofNat u), sR pp, sI 0, sI 1, sI (Int32.ofNat (u + 1)), sI 1, sR bk] [(kR r)]) := fun t k => K35 t (st36 t (XS.aloadN X36.here hx rfl (hD 79 rfl) rfl rfl k))
  obtain ⟨T38, X38, e38, st38⟩ := getF X36 hx hZ hown (host := "") (Or.inl (hw _ (mi 157 rfl))) Via.refl e36 (W36.fld (i := 0) rfl (j := 18) rfl rfl) (g := K37.g) rfl rfl (hD 80 rfl)
  have K39 : Rc K0 T38 (mkF m 297 #[sR r, sI 0, sR vv, sI (Int32.ofNat u), sR pp, sI 0, sI 1, sI (Int32.ofNat (u + 1)), sI 1, sR bk] [(kR r), (kI 1), (kR nr)]) := fun t k => K37 t (st38 t (by
    refine XS.iload X38.here hx rfl (hD 81 rfl) rfl ?_
    refine XS.aloadN X38.here hx rfl (hD 82 rfl) rfl rfl ?_
    exact k))
  obtain ⟨T40, X40, e40, st40⟩ := getF X38 hx hZ hown (host := "") (Or.inl (hw _ (mi 107 rfl))) Via.refl e38 (W36.fld (i := 0) rfl (j := 15) rfl rfl) (g := K39.g) rfl rfl (hD 83 rfl)
  have K41 : Rc K0 T40 (mkF m 302 #[sR r, sI 0, sR vv, sI (Int32.ofNat u), sR pp, sI 0, sI 1, sI (Int32.ofNat (u + 1)), sI 1, sR bk] [(kI 0), (kI 1), (kR nr)]) := fun t k => K39 t (st40 t (by
    refine XS.iloadN X40.here hx rfl (hD 84 rfl) rfl ?_
    refine ialW X40 hx hZ e40 W36 (i := 5) rfl (j := (0 : Int32)) (k := 0) (by decide) (by decide) (by decide) (v := (.int (0 : Int32))) h6 (g := (mkF m 301 #[sR r, sI 0, sR vv, sI (Int32.ofNat u), sR pp, sI 0, sI 1, sI (Int32.ofNat (u + 1)), sI 1, sR bk] [(kI 0), (kR lr), (kI 1), (kR nr)])) rfl rfl (hD 85 rfl) _ ?_
    exact k))
  obtain ⟨T42, h42, L42, X42, e42, N42, W42q, st42⟩ := iasW X40 hx hZ e40 W36 N36 (i := 7) (a := nr) rfl (j := (1 : Int32)) (x := (0 : Int32)) (k := 1) (by decide) (by decide) (by decide) (g := K41.g) rfl rfl (hD 86 rfl)
  have K43 : Rc K0 T42 (mkF m 304 #[sR r, sI 0, sR vv, sI (Int32.ofNat u), sR pp, sI 0, sI 1, sI (Int32.ofNat (u + 1)), sI 1, sR bk] [(kR r)]) := fun t k => K41 t (st42 t (XS.aloadN X42.here hx rfl (hD 87 rfl) rfl rfl k))
  obtain ⟨T44, X44, e44, st44⟩ := getF X42 hx hZ hown (host := "") (Or.inl (hw _ (mi 107 rfl))) Via.refl e42 (W42q.fld (i := 0) rfl (j := 15) rfl rfl) (g := K43.g) rfl rfl (hD 88 rfl)
  have K45 : Rc K0 T44 (mkF m 310 #[sR r, sI 0, sR vv, sI (Int32.ofNat u), sR pp, sI 0, sI 1, sI (Int32.ofNat (u + 1)), sI 1, sR bk] [(kI 1), (kI 0), (kR lr)]) := fun t k => K43 t (st44 t (by
    refine XS.iloadN X44.here hx rfl (hD 89 rfl) rfl ?_
    refine XS.iload X44.here hx rfl (hD 90 rfl) rfl ?_
    exact k))
  obtain ⟨T46, h46, L46, X46, e46, N46, W46q, st46⟩ := iasW X44 hx hZ e44 W42q N42 (i := 5) (a := lr) rfl (j := (0 : Int32)) (x := (1 : Int32)) (k := 0) (by decide) (by decide) (by decide) (g := K45.g) rfl rfl (hD 91 rfl)
  have K47 : Rc K0 T46 (mkF m 312 #[sR r, sI 0, sR vv, sI (Int32.ofNat u), sR pp, sI 0, sI 1, sI (Int32.ofNat (u + 1)), sI 1, sR bk] [(kR r)]) := fun t k => K45 t (st46 t (XS.aloadN X46.here hx rfl (hD 92 rfl) rfl rfl k))
  obtain ⟨T48, X48, e48, st48⟩ := getF X46 hx hZ hown (host := "") (Or.inl (hw _ (mi 159 rfl))) Via.refl e46 (W46q.fld (i := 0) rfl (j := 19) rfl rfl) (g := K47.g) rfl rfl (hD 93 rfl)
  have K49 : Rc K0 T48 (mkF m 318 #[sR r, sI 0, sR vv, sI (Int32.ofNat u), sR pp, sI 0, sI 1, sI (Int32.ofNat (u + 1)), sI 1, sR bk] [(kR r), (kI 1), (kR bo)]) := fun t k => K47 t (st48 t (by
    refine XS.iload X48.here hx rfl (hD 94 rfl) rfl ?_
    refine XS.aloadN X48.here hx rfl (hD 95 rfl) rfl rfl ?_
    exact k))
  obtain ⟨T50, X50, e50, st50⟩ := getF X48 hx hZ hown (host := "") (Or.inl (hw _ (mi 170 rfl))) Via.refl e48 (W46q.fld (i := 0) rfl (j := 23) rfl rfl) (g := K49.g) rfl rfl (hD 96 rfl)
  have K51 : Rc K0 T50 (mkF m 323 #[sR r, sI 0, sR vv, sI (Int32.ofNat u), sR pp, sI 0, sI 1, sI (Int32.ofNat (u + 1)), sI 1, sR bk] [(kI 1), (kI 1), (kR bo)]) := fun t k => K49 t (st50 t (by
    refine XS.iconst X50.here hx rfl (hD 97 rfl) ?_
    refine XS.isub X50.here hx rfl (hD 98 rfl) rfl ?_
    exact k))
  obtain ⟨T52, h52, L52, X52, e52, N52, W52q, st52⟩ := iasW X50 hx hZ e50 W46q N46 (i := 8) (a := bo) rfl (j := (1 : Int32)) (x := (1 : Int32)) (k := 1) (by decide) (by decide) (by decide) (g := K51.g) rfl rfl (hD 99 rfl)
  have K53 : Rc K0 T52 (mkF m 325 #[sR r, sI 0, sR vv, sI (Int32.ofNat u), sR pp, sI 0, sI 1, sI (Int32.ofNat (u + 1)), sI 1, sR bk] [(kR r)]) := fun t k => K51 t (st52 t (XS.aloadN X52.here hx rfl (hD 100 rfl) rfl rfl k))
  obtain ⟨T54, X54, e54, st54⟩ := getF X52 hx hZ hown (host := "") (Or.inl (hw _ (mi 161 rfl))) Via.refl e52 (W52q.fld (i := 0) rfl (j := 20) rfl rfl) (g := K53.g) rfl rfl (hD 101 rfl)
  have K55 : Rc K0 T54 (mkF m 331 #[sR r, sI 0, sR vv, sI (Int32.ofNat u), sR pp, sI 0, sI 1, sI (Int32.ofNat (u + 1)), sI 1, sR bk] [(kR r), (kI 1), (kR shf)]) := fun t k => K53 t (st54 t (by
    refine XS.iload X54.here hx rfl (hD 102 rfl) rfl ?_
    refine XS.aloadN X54.here hx rfl (hD 103 rfl) rfl rfl ?_
    exact k))
  obtain ⟨T56, X56, e56, st56⟩ := getF X54 hx hZ hown (host := "") (Or.inl (hw _ (mi 181 rfl))) Via.refl e54 (W52q.fld (i := 0) rfl (j := 24) rfl rfl) (g := K55.g) rfl rfl (hD 104 rfl)
  have K57 : Rc K0 T56 (mkF m 339 #[sR r, sI 0, sR vv, sI (Int32.ofNat u), sR pp, sI 0, sI 1, sI (Int32.ofNat (u + 1)), sI 1, sR bk] [(kI ((Int32.ofNat ((u + 1) + u)) - (0 : Int32))), (kI 1), (kR shf)]) := fun t k => K55 t (st56 t (by
    refine XS.iloadN X56.here hx rfl (hD 105 rfl) rfl ?_
    refine XS.iadd X56.here hx rfl (hD 106 rfl) rfl ?_
    show Steps p.tables e below (T56.setTop (mkF m 336 #[sR r, sI 0, sR vv, sI (Int32.ofNat u), sR pp, sI 0, sI 1, sI (Int32.ofNat (u + 1)), sI 1, sR bk] [(kI ((Int32.ofNat (u + 1)) + (Int32.ofNat u))), (kI 1), (kR shf)])) _
    rw [own_add (u + 1) u]
    show Steps p.tables e below (T56.setTop (mkF m 336 #[sR r, sI 0, sR vv, sI (Int32.ofNat u), sR pp, sI 0, sI 1, sI (Int32.ofNat (u + 1)), sI 1, sR bk] [(kI (Int32.ofNat ((u + 1) + u))), (kI 1), (kR shf)])) _
    refine XS.iload X56.here hx rfl (hD 107 rfl) rfl ?_
    refine XS.isub X56.here hx rfl (hD 108 rfl) rfl ?_
    exact k))
  obtain ⟨T58, h58, L58, X58, e58, N58, W58q, st58⟩ := iasW X56 hx hZ e56 W52q N52 (i := 9) (a := shf) rfl (j := (1 : Int32)) (x := ((Int32.ofNat ((u + 1) + u)) - (0 : Int32))) (k := 1) (by decide) (by decide) (by decide) (g := K57.g) rfl rfl (hD 109 rfl)
  have W58 : Wo n0 h58 ((r, oR Z [(kR ks), (kR rgs), (kR ns), (kR fch), (kR fk), (kR kl), (kR frg), (kR fac), (kR fcm), (kR ftr), (kR acs), (kR cms), (kR sus), (kR prb), (kI 1), (kR lr), (kI 2), (kR so), (kR nr), (kR bo), (kR shf), (kR vcn), (kR bl), (kI 2), (kI (Int32.ofNat (u + 1)))]) :: (ftr, Ar Z .int 17 g_ftr) :: (fch, Ar Z .int 17 g_fch) :: (bl, Pg Z .double 4 g_bl) :: (bk, Ar Z .double 64 (cpy g_pp (cpy g_vv g_bk 0 (u + 1) u) 0 ((u + 1) + u) 1)) :: (lr, Ar Z .int 4 (upd g_lr 0 (kI 1))) :: (so, Ar Z .int 4 (upd g_so 1 (kI 0))) :: (nr, Ar Z .int 4 (upd g_nr 1 (kI 0))) :: (bo, Ar Z .int 4 (upd g_bo 1 (kI 1))) :: (shf, Ar Z .int 4 (upd g_shf 1 (kI ((Int32.ofNat ((u + 1) + u)) - (0 : Int32))))) :: (vcn, Ar Z .int 4 g_vcn) :: (vv, Ar Z .double 4 g_vv) :: (pp, Ar Z .double 1 g_pp) :: Rr) := W58q
  have K59 : Rc K0 T58 (mkF m 341 #[sR r, sI 0, sR vv, sI (Int32.ofNat u), sR pp, sI 0, sI 1, sI (Int32.ofNat (u + 1)), sI 1, sR bk] [(kR r)]) := fun t k => K57 t (st58 t (XS.aloadN X58.here hx rfl (hD 110 rfl) rfl rfl k))
  obtain ⟨T60, X60, e60, st60⟩ := getF X58 hx hZ hown (host := "") (Or.inl (hw _ (mi 163 rfl))) Via.refl e58 (W58.fld (i := 0) rfl (j := 21) rfl rfl) (g := K59.g) rfl rfl (hD 111 rfl)
  have K61 : Rc K0 T60 (mkF m 347 #[sR r, sI 0, sR vv, sI (Int32.ofNat u), sR pp, sI 0, sI 1, sI (Int32.ofNat (u + 1)), sI 1, sR bk] [(kI (Int32.ofNat u)), (kI 1), (kR vcn)]) := fun t k => K59 t (st60 t (by
    refine XS.iload X60.here hx rfl (hD 112 rfl) rfl ?_
    refine XS.iloadN X60.here hx rfl (hD 113 rfl) rfl ?_
    exact k))
  obtain ⟨T62, h62, L62, X62, e62, N62, W62q, st62⟩ := iasW X60 hx hZ e60 W58 N58 (i := 10) (a := vcn) rfl (j := (1 : Int32)) (x := (Int32.ofNat u)) (k := 1) (by decide) (by decide) (by decide) (g := K61.g) rfl rfl (hD 114 rfl)
  have K63 : Rc K0 T62 (mkF m 350 #[sR r, sI 0, sR vv, sI (Int32.ofNat u), sR pp, sI 0, sI 1, sI (Int32.ofNat (u + 1)), sI 1, sR bk] [(kR r), (kR r)]) := fun t k => K61 t (st62 t (by
    refine XS.aloadN X62.here hx rfl (hD 115 rfl) rfl rfl ?_
    refine XS.dup X62.here hx rfl (hD 116 rfl) rfl rfl ?_
    exact k))
  obtain ⟨T64, X64, e64, st64⟩ := getF X62 hx hZ hown (host := "") (Or.inl (hw _ (mi 181 rfl))) Via.refl e62 (W62q.fld (i := 0) rfl (j := 24) rfl rfl) (g := K63.g) rfl rfl (hD 117 rfl)
  have K65 : Rc K0 T64 (mkF m 356 #[sR r, sI 0, sR vv, sI (Int32.ofNat u), sR pp, sI 0, sI 1, sI (Int32.ofNat (u + 1)), sI 1, sR bk] [(kI (Int32.ofNat ((u + 1) + (u + 1)))), (kR r)]) := fun t k => K63 t (st64 t (by
    refine XS.iload X64.here hx rfl (hD 118 rfl) rfl ?_
    refine XS.iadd X64.here hx rfl (hD 119 rfl) rfl ?_
    show Steps p.tables e below (T64.setTop (mkF m 356 #[sR r, sI 0, sR vv, sI (Int32.ofNat u), sR pp, sI 0, sI 1, sI (Int32.ofNat (u + 1)), sI 1, sR bk] [(kI ((Int32.ofNat (u + 1)) + (Int32.ofNat (u + 1)))), (kR r)])) _
    rw [own_add (u + 1) (u + 1)]
    exact k))
  obtain ⟨T66, h66, L66, X66, e66, N66, W66q, st66⟩ := putW X64 hx hZ hown (host := "") (Or.inl (hw _ (mi 181 rfl))) e64 W62q N62 (own_dR hw) (Or.inl (hw _ (mi 182 rfl))) (hw _ (mi 8 rfl)) (ty := .int) (by decide +kernel) (i := 0) (a := r) rfl (j := 24) rfl rfl (v := (.int (Int32.ofNat ((u + 1) + (u + 1))))) rfl rfl (g := K65.g) rfl rfl (hD 120 rfl)
  have K67 : Rc K0 T66 (mkF m 361 #[sR r, sI 0, sR vv, sI (Int32.ofNat u), sR pp, sI 0, sI 1, sI (Int32.ofNat (u + 1)), sI 1, sR bk] [(kI 1)]) := fun t k => K65 t (st66 t (XS.iload X66.here hx rfl (hD 121 rfl) rfl k))
  obtain ⟨fs, hr, hrun, hended, hWm, hsame⟩ := X66.leave (v := some (.int (1 : Int32))) (fun h => by rw [Bd.returns] at h; cases h)
  refine ⟨_, _, pre0 _ (K67 _ (retI X66 hx Bd.returns (hD 122 rfl) hr)), hrun, hended, _, _, rfl, ?_, ⟨_, rfl⟩, hWm, hsame.mono (by decide) (by decide)⟩
  show QrmPL01 Z r ks rgs ns fch fk kl frg fac fcm ftr acs cms sus prb lr so nr bo shf vcn bl bk vv pp u g_ftr g_fch g_bl g_bk g_lr g_so g_nr g_bo g_shf g_vcn g_vv g_pp Rr n0 _ T66.heap _
  rw [e66]
  exact ⟨rfl, N66, W66q⟩
theorem ef_rmPL12 (m : MethodId) (r ks rgs ns fch fk kl frg fac fcm ftr acs cms sus prb : Addr) (lr so nr bo shf vcn bl bk vv pp : Addr) (u : Nat) (g_ftr g_fch g_bl g_bk g_lr g_so g_nr g_bo g_shf g_vcn g_vv g_pp : Nat → Value) : entryFrame m #[(.ref r), (.int (1 : Int32)), (.ref vv), (.int (Int32.ofNat u)), (.ref pp)] 10 = mkF m 0 #[.val (.ref r), .val (.int (1 : Int32)), .val (.ref vv), .val (.int (Int32.ofNat u)), .val (.ref pp), .unset, .unset, .unset, .unset, .unset] [] := by first | (simp [entryFrame, mkF, argsToLocals, Value.category]; done) | rfl
def QrmPL12 (Z : State) (r ks rgs ns fch fk kl frg fac fcm ftr acs cms sus prb : Addr) (lr so nr bo shf vcn bl bk vv pp : Addr) (u : Nat) (g_ftr g_fch g_bl g_bk g_lr g_so g_nr g_bo g_shf g_vcn g_vv g_pp : Nat → Value) (Rr : List (Addr × (Cell → Prop))) (n0 : Nat) (v : Option Value) (h : Heap) (L : List Loc) : Prop := v = some (.int (2 : Int32)) ∧ Fr n0 L ∧ Wo n0 h ((r, oR Z [(kR ks), (kR rgs), (kR ns), (kR fch), (kR fk), (kR kl), (kR frg), (kR fac), (kR fcm), (kR ftr), (kR acs), (kR cms), (kR sus), (kR prb), (kI 2), (kR lr), (kI 3), (kR so), (kR nr), (kR bo), (kR shf), (kR vcn), (kR bl), (kI 2), (kI (Int32.ofNat ((u + 1) + (u + 1))))]) :: (ftr, Ar Z .int 17 g_ftr) :: (fch, Ar Z .int 17 g_fch) :: (bl, Pg Z .double 4 g_bl) :: (bk, Ar Z .double 64 (cpy g_pp (cpy g_vv g_bk 0 (u + 1) u) 0 ((u + 1) + u) 1)) :: (lr, Ar Z .int 4 (upd g_lr 1 (kI 2))) :: (so, Ar Z .int 4 (upd g_so 2 (kI 1))) :: (nr, Ar Z .int 4 (upd g_nr 2 (kI 1))) :: (bo, Ar Z .int 4 (upd g_bo 2 (kI 1))) :: (shf, Ar Z .int 4 (upd g_shf 2 (kI ((Int32.ofNat ((u + 1) + u)) - (1 : Int32))))) :: (vcn, Ar Z .int 4 (upd g_vcn 2 (kI (Int32.ofNat u)))) :: (vv, Ar Z .double 4 g_vv) :: (pp, Ar Z .double 1 g_pp) :: Rr)
set_option maxRecDepth 65536 in
set_option maxHeartbeats 40000000 in
theorem rmPL12 (l : Launch) (Z : State) (a0 : Array Value) (hw : ∀ d ∈ tables_1, d.before a0 Z = true) (ws : List Jvm.Cond) (r ks rgs ns fch fk kl frg fac fcm ftr acs cms sus prb : Addr) (lr so nr bo shf vcn bl bk vv pp : Addr) (u : Nat) (g_ftr g_fch g_bl g_bk g_lr g_so g_nr g_bo g_shf g_vcn g_vv g_pp : Nat → Value) (Rr : List (Addr × (Cell → Prop))) (h0 : Heap) (n0 : Nat) (W0 : Wo n0 h0 ((r, oR Z [(kR ks), (kR rgs), (kR ns), (kR fch), (kR fk), (kR kl), (kR frg), (kR fac), (kR fcm), (kR ftr), (kR acs), (kR cms), (kR sus), (kR prb), (kI 2), (kR lr), (kI 2), (kR so), (kR nr), (kR bo), (kR shf), (kR vcn), (kR bl), (kI 2), (kI (Int32.ofNat (u + 1)))]) :: (ftr, Ar Z .int 17 g_ftr) :: (fch, Ar Z .int 17 g_fch) :: (bl, Pg Z .double 4 g_bl) :: (bk, Ar Z .double 64 g_bk) :: (lr, Ar Z .int 4 g_lr) :: (so, Ar Z .int 4 g_so) :: (nr, Ar Z .int 4 g_nr) :: (bo, Ar Z .int 4 g_bo) :: (shf, Ar Z .int 4 g_shf) :: (vcn, Ar Z .int 4 g_vcn) :: (vv, Ar Z .double 4 g_vv) :: (pp, Ar Z .double 1 g_pp) :: Rr)) (hu1 : 1 ≤ u) (hu4 : u ≤ 4) (h1 : g_ftr 1 = .int 1) (h2 : g_ftr 2 = .int 2) (h3 : g_fch 1 = .int 1) (h4 : g_fch 2 = .int 2) (h5 : g_bl 1 = .ref bk) (h6 : g_lr 1 = .int (1 : Int32)) :
    MetFree l y_pl (head1 (Jvm.Cond.code y_pl prog_87_method_5_code 10 (some .int) :: ws) ({ frames := 1, cells := 0, slots := 0, locals := 18 } : Room)) (fun aa U => aa = #[(.ref r), (.int (1 : Int32)), (.ref vv), (.int (Int32.ofNat u)), (.ref pp)] ∧ Z.Warmed39 U.vm ∧ U.heap = h0) (fun _ _ _ _ _ => True) (fun _ U ou U' => ∃ v L, ou = .returned v ∧ QrmPL12 Z r ks rgs ns fch fk kl frg fac fcm ftr acs cms sus prb lr so nr bo shf vcn bl bk vv pp u g_ftr g_fch g_bl g_bk g_lr g_so g_nr g_bo g_shf g_vcn g_vv g_pp Rr n0 v U'.heap L ∧ FrameEnd U ou U' L ({ frames := 1, cells := 0, slots := 0, locals := 18 } : Room).cells ({ frames := 1, cells := 0, slots := 0, locals := 18 } : Room).slots) := by
  refine MetFree.of_bodySF (plainFor_of_name pn_Rows) hisR ?_
  intro p e s m args below meth c s₁ Bd hml0 hP hK
  obtain ⟨rfl, hZ, hh⟩ := hP
  have hx := Bd.exec
  have hby := Bd.bytes
  have hml : c.maxLocals = 10 := hml0
  have hD : ∀ (k : Nat) {pc : Nat} {i : Instr} {n : Nat}, Ld_pl[k]? = some (pc, i, n) → decode c.code pc = .ok (i, n) := by intro k pc i n h; exact hb hby (d_pl (pc, i, n) (mi k h))
  have hown : s.vm.findClass "com/example/sambre/sambre/engine/Rows" = some m.cls := findClass_of_methodNamed Bd.named
  have hnm := (name_of_methodNamed Bd.named Bd.method).1
  have X0 : Stand p l e ({ frames := 1, cells := 0, slots := 0, locals := 18 } : Room) s m #[(.ref r), (.int (1 : Int32)), (.ref vv), (.int (Int32.ofNat u)), (.ref pp)] below meth c s₁ [] 0 0 := Stand.of_body Bd
  have e0 : s₁.heap = h0 := by rw [← hh, Bd.state]; rfl
  have N0 := Fr.nil n0
  obtain ⟨F0, hF0⟩ : ∃ F, F = mkF m 0 #[.val (.ref r), .val (.int (1 : Int32)), .val (.ref vv), .val (.int (Int32.ofNat u)), .val (.ref pp), .unset, .unset, .unset, .unset, .unset] [] := ⟨_, rfl⟩
  have pre0 : ∀ t, Steps p.tables e below (s₁.setTop F0) t → Steps p.tables e below (s₁.setTop (entryFrame m #[(.ref r), (.int (1 : Int32)), (.ref vv), (.int (Int32.ofNat u)), (.ref pp)] 10)) t := fun t k => castTop ((ef_rmPL12 m r ks rgs ns fch fk kl frg fac fcm ftr acs cms sus prb lr so nr bo shf vcn bl bk vv pp u g_ftr g_fch g_bl g_bk g_lr g_so g_nr g_bo g_shf g_vcn g_vv g_pp).trans hF0.symm) k
  have K0 : Rch p e below s₁ F0 s₁ (mkF m 0 #[.val (.ref r), .val (.int (1 : Int32)), .val (.ref vv), .val (.int (Int32.ofNat u)), .val (.ref pp), .unset, .unset, .unset, .unset, .unset] []) := fun t k => castTop hF0 k
  have K1 : Rc K0 s₁ (mkF m 1 #[sR r, sI 1, sR vv, sI (Int32.ofNat u), sR pp, sU, sU, sU, sU, sU] [(kR r)]) := fun t k => K0 t (XS.aloadN X0.here hx rfl (hD 0 rfl) rfl rfl k)
  obtain ⟨T2, X2, e2, st2⟩ := getF X0 hx hZ hown (host := "") (Or.inl (hw _ (mi 34 rfl))) Via.refl e0 (W0.fld (i := 0) rfl (j := 9) rfl rfl) (g := K1.g) rfl rfl (hD 1 rfl)
  have K3 : Rc K0 T2 (mkF m 5 #[sR r, sI 1, sR vv, sI (Int32.ofNat u), sR pp, sU, sU, sU, sU, sU] [(kR r), (kR ftr)]) := fun t k => K1 t (st2 t (XS.aloadN X2.here hx rfl (hD 2 rfl) rfl rfl k))
  obtain ⟨T4, X4, e4, st4⟩ := getF X2 hx hZ hown (host := "") (Or.inl (hw _ (mi 22 rfl))) Via.refl e2 (W0.fld (i := 0) rfl (j := 3) rfl rfl) (g := K3.g) rfl rfl (hD 3 rfl)
  have K5 : Rc K0 T4 (mkF m 14 #[sR r, sI 1, sR vv, sI (Int32.ofNat u), sR pp, sI 1, sU, sU, sU, sU] [(kR r)]) := fun t k => K3 t (st4 t (by
    refine XS.iloadN X4.here hx rfl (hD 4 rfl) rfl ?_
    refine ialW X4 hx hZ e4 W0 (i := 2) rfl (j := (1 : Int32)) (k := 1) (by decide) (by decide) (by decide) (v := (.int (1 : Int32))) h3 (g := (mkF m 9 #[sR r, sI 1, sR vv, sI (Int32.ofNat u), sR pp, sU, sU, sU, sU, sU] [(kI 1), (kR fch), (kR ftr)])) rfl rfl (hD 5 rfl) _ ?_
    refine ialW X4 hx hZ e4 W0 (i := 1) rfl (j := (1 : Int32)) (k := 1) (by decide) (by decide) (by decide) (v := (.int (1 : Int32))) h1 (g := (mkF m 10 #[sR r, sI 1, sR vv, sI (Int32.ofNat u), sR pp, sU, sU, sU, sU, sU] [(kI 1), (kR ftr)])) rfl rfl (hD 6 rfl) _ ?_
    refine XS.istore X4.here hx rfl (hD 7 rfl) rfl (l' := #[sR r, sI 1, sR vv, sI (Int32.ofNat u), sR pp, sI 1, sU, sU, sU, sU]) rfl ?_
    refine XS.aloadN X4.here hx rfl (hD 8 rfl) rfl rfl ?_
    exact k))
  obtain ⟨T6, X6, e6, st6⟩ := getF X4 hx hZ hown (host := "") (Or.inl (hw _ (mi 34 rfl))) Via.refl e4 (W0.fld (i := 0) rfl (j := 9) rfl rfl) (g := K5.g) rfl rfl (hD 9 rfl)
  have K7 : Rc K0 T6 (mkF m 18 #[sR r, sI 1, sR vv, sI (Int32.ofNat u), sR pp, sI 1, sU, sU, sU, sU] [(kR r), (kR ftr)]) := fun t k => K5 t (st6 t (XS.aloadN X6.here hx rfl (hD 10 rfl) rfl rfl k))
  obtain ⟨T8, X8, e8, st8⟩ := getF X6 hx hZ hown (host := "") (Or.inl (hw _ (mi 22 rfl))) Via.refl e6 (W0.fld (i := 0) rfl (j := 3) rfl rfl) (g := K7.g) rfl rfl (hD 11 rfl)
  have K9 : Rc K0 T8 (mkF m 38 #[sR r, sI 1, sR vv, sI (Int32.ofNat u), sR pp, sI 1, sI 1, sI (Int32.ofNat (u + 1)), sU, sU] [(kR r)]) := fun t k => K7 t (st8 t (by
    refine XS.iloadN X8.here hx rfl (hD 12 rfl) rfl ?_
    refine XS.iconst X8.here hx rfl (hD 13 rfl) ?_
    refine XS.iadd X8.here hx rfl (hD 14 rfl) rfl ?_
    refine ialW X8 hx hZ e8 W0 (i := 2) rfl (j := (2 : Int32)) (k := 2) (by decide) (by decide) (by decide) (v := (.int (2 : Int32))) h4 (g := (mkF m 24 #[sR r, sI 1, sR vv, sI (Int32.ofNat u), sR pp, sI 1, sU, sU, sU, sU] [(kI 2), (kR fch), (kR ftr)])) rfl rfl (hD 15 rfl) _ ?_
    refine ialW X8 hx hZ e8 W0 (i := 1) rfl (j := (2 : Int32)) (k := 2) (by decide) (by decide) (by decide) (v := (.int (2 : Int32))) h2 (g := (mkF m 25 #[sR r, sI 1, sR vv, sI (Int32.ofNat u), sR pp, sI 1, sU, sU, sU, sU] [(kI 2), (kR ftr)])) rfl rfl (hD 16 rfl) _ ?_
    refine XS.iload X8.here hx rfl (hD 17 rfl) rfl ?_
    refine XS.isub X8.here hx rfl (hD 18 rfl) rfl ?_
    refine XS.istore X8.here hx rfl (hD 19 rfl) rfl (l' := #[sR r, sI 1, sR vv, sI (Int32.ofNat u), sR pp, sI 1, sI 1, sU, sU, sU]) rfl ?_
    refine XS.iloadN X8.here hx rfl (hD 20 rfl) rfl ?_
    refine XS.iload X8.here hx rfl (hD 21 rfl) rfl ?_
    refine XS.iadd X8.here hx rfl (hD 22 rfl) rfl ?_
    show Steps p.tables e below (T8.setTop (mkF m 35 #[sR r, sI 1, sR vv, sI (Int32.ofNat u), sR pp, sI 1, sI 1, sU, sU, sU] [(kI ((Int32.ofNat u) + (1 : Int32)))])) _
    rw [show (Int32.ofNat u) + (1 : Int32) = (Int32.ofNat (u + 1)) from own_add u 1]
    show Steps p.tables e below (T8.setTop (mkF m 35 #[sR r, sI 1, sR vv, sI (Int32.ofNat u), sR pp, sI 1, sI 1, sU, sU, sU] [(kI (Int32.ofNat (u + 1)))])) _
    refine XS.istore X8.here hx rfl (hD 23 rfl) rfl (l' := #[sR r, sI 1, sR vv, sI (Int32.ofNat u), sR pp, sI 1, sI 1, sI (Int32.ofNat (u + 1)), sU, sU]) rfl ?_
    refine XS.aloadN X8.here hx rfl (hD 24 rfl) rfl rfl ?_
    exact k))
  obtain ⟨T10, X10, e10, st10⟩ := getF X8 hx hZ hown (host := "") (Or.inl (hw _ (mi 181 rfl))) Via.refl e8 (W0.fld (i := 0) rfl (j := 24) rfl rfl) (g := K9.g) rfl rfl (hD 25 rfl)
  have K11 : Rc K0 T10 (mkF m 45 #[sR r, sI 1, sR vv, sI (Int32.ofNat u), sR pp, sI 1, sI 1, sI (Int32.ofNat (u + 1)), sU, sU] [(kR r), (kI (Int32.ofNat ((u + 1) + (u + 1))))]) := fun t k => K9 t (st10 t (by
    refine XS.iload X10.here hx rfl (hD 26 rfl) rfl ?_
    refine XS.iadd X10.here hx rfl (hD 27 rfl) rfl ?_
    show Steps p.tables e below (T10.setTop (mkF m 44 #[sR r, sI 1, sR vv, sI (Int32.ofNat u), sR pp, sI 1, sI 1, sI (Int32.ofNat (u + 1)), sU, sU] [(kI ((Int32.ofNat (u + 1)) + (Int32.ofNat (u + 1))))])) _
    rw [own_add (u + 1) (u + 1)]
    show Steps p.tables e below (T10.setTop (mkF m 44 #[sR r, sI 1, sR vv, sI (Int32.ofNat u), sR pp, sI 1, sI 1, sI (Int32.ofNat (u + 1)), sU, sU] [(kI (Int32.ofNat ((u + 1) + (u + 1))))])) _
    refine XS.aloadN X10.here hx rfl (hD 28 rfl) rfl rfl ?_
    exact k))
  obtain ⟨T12, X12, e12, st12⟩ := getF X10 hx hZ hown (host := "") (Or.inl (hw _ (mi 167 rfl))) Via.refl e10 (W0.fld (i := 0) rfl (j := 22) rfl rfl) (g := K11.g) rfl rfl (hD 29 rfl)
  have K13 : Rc K0 T12 (mkF m 49 #[sR r, sI 1, sR vv, sI (Int32.ofNat u), sR pp, sI 1, sI 1, sI (Int32.ofNat (u + 1)), sU, sU] [(kR r), (kR bl), (kI (Int32.ofNat ((u + 1) + (u + 1))))]) := fun t k => K11 t (st12 t (XS.aloadN X12.here hx rfl (hD 30 rfl) rfl rfl k))
  obtain ⟨T14, X14, e14, st14⟩ := getF X12 hx hZ hown (host := "") (Or.inl (hw _ (mi 170 rfl))) Via.refl e12 (W0.fld (i := 0) rfl (j := 23) rfl rfl) (g := K13.g) rfl rfl (hD 31 rfl)
  have K15 : Rc K0 T14 (mkF m 145 #[sR r, sI 1, sR vv, sI (Int32.ofNat u), sR pp, sI 1, sI 1, sI (Int32.ofNat (u + 1)), sU, sU] [(kR r), (kR r)]) := fun t k => K13 t (st14 t (by
    refine XS.iconst X14.here hx rfl (hD 32 rfl) ?_
    refine XS.isub X14.here hx rfl (hD 33 rfl) rfl ?_
    refine aalW X14 hx hZ e14 W0 (i := 3) rfl (fun _ q => q.1) rfl (j := (1 : Int32)) (k := 1) (by decide) (by decide) (by decide) (v := (.ref bk)) h5 (g := (mkF m 54 #[sR r, sI 1, sR vv, sI (Int32.ofNat u), sR pp, sI 1, sI 1, sI (Int32.ofNat (u + 1)), sU, sU] [(kI 1), (kR bl), (kI (Int32.ofNat ((u + 1) + (u + 1))))])) rfl rfl (hD 34 rfl) _ ?_
    refine lenW X14 hx hZ e14 W0 (i := 4) rfl (fun _ q => q) (z := (64 : Int32)) (by decide) (g := (mkF m 55 #[sR r, sI 1, sR vv, sI (Int32.ofNat u), sR pp, sI 1, sI 1, sI (Int32.ofNat (u + 1)), sU, sU] [(kR bk), (kI (Int32.ofNat ((u + 1) + (u + 1))))])) rfl rfl (hD 35 rfl) _ ?_
    refine XS.icmpYes X14.here hx rfl (pc0 := 56) (pc' := 143) rfl (hD 36 rfl) rfl (flt (own_nlt (a := 64) (b := u + 1 + (u + 1)) (by omega) (by decide))).2.2.2 (by decide) (by decide) ?_
    refine XS.aloadN X14.here hx rfl (hD 37 rfl) rfl rfl ?_
    refine XS.dup X14.here hx rfl (hD 38 rfl) rfl rfl ?_
    exact k))
  obtain ⟨T16, X16, e16, st16⟩ := getF X14 hx hZ hown (host := "") (Or.inl (hw _ (mi 127 rfl))) Via.refl e14 (W0.fld (i := 0) rfl (j := 16) rfl rfl) (g := K15.g) rfl rfl (hD 39 rfl)
  have K17 : Rc K0 T16 (mkF m 151 #[sR r, sI 1, sR vv, sI (Int32.ofNat u), sR pp, sI 1, sI 1, sI (Int32.ofNat (u + 1)), sU, sU] [(kI 3), (kR r), (kI 2)]) := fun t k => K15 t (st16 t (by
    refine XS.dupX1 X16.here hx rfl (hD 40 rfl) rfl rfl rfl ?_
    refine XS.iconst X16.here hx rfl (hD 41 rfl) ?_
    refine XS.iadd X16.here hx rfl (hD 42 rfl) rfl ?_
    exact k))
  obtain ⟨T18, h18, L18, X18, e18, N18, W18q, st18⟩ := putW X16 hx hZ hown (host := "") (Or.inl (hw _ (mi 127 rfl))) e16 W0 N0 (own_dR hw) (Or.inl (hw _ (mi 128 rfl))) (hw _ (mi 8 rfl)) (ty := .int) (by decide +kernel) (i := 0) (a := r) rfl (j := 16) rfl rfl (v := (.int (3 : Int32))) rfl rfl (g := K17.g) rfl rfl (hD 43 rfl)
  have K19 : Rc K0 T18 (mkF m 159 #[sR r, sI 1, sR vv, sI (Int32.ofNat u), sR pp, sI 1, sI 1, sI (Int32.ofNat (u + 1)), sI 2, sU] [(kR r), (kI 2)]) := fun t k => K17 t (st18 t (by
    refine XS.istore X18.here hx rfl (hD 44 rfl) rfl (l' := #[sR r, sI 1, sR vv, sI (Int32.ofNat u), sR pp, sI 1, sI 1, sI (Int32.ofNat (u + 1)), sI 2, sU]) rfl ?_
    refine XS.iload X18.here hx rfl (hD 45 rfl) rfl ?_
    refine XS.aloadN X18.here hx rfl (hD 46 rfl) rfl rfl ?_
    exact k))
  obtain ⟨T20, X20, e20, st20⟩ := getF X18 hx hZ hown (host := "") (Or.inl (hw _ (mi 155 rfl))) Via.refl e18 (W18q.fld (i := 0) rfl (j := 17) rfl rfl) (g := K19.g) rfl rfl (hD 47 rfl)
  have K21 : Rc K0 T20 (mkF m 242 #[sR r, sI 1, sR vv, sI (Int32.ofNat u), sR pp, sI 1, sI 1, sI (Int32.ofNat (u + 1)), sI 2, sU] [(kR r)]) := fun t k => K19 t (st20 t (by
    refine lenW X20 hx hZ e20 W18q (i := 6) rfl (fun _ q => q) (z := (4 : Int32)) (by decide) (g := (mkF m 162 #[sR r, sI 1, sR vv, sI (Int32.ofNat u), sR pp, sI 1, sI 1, sI (Int32.ofNat (u + 1)), sI 2, sU] [(kR so), (kI 2)])) rfl rfl (hD 48 rfl) _ ?_
    refine XS.icmpYes X20.here hx rfl (pc0 := 163) (pc' := 241) rfl (hD 49 rfl) rfl (by decide) (by decide) (by decide) ?_
    refine XS.aloadN X20.here hx rfl (hD 50 rfl) rfl rfl ?_
    exact k))
  obtain ⟨T22, X22, e22, st22⟩ := getF X20 hx hZ hown (host := "") (Or.inl (hw _ (mi 167 rfl))) Via.refl e20 (W18q.fld (i := 0) rfl (j := 22) rfl rfl) (g := K21.g) rfl rfl (hD 51 rfl)
  have K23 : Rc K0 T22 (mkF m 246 #[sR r, sI 1, sR vv, sI (Int32.ofNat u), sR pp, sI 1, sI 1, sI (Int32.ofNat (u + 1)), sI 2, sU] [(kR r), (kR bl)]) := fun t k => K21 t (st22 t (XS.aloadN X22.here hx rfl (hD 52 rfl) rfl rfl k))
  obtain ⟨T24, X24, e24, st24⟩ := getF X22 hx hZ hown (host := "") (Or.inl (hw _ (mi 170 rfl))) Via.refl e22 (W18q.fld (i := 0) rfl (j := 23) rfl rfl) (g := K23.g) rfl rfl (hD 53 rfl)
  have K25 : Rc K0 T24 (mkF m 259 #[sR r, sI 1, sR vv, sI (Int32.ofNat u), sR pp, sI 1, sI 1, sI (Int32.ofNat (u + 1)), sI 2, sR bk] [(kR r), (kR bk), (kI 0), (kR vv)]) := fun t k => K23 t (st24 t (by
    refine XS.iconst X24.here hx rfl (hD 54 rfl) ?_
    refine XS.isub X24.here hx rfl (hD 55 rfl) rfl ?_
    refine aalW X24 hx hZ e24 W18q (i := 3) rfl (fun _ q => q.1) rfl (j := (1 : Int32)) (k := 1) (by decide) (by decide) (by decide) (v := (.ref bk)) h5 (g := (mkF m 251 #[sR r, sI 1, sR vv, sI (Int32.ofNat u), sR pp, sI 1, sI 1, sI (Int32.ofNat (u + 1)), sI 2, sU] [(kI 1), (kR bl)])) rfl rfl (hD 56 rfl) _ ?_
    refine XS.astore X24.here hx rfl (hD 57 rfl) rfl rfl (l' := #[sR r, sI 1, sR vv, sI (Int32.ofNat u), sR pp, sI 1, sI 1, sI (Int32.ofNat (u + 1)), sI 2, sR bk]) rfl ?_
    refine XS.aloadN X24.here hx rfl (hD 58 rfl) rfl rfl ?_
    refine XS.iconst X24.here hx rfl (hD 59 rfl) ?_
    refine XS.aload X24.here hx rfl (hD 60 rfl) rfl rfl ?_
    refine XS.aloadN X24.here hx rfl (hD 61 rfl) rfl rfl ?_
    exact k))
  obtain ⟨T26, X26, e26, st26⟩ := getF X24 hx hZ hown (host := "") (Or.inl (hw _ (mi 181 rfl))) Via.refl e24 (W18q.fld (i := 0) rfl (j := 24) rfl rfl) (g := K25.g) rfl rfl (hD 62 rfl)
  have K27 : Rc K0 T26 (mkF m 263 #[sR r, sI 1, sR vv, sI (Int32.ofNat u), sR pp, sI 1, sI 1, sI (Int32.ofNat (u + 1)), sI 2, sR bk] [(kI (Int32.ofNat u)), (kI (Int32.ofNat (u + 1))), (kR bk), (kI 0), (kR vv)]) := fun t k => K25 t (st26 t (XS.iloadN X26.here hx rfl (hD 63 rfl) rfl k))
  obtain ⟨T28, h28, L28, X28, e28, N28, W28q, st28⟩ := cpW X26 hx hZ hown (hw _ (mi 117 rfl)) (hw _ (mi 120 rfl)) (hw _ (mi 118 rfl)) (hw _ (mi 119 rfl)) e26 W18q N18 (i := 11) (j := 4) rfl rfl rfl (sp := (0 : Int32)) (dp := (Int32.ofNat (u + 1))) (nn := (Int32.ofNat u)) (s' := 0) (d' := (u + 1)) (k' := u) (by decide) (own_nn (by omega)) (own_nn (by omega)) (by decide) (own_tn (by omega)) (own_tn (by omega)) (by omega) (by omega) (g := K27.g) rfl (by rw [hml]; rfl) (rest := []) rfl (hD 64 rfl) (by decide) (W0 := 0) (by show 2 * 0 + _ ≤ _; exact Nat.le_of_eq rfl) (by decide)
  have K29 : Rc K0 T28 (mkF m 272 #[sR r, sI 1, sR vv, sI (Int32.ofNat u), sR pp, sI 1, sI 1, sI (Int32.ofNat (u + 1)), sI 2, sR bk] [(kR r), (kR bk), (kI 0), (kR pp)]) := fun t k => K27 t (st28 t (by
    refine XS.aload X28.here hx rfl (hD 65 rfl) rfl rfl ?_
    refine XS.iconst X28.here hx rfl (hD 66 rfl) ?_
    refine XS.aload X28.here hx rfl (hD 67 rfl) rfl rfl ?_
    refine XS.aloadN X28.here hx rfl (hD 68 rfl) rfl rfl ?_
    exact k))
  obtain ⟨T30, X30, e30, st30⟩ := getF X28 hx hZ hown (host := "") (Or.inl (hw _ (mi 181 rfl))) Via.refl e28 (W28q.fld (i := 0) rfl (j := 24) rfl rfl) (g := K29.g) rfl rfl (hD 69 rfl)
  have K31 : Rc K0 T30 (mkF m 279 #[sR r, sI 1, sR vv, sI (Int32.ofNat u), sR pp, sI 1, sI 1, sI (Int32.ofNat (u + 1)), sI 2, sR bk] [(kI 1), (kI (Int32.ofNat ((u + 1) + u))), (kR bk), (kI 0), (kR pp)]) := fun t k => K29 t (st30 t (by
    refine XS.iloadN X30.here hx rfl (hD 70 rfl) rfl ?_
    refine XS.iadd X30.here hx rfl (hD 71 rfl) rfl ?_
    show Steps p.tables e below (T30.setTop (mkF m 277 #[sR r, sI 1, sR vv, sI (Int32.ofNat u), sR pp, sI 1, sI 1, sI (Int32.ofNat (u + 1)), sI 2, sR bk] [(kI ((Int32.ofNat (u + 1)) + (Int32.ofNat u))), (kR bk), (kI 0), (kR pp)])) _
    rw [own_add (u + 1) u]
    show Steps p.tables e below (T30.setTop (mkF m 277 #[sR r, sI 1, sR vv, sI (Int32.ofNat u), sR pp, sI 1, sI 1, sI (Int32.ofNat (u + 1)), sI 2, sR bk] [(kI (Int32.ofNat ((u + 1) + u))), (kR bk), (kI 0), (kR pp)])) _
    refine XS.iload X30.here hx rfl (hD 72 rfl) rfl ?_
    exact k))
  obtain ⟨T32, h32, L32, X32, e32, N32, W32q, st32⟩ := cpW X30 hx hZ hown (hw _ (mi 117 rfl)) (hw _ (mi 120 rfl)) (hw _ (mi 118 rfl)) (hw _ (mi 119 rfl)) e30 W28q N28 (i := 12) (j := 4) rfl rfl rfl (sp := (0 : Int32)) (dp := (Int32.ofNat ((u + 1) + u))) (nn := (1 : Int32)) (s' := 0) (d' := ((u + 1) + u)) (k' := 1) (by decide) (own_nn (by omega)) (by decide) (by decide) (own_tn (by omega)) (by decide) (by omega) (by omega) (g := K31.g) rfl (by rw [hml]; rfl) (rest := []) rfl (hD 73 rfl) (by decide) (W0 := 0) (by show 2 * 0 + _ ≤ _; exact Nat.le_of_eq rfl) (by decide)
  have K33 : Rc K0 T32 (mkF m 283 #[sR r, sI 1, sR vv, sI (Int32.ofNat u), sR pp, sI 1, sI 1, sI (Int32.ofNat (u + 1)), sI 2, sR bk] [(kR r)]) := fun t k => K31 t (st32 t (XS.aloadN X32.here hx rfl (hD 74 rfl) rfl rfl k))
  obtain ⟨T34, X34, e34, st34⟩ := getF X32 hx hZ hown (host := "") (Or.inl (hw _ (mi 155 rfl))) Via.refl e32 (W32q.fld (i := 0) rfl (j := 17) rfl rfl) (g := K33.g) rfl rfl (hD 75 rfl)
  have K35 : Rc K0 T34 (mkF m 289 #[sR r, sI 1, sR vv, sI (Int32.ofNat u), sR pp, sI 1, sI 1, sI (Int32.ofNat (u + 1)), sI 2, sR bk] [(kI 1), (kI 2), (kR so)]) := fun t k => K33 t (st34 t (by
    refine XS.iload X34.here hx rfl (hD 76 rfl) rfl ?_
    refine XS.iloadN X34.here hx rfl (hD 77 rfl) rfl ?_
    exact k))
  obtain ⟨T36, h36, L36, X36, e36, N36, W36q, st36⟩ := iasW X34 hx hZ e34 W32q N32 (i := 6) (a := so) rfl (j := (2 : Int32)) (x := (1 : Int32)) (k := 2) (by decide) (by decide) (by decide) (g := K35.g) rfl rfl (hD 78 rfl)
  have W36 : Wo n0 h36 ((r, oR Z [(kR ks), (kR rgs), (kR ns), (kR fch), (kR fk), (kR kl), (kR frg), (kR fac), (kR fcm), (kR ftr), (kR acs), (kR cms), (kR sus), (kR prb), (kI 2), (kR lr), (kI 3), (kR so), (kR nr), (kR bo), (kR shf), (kR vcn), (kR bl), (kI 2), (kI (Int32.ofNat (u + 1)))]) :: (ftr, Ar Z .int 17 g_ftr) :: (fch, Ar Z .int 17 g_fch) :: (bl, Pg Z .double 4 g_bl) :: (bk, Ar Z .double 64 (cpy g_pp (cpy g_vv g_bk 0 (u + 1) u) 0 ((u + 1) + u) 1)) :: (lr, Ar Z .int 4 g_lr) :: (so, Ar Z .int 4 (upd g_so 2 (kI 1))) :: (nr, Ar Z .int 4 g_nr) :: (bo, Ar Z .int 4 g_bo) :: (shf, Ar Z .int 4 g_shf) :: (vcn, Ar Z .int 4 g_vcn) :: (vv, Ar Z .double 4 g_vv) :: (pp, Ar Z .double 1 g_pp) :: Rr) := W36q
  have K37 : Rc K0 T36 (mkF m 291 #[sR r, sI 1, sR vv, sI (Int32.ofNat u), sR pp, sI 1, sI 1, sI (Int32.ofNat (u + 1)), sI 2, sR bk] [(kR r)]) := fun t k => K35 t (st36 t (XS.aloadN X36.here hx rfl (hD 79 rfl) rfl rfl k))
  obtain ⟨T38, X38, e38, st38⟩ := getF X36 hx hZ hown (host := "") (Or.inl (hw _ (mi 157 rfl))) Via.refl e36 (W36.fld (i := 0) rfl (j := 18) rfl rfl) (g := K37.g) rfl rfl (hD 80 rfl)
  have K39 : Rc K0 T38 (mkF m 297 #[sR r, sI 1, sR vv, sI (Int32.ofNat u), sR pp, sI 1, sI 1, sI (Int32.ofNat (u + 1)), sI 2, sR bk] [(kR r), (kI 2), (kR nr)]) := fun t k => K37 t (st38 t (by
    refine XS.iload X38.here hx rfl (hD 81 rfl) rfl ?_
    refine XS.aloadN X38.here hx rfl (hD 82 rfl) rfl rfl ?_
    exact k))
  obtain ⟨T40, X40, e40, st40⟩ := getF X38 hx hZ hown (host := "") (Or.inl (hw _ (mi 107 rfl))) Via.refl e38 (W36.fld (i := 0) rfl (j := 15) rfl rfl) (g := K39.g) rfl rfl (hD 83 rfl)
  have K41 : Rc K0 T40 (mkF m 302 #[sR r, sI 1, sR vv, sI (Int32.ofNat u), sR pp, sI 1, sI 1, sI (Int32.ofNat (u + 1)), sI 2, sR bk] [(kI 1), (kI 2), (kR nr)]) := fun t k => K39 t (st40 t (by
    refine XS.iloadN X40.here hx rfl (hD 84 rfl) rfl ?_
    refine ialW X40 hx hZ e40 W36 (i := 5) rfl (j := (1 : Int32)) (k := 1) (by decide) (by decide) (by decide) (v := (.int (1 : Int32))) h6 (g := (mkF m 301 #[sR r, sI 1, sR vv, sI (Int32.ofNat u), sR pp, sI 1, sI 1, sI (Int32.ofNat (u + 1)), sI 2, sR bk] [(kI 1), (kR lr), (kI 2), (kR nr)])) rfl rfl (hD 85 rfl) _ ?_
    exact k))
  obtain ⟨T42, h42, L42, X42, e42, N42, W42q, st42⟩ := iasW X40 hx hZ e40 W36 N36 (i := 7) (a := nr) rfl (j := (2 : Int32)) (x := (1 : Int32)) (k := 2) (by decide) (by decide) (by decide) (g := K41.g) rfl rfl (hD 86 rfl)
  have K43 : Rc K0 T42 (mkF m 304 #[sR r, sI 1, sR vv, sI (Int32.ofNat u), sR pp, sI 1, sI 1, sI (Int32.ofNat (u + 1)), sI 2, sR bk] [(kR r)]) := fun t k => K41 t (st42 t (XS.aloadN X42.here hx rfl (hD 87 rfl) rfl rfl k))
  obtain ⟨T44, X44, e44, st44⟩ := getF X42 hx hZ hown (host := "") (Or.inl (hw _ (mi 107 rfl))) Via.refl e42 (W42q.fld (i := 0) rfl (j := 15) rfl rfl) (g := K43.g) rfl rfl (hD 88 rfl)
  have K45 : Rc K0 T44 (mkF m 310 #[sR r, sI 1, sR vv, sI (Int32.ofNat u), sR pp, sI 1, sI 1, sI (Int32.ofNat (u + 1)), sI 2, sR bk] [(kI 2), (kI 1), (kR lr)]) := fun t k => K43 t (st44 t (by
    refine XS.iloadN X44.here hx rfl (hD 89 rfl) rfl ?_
    refine XS.iload X44.here hx rfl (hD 90 rfl) rfl ?_
    exact k))
  obtain ⟨T46, h46, L46, X46, e46, N46, W46q, st46⟩ := iasW X44 hx hZ e44 W42q N42 (i := 5) (a := lr) rfl (j := (1 : Int32)) (x := (2 : Int32)) (k := 1) (by decide) (by decide) (by decide) (g := K45.g) rfl rfl (hD 91 rfl)
  have K47 : Rc K0 T46 (mkF m 312 #[sR r, sI 1, sR vv, sI (Int32.ofNat u), sR pp, sI 1, sI 1, sI (Int32.ofNat (u + 1)), sI 2, sR bk] [(kR r)]) := fun t k => K45 t (st46 t (XS.aloadN X46.here hx rfl (hD 92 rfl) rfl rfl k))
  obtain ⟨T48, X48, e48, st48⟩ := getF X46 hx hZ hown (host := "") (Or.inl (hw _ (mi 159 rfl))) Via.refl e46 (W46q.fld (i := 0) rfl (j := 19) rfl rfl) (g := K47.g) rfl rfl (hD 93 rfl)
  have K49 : Rc K0 T48 (mkF m 318 #[sR r, sI 1, sR vv, sI (Int32.ofNat u), sR pp, sI 1, sI 1, sI (Int32.ofNat (u + 1)), sI 2, sR bk] [(kR r), (kI 2), (kR bo)]) := fun t k => K47 t (st48 t (by
    refine XS.iload X48.here hx rfl (hD 94 rfl) rfl ?_
    refine XS.aloadN X48.here hx rfl (hD 95 rfl) rfl rfl ?_
    exact k))
  obtain ⟨T50, X50, e50, st50⟩ := getF X48 hx hZ hown (host := "") (Or.inl (hw _ (mi 170 rfl))) Via.refl e48 (W46q.fld (i := 0) rfl (j := 23) rfl rfl) (g := K49.g) rfl rfl (hD 96 rfl)
  have K51 : Rc K0 T50 (mkF m 323 #[sR r, sI 1, sR vv, sI (Int32.ofNat u), sR pp, sI 1, sI 1, sI (Int32.ofNat (u + 1)), sI 2, sR bk] [(kI 1), (kI 2), (kR bo)]) := fun t k => K49 t (st50 t (by
    refine XS.iconst X50.here hx rfl (hD 97 rfl) ?_
    refine XS.isub X50.here hx rfl (hD 98 rfl) rfl ?_
    exact k))
  obtain ⟨T52, h52, L52, X52, e52, N52, W52q, st52⟩ := iasW X50 hx hZ e50 W46q N46 (i := 8) (a := bo) rfl (j := (2 : Int32)) (x := (1 : Int32)) (k := 2) (by decide) (by decide) (by decide) (g := K51.g) rfl rfl (hD 99 rfl)
  have K53 : Rc K0 T52 (mkF m 325 #[sR r, sI 1, sR vv, sI (Int32.ofNat u), sR pp, sI 1, sI 1, sI (Int32.ofNat (u + 1)), sI 2, sR bk] [(kR r)]) := fun t k => K51 t (st52 t (XS.aloadN X52.here hx rfl (hD 100 rfl) rfl rfl k))
  obtain ⟨T54, X54, e54, st54⟩ := getF X52 hx hZ hown (host := "") (Or.inl (hw _ (mi 161 rfl))) Via.refl e52 (W52q.fld (i := 0) rfl (j := 20) rfl rfl) (g := K53.g) rfl rfl (hD 101 rfl)
  have K55 : Rc K0 T54 (mkF m 331 #[sR r, sI 1, sR vv, sI (Int32.ofNat u), sR pp, sI 1, sI 1, sI (Int32.ofNat (u + 1)), sI 2, sR bk] [(kR r), (kI 2), (kR shf)]) := fun t k => K53 t (st54 t (by
    refine XS.iload X54.here hx rfl (hD 102 rfl) rfl ?_
    refine XS.aloadN X54.here hx rfl (hD 103 rfl) rfl rfl ?_
    exact k))
  obtain ⟨T56, X56, e56, st56⟩ := getF X54 hx hZ hown (host := "") (Or.inl (hw _ (mi 181 rfl))) Via.refl e54 (W52q.fld (i := 0) rfl (j := 24) rfl rfl) (g := K55.g) rfl rfl (hD 104 rfl)
  have K57 : Rc K0 T56 (mkF m 339 #[sR r, sI 1, sR vv, sI (Int32.ofNat u), sR pp, sI 1, sI 1, sI (Int32.ofNat (u + 1)), sI 2, sR bk] [(kI ((Int32.ofNat ((u + 1) + u)) - (1 : Int32))), (kI 2), (kR shf)]) := fun t k => K55 t (st56 t (by
    refine XS.iloadN X56.here hx rfl (hD 105 rfl) rfl ?_
    refine XS.iadd X56.here hx rfl (hD 106 rfl) rfl ?_
    show Steps p.tables e below (T56.setTop (mkF m 336 #[sR r, sI 1, sR vv, sI (Int32.ofNat u), sR pp, sI 1, sI 1, sI (Int32.ofNat (u + 1)), sI 2, sR bk] [(kI ((Int32.ofNat (u + 1)) + (Int32.ofNat u))), (kI 2), (kR shf)])) _
    rw [own_add (u + 1) u]
    show Steps p.tables e below (T56.setTop (mkF m 336 #[sR r, sI 1, sR vv, sI (Int32.ofNat u), sR pp, sI 1, sI 1, sI (Int32.ofNat (u + 1)), sI 2, sR bk] [(kI (Int32.ofNat ((u + 1) + u))), (kI 2), (kR shf)])) _
    refine XS.iload X56.here hx rfl (hD 107 rfl) rfl ?_
    refine XS.isub X56.here hx rfl (hD 108 rfl) rfl ?_
    exact k))
  obtain ⟨T58, h58, L58, X58, e58, N58, W58q, st58⟩ := iasW X56 hx hZ e56 W52q N52 (i := 9) (a := shf) rfl (j := (2 : Int32)) (x := ((Int32.ofNat ((u + 1) + u)) - (1 : Int32))) (k := 2) (by decide) (by decide) (by decide) (g := K57.g) rfl rfl (hD 109 rfl)
  have W58 : Wo n0 h58 ((r, oR Z [(kR ks), (kR rgs), (kR ns), (kR fch), (kR fk), (kR kl), (kR frg), (kR fac), (kR fcm), (kR ftr), (kR acs), (kR cms), (kR sus), (kR prb), (kI 2), (kR lr), (kI 3), (kR so), (kR nr), (kR bo), (kR shf), (kR vcn), (kR bl), (kI 2), (kI (Int32.ofNat (u + 1)))]) :: (ftr, Ar Z .int 17 g_ftr) :: (fch, Ar Z .int 17 g_fch) :: (bl, Pg Z .double 4 g_bl) :: (bk, Ar Z .double 64 (cpy g_pp (cpy g_vv g_bk 0 (u + 1) u) 0 ((u + 1) + u) 1)) :: (lr, Ar Z .int 4 (upd g_lr 1 (kI 2))) :: (so, Ar Z .int 4 (upd g_so 2 (kI 1))) :: (nr, Ar Z .int 4 (upd g_nr 2 (kI 1))) :: (bo, Ar Z .int 4 (upd g_bo 2 (kI 1))) :: (shf, Ar Z .int 4 (upd g_shf 2 (kI ((Int32.ofNat ((u + 1) + u)) - (1 : Int32))))) :: (vcn, Ar Z .int 4 g_vcn) :: (vv, Ar Z .double 4 g_vv) :: (pp, Ar Z .double 1 g_pp) :: Rr) := W58q
  have K59 : Rc K0 T58 (mkF m 341 #[sR r, sI 1, sR vv, sI (Int32.ofNat u), sR pp, sI 1, sI 1, sI (Int32.ofNat (u + 1)), sI 2, sR bk] [(kR r)]) := fun t k => K57 t (st58 t (XS.aloadN X58.here hx rfl (hD 110 rfl) rfl rfl k))
  obtain ⟨T60, X60, e60, st60⟩ := getF X58 hx hZ hown (host := "") (Or.inl (hw _ (mi 163 rfl))) Via.refl e58 (W58.fld (i := 0) rfl (j := 21) rfl rfl) (g := K59.g) rfl rfl (hD 111 rfl)
  have K61 : Rc K0 T60 (mkF m 347 #[sR r, sI 1, sR vv, sI (Int32.ofNat u), sR pp, sI 1, sI 1, sI (Int32.ofNat (u + 1)), sI 2, sR bk] [(kI (Int32.ofNat u)), (kI 2), (kR vcn)]) := fun t k => K59 t (st60 t (by
    refine XS.iload X60.here hx rfl (hD 112 rfl) rfl ?_
    refine XS.iloadN X60.here hx rfl (hD 113 rfl) rfl ?_
    exact k))
  obtain ⟨T62, h62, L62, X62, e62, N62, W62q, st62⟩ := iasW X60 hx hZ e60 W58 N58 (i := 10) (a := vcn) rfl (j := (2 : Int32)) (x := (Int32.ofNat u)) (k := 2) (by decide) (by decide) (by decide) (g := K61.g) rfl rfl (hD 114 rfl)
  have K63 : Rc K0 T62 (mkF m 350 #[sR r, sI 1, sR vv, sI (Int32.ofNat u), sR pp, sI 1, sI 1, sI (Int32.ofNat (u + 1)), sI 2, sR bk] [(kR r), (kR r)]) := fun t k => K61 t (st62 t (by
    refine XS.aloadN X62.here hx rfl (hD 115 rfl) rfl rfl ?_
    refine XS.dup X62.here hx rfl (hD 116 rfl) rfl rfl ?_
    exact k))
  obtain ⟨T64, X64, e64, st64⟩ := getF X62 hx hZ hown (host := "") (Or.inl (hw _ (mi 181 rfl))) Via.refl e62 (W62q.fld (i := 0) rfl (j := 24) rfl rfl) (g := K63.g) rfl rfl (hD 117 rfl)
  have K65 : Rc K0 T64 (mkF m 356 #[sR r, sI 1, sR vv, sI (Int32.ofNat u), sR pp, sI 1, sI 1, sI (Int32.ofNat (u + 1)), sI 2, sR bk] [(kI (Int32.ofNat ((u + 1) + (u + 1)))), (kR r)]) := fun t k => K63 t (st64 t (by
    refine XS.iload X64.here hx rfl (hD 118 rfl) rfl ?_
    refine XS.iadd X64.here hx rfl (hD 119 rfl) rfl ?_
    show Steps p.tables e below (T64.setTop (mkF m 356 #[sR r, sI 1, sR vv, sI (Int32.ofNat u), sR pp, sI 1, sI 1, sI (Int32.ofNat (u + 1)), sI 2, sR bk] [(kI ((Int32.ofNat (u + 1)) + (Int32.ofNat (u + 1)))), (kR r)])) _
    rw [own_add (u + 1) (u + 1)]
    exact k))
  obtain ⟨T66, h66, L66, X66, e66, N66, W66q, st66⟩ := putW X64 hx hZ hown (host := "") (Or.inl (hw _ (mi 181 rfl))) e64 W62q N62 (own_dR hw) (Or.inl (hw _ (mi 182 rfl))) (hw _ (mi 8 rfl)) (ty := .int) (by decide +kernel) (i := 0) (a := r) rfl (j := 24) rfl rfl (v := (.int (Int32.ofNat ((u + 1) + (u + 1))))) rfl rfl (g := K65.g) rfl rfl (hD 120 rfl)
  have K67 : Rc K0 T66 (mkF m 361 #[sR r, sI 1, sR vv, sI (Int32.ofNat u), sR pp, sI 1, sI 1, sI (Int32.ofNat (u + 1)), sI 2, sR bk] [(kI 2)]) := fun t k => K65 t (st66 t (XS.iload X66.here hx rfl (hD 121 rfl) rfl k))
  obtain ⟨fs, hr, hrun, hended, hWm, hsame⟩ := X66.leave (v := some (.int (2 : Int32))) (fun h => by rw [Bd.returns] at h; cases h)
  refine ⟨_, _, pre0 _ (K67 _ (retI X66 hx Bd.returns (hD 122 rfl) hr)), hrun, hended, _, _, rfl, ?_, ⟨_, rfl⟩, hWm, hsame.mono (by decide) (by decide)⟩
  show QrmPL12 Z r ks rgs ns fch fk kl frg fac fcm ftr acs cms sus prb lr so nr bo shf vcn bl bk vv pp u g_ftr g_fch g_bl g_bk g_lr g_so g_nr g_bo g_shf g_vcn g_vv g_pp Rr n0 _ T66.heap _
  rw [e66]
  exact ⟨rfl, N66, W66q⟩
abbrev y_ts : MethodName := ⟨"com/example/sambre/sambre/engine/Rows", "addToShape", "(I[D[DI)I"⟩
theorem pd_ts : parseMethodDescriptor "(I[D[DI)I" = some ⟨[.int, (.array .double), (.array .double), .int], some .int⟩ := by decide +kernel
def Ld_ts : List (Nat × Instr × Nat) := [(0, .aload_n 0, 1), (1, .iload_n 1, 1), (2, .aload_n 3, 1), (3, .iload 4, 2), (5, .aload_n 2, 1), (6, .invokevirtual 112, 3), (9, .ireturn, 1)]
set_option maxRecDepth 65536 in
theorem d_ts : ∀ x ∈ Ld_ts, decode prog_87_method_3_code x.1 = .ok (x.2.1, x.2.2) := by decide +kernel
theorem ef_rmTS01 (m : MethodId) (r ks rgs ns fch fk kl frg fac fcm ftr acs cms sus prb : Addr) (lr so nr bo shf vcn bl bk vv pp : Addr) (u : Nat) (g_ftr g_fch g_bl g_bk g_lr g_so g_nr g_bo g_shf g_vcn g_vv g_pp : Nat → Value) : entryFrame m #[(.ref r), (.int (0 : Int32)), (.ref pp), (.ref vv), (.int (Int32.ofNat u))] 5 = mkF m 0 #[.val (.ref r), .val (.int (0 : Int32)), .val (.ref pp), .val (.ref vv), .val (.int (Int32.ofNat u))] [] := by first | (simp [entryFrame, mkF, argsToLocals, Value.category]; done) | rfl
def QrmTS01 (Z : State) (r ks rgs ns fch fk kl frg fac fcm ftr acs cms sus prb : Addr) (lr so nr bo shf vcn bl bk vv pp : Addr) (u : Nat) (g_ftr g_fch g_bl g_bk g_lr g_so g_nr g_bo g_shf g_vcn g_vv g_pp : Nat → Value) (Rr : List (Addr × (Cell → Prop))) (n0 : Nat) (v : Option Value) (h : Heap) (L : List Loc) : Prop := v = some (.int (1 : Int32)) ∧ Fr n0 L ∧ Wo n0 h ((r, oR Z [(kR ks), (kR rgs), (kR ns), (kR fch), (kR fk), (kR kl), (kR frg), (kR fac), (kR fcm), (kR ftr), (kR acs), (kR cms), (kR sus), (kR prb), (kI 1), (kR lr), (kI 2), (kR so), (kR nr), (kR bo), (kR shf), (kR vcn), (kR bl), (kI 2), (kI (Int32.ofNat ((u + 1) + (u + 1))))]) :: (ftr, Ar Z .int 17 g_ftr) :: (fch, Ar Z .int 17 g_fch) :: (bl, Pg Z .double 4 g_bl) :: (bk, Ar Z .double 64 (cpy g_pp (cpy g_vv g_bk 0 (u + 1) u) 0 ((u + 1) + u) 1)) :: (lr, Ar Z .int 4 (upd g_lr 0 (kI 1))) :: (so, Ar Z .int 4 (upd g_so 1 (kI 0))) :: (nr, Ar Z .int 4 (upd g_nr 1 (kI 0))) :: (bo, Ar Z .int 4 (upd g_bo 1 (kI 1))) :: (shf, Ar Z .int 4 (upd g_shf 1 (kI ((Int32.ofNat ((u + 1) + u)) - (0 : Int32))))) :: (vcn, Ar Z .int 4 (upd g_vcn 1 (kI (Int32.ofNat u)))) :: (vv, Ar Z .double 4 g_vv) :: (pp, Ar Z .double 1 g_pp) :: Rr)
set_option maxRecDepth 65536 in
set_option maxHeartbeats 40000000 in
theorem rmTS01 (l : Launch) (Z : State) (a0 : Array Value) (hw : ∀ d ∈ tables_1, d.before a0 Z = true) (ws : List Jvm.Cond) (r ks rgs ns fch fk kl frg fac fcm ftr acs cms sus prb : Addr) (lr so nr bo shf vcn bl bk vv pp : Addr) (u : Nat) (g_ftr g_fch g_bl g_bk g_lr g_so g_nr g_bo g_shf g_vcn g_vv g_pp : Nat → Value) (Rr : List (Addr × (Cell → Prop))) (h0 : Heap) (n0 : Nat) (W0 : Wo n0 h0 ((r, oR Z [(kR ks), (kR rgs), (kR ns), (kR fch), (kR fk), (kR kl), (kR frg), (kR fac), (kR fcm), (kR ftr), (kR acs), (kR cms), (kR sus), (kR prb), (kI 1), (kR lr), (kI 1), (kR so), (kR nr), (kR bo), (kR shf), (kR vcn), (kR bl), (kI 2), (kI (Int32.ofNat (u + 1)))]) :: (ftr, Ar Z .int 17 g_ftr) :: (fch, Ar Z .int 17 g_fch) :: (bl, Pg Z .double 4 g_bl) :: (bk, Ar Z .double 64 g_bk) :: (lr, Ar Z .int 4 g_lr) :: (so, Ar Z .int 4 g_so) :: (nr, Ar Z .int 4 g_nr) :: (bo, Ar Z .int 4 g_bo) :: (shf, Ar Z .int 4 g_shf) :: (vcn, Ar Z .int 4 g_vcn) :: (vv, Ar Z .double 4 g_vv) :: (pp, Ar Z .double 1 g_pp) :: Rr)) (hu1 : 1 ≤ u) (hu4 : u ≤ 4) (h1 : g_ftr 0 = .int 0) (h2 : g_ftr 1 = .int 1) (h3 : g_fch 0 = .int 0) (h4 : g_fch 1 = .int 1) (h5 : g_bl 1 = .ref bk) (h6 : g_lr 0 = .int (0 : Int32)) :
    MetFree l y_ts (head1 (Jvm.Cond.code y_ts prog_87_method_3_code 5 (some .int) :: ws) ({ frames := 2, cells := 0, slots := 0, locals := 39 } : Room)) (fun aa U => aa = #[(.ref r), (.int (0 : Int32)), (.ref pp), (.ref vv), (.int (Int32.ofNat u))] ∧ Z.Warmed39 U.vm ∧ U.heap = h0) (fun _ _ _ _ _ => True) (fun _ U ou U' => ∃ v L, ou = .returned v ∧ QrmTS01 Z r ks rgs ns fch fk kl frg fac fcm ftr acs cms sus prb lr so nr bo shf vcn bl bk vv pp u g_ftr g_fch g_bl g_bk g_lr g_so g_nr g_bo g_shf g_vcn g_vv g_pp Rr n0 v U'.heap L ∧ FrameEnd U ou U' L ({ frames := 2, cells := 0, slots := 0, locals := 39 } : Room).cells ({ frames := 2, cells := 0, slots := 0, locals := 39 } : Room).slots) := by
  refine MetFree.of_bodySF (plainFor_of_name pn_Rows) hisR ?_
  intro p e s m args below meth c s₁ Bd hml0 hP hK
  obtain ⟨rfl, hZ, hh⟩ := hP
  have hx := Bd.exec
  have hby := Bd.bytes
  have hml : c.maxLocals = 5 := hml0
  have hD : ∀ (k : Nat) {pc : Nat} {i : Instr} {n : Nat}, Ld_ts[k]? = some (pc, i, n) → decode c.code pc = .ok (i, n) := by intro k pc i n h; exact hb hby (d_ts (pc, i, n) (mi k h))
  have hown : s.vm.findClass "com/example/sambre/sambre/engine/Rows" = some m.cls := findClass_of_methodNamed Bd.named
  have hnm := (name_of_methodNamed Bd.named Bd.method).1
  have X0 : Stand p l e ({ frames := 2, cells := 0, slots := 0, locals := 39 } : Room) s m #[(.ref r), (.int (0 : Int32)), (.ref pp), (.ref vv), (.int (Int32.ofNat u))] below meth c s₁ [] 0 0 := Stand.of_body Bd
  have e0 : s₁.heap = h0 := by rw [← hh, Bd.state]; rfl
  have N0 := Fr.nil n0
  obtain ⟨F0, hF0⟩ : ∃ F, F = mkF m 0 #[.val (.ref r), .val (.int (0 : Int32)), .val (.ref pp), .val (.ref vv), .val (.int (Int32.ofNat u))] [] := ⟨_, rfl⟩
  have pre0 : ∀ t, Steps p.tables e below (s₁.setTop F0) t → Steps p.tables e below (s₁.setTop (entryFrame m #[(.ref r), (.int (0 : Int32)), (.ref pp), (.ref vv), (.int (Int32.ofNat u))] 5)) t := fun t k => castTop ((ef_rmTS01 m r ks rgs ns fch fk kl frg fac fcm ftr acs cms sus prb lr so nr bo shf vcn bl bk vv pp u g_ftr g_fch g_bl g_bk g_lr g_so g_nr g_bo g_shf g_vcn g_vv g_pp).trans hF0.symm) k
  have K0 : Rch p e below s₁ F0 s₁ (mkF m 0 #[.val (.ref r), .val (.int (0 : Int32)), .val (.ref pp), .val (.ref vv), .val (.int (Int32.ofNat u))] []) := fun t k => castTop hF0 k
  have K1 : Rc K0 s₁ (mkF m 6 #[sR r, sI 0, sR pp, sR vv, sI (Int32.ofNat u)] [(kR pp), (kI (Int32.ofNat u)), (kR vv), (kI 0), (kR r)]) := fun t k => K0 t (by
    refine XS.aloadN X0.here hx rfl (hD 0 rfl) rfl rfl ?_
    refine XS.iloadN X0.here hx rfl (hD 1 rfl) rfl ?_
    refine XS.aloadN X0.here hx rfl (hD 2 rfl) rfl rfl ?_
    refine XS.iload X0.here hx rfl (hD 3 rfl) rfl ?_
    refine XS.aloadN X0.here hx rfl (hD 4 rfl) rfl rfl ?_
    exact k)
  obtain ⟨cq2, q2, q2'⟩ := (W0.exa (i := 0) rfl).cell
  obtain ⟨_, _, ⟨T2, L2, k2, n2⟩, -, X2, ⟨Lc2, hQ2, l2, y2, z2⟩, st2⟩ := Jvm.OwnKit.privB X0 hx (y := y_pl) hown (mvT hZ (hw _ (mi 177 rfl))) (mvT hZ (hw _ (mi 178 rfl))) (mvT hZ (hw _ (mi 8 rfl))) (Cond.privateMethod_at (mvP hZ (hw _ (mi 179 rfl)) (args := #[]))) (mvT hZ (hw _ (mi 180 rfl))) (by decide) (backOf (W := 0) (rmPL01 l Z a0 hw [] r ks rgs ns fch fk kl frg fac fcm ftr acs cms sus prb lr so nr bo shf vcn bl bk vv pp u g_ftr g_fch g_bl g_bk g_lr g_so g_nr g_bo g_shf g_vcn g_vv g_pp (Rr) h0 n0 W0 hu1 hu4 h1 h2 h3 h4 h5 h6) hZ (hw _ (mi 180 rfl)) (hw _ (mi 9 rfl)) (by decide) (by decide)) (g := K1.g) rfl (by rw [hml]; rfl) (Steps.refl _) (a := r) (by rw [e0]; exact q2) q2' (argsL := [(.int (0 : Int32)), (.ref vv), (.int (Int32.ofNat u)), (.ref pp)]) (rest := []) (lenOf pd_pl rfl) rfl (by show 2 * 0 + _ ≤ _; exact Nat.le_of_eq rfl) (hD 5 rfl) (fun _ _ => ⟨rfl, e0, (by decide : 0 + 0 ≤ _), (by decide : 0 + 0 ≤ _)⟩)
  dsimp only [Pt.U, Pt.locs, Pt.cells, Pt.slots] at X2 l2 y2 z2 st2 hQ2
  subst l2 y2 z2
  obtain ⟨rfl, N2q, W2⟩ := hQ2
  have N2 := Fr.app N0 N2q
  have K3 : Rc K0 T2 (mkF m 9 #[sR r, sI 0, sR pp, sR vv, sI (Int32.ofNat u)] [(kI 1)]) := fun t k => K1 t (st2.trans (k))
  obtain ⟨fs, hr, hrun, hended, hWm, hsame⟩ := X2.leave (v := some (.int (1 : Int32))) (fun h => by rw [Bd.returns] at h; cases h)
  refine ⟨_, _, pre0 _ (K3 _ (retI X2 hx Bd.returns (hD 6 rfl) hr)), hrun, hended, _, _, rfl, ?_, ⟨_, rfl⟩, hWm, hsame.mono (by decide) (by decide)⟩
  show QrmTS01 Z r ks rgs ns fch fk kl frg fac fcm ftr acs cms sus prb lr so nr bo shf vcn bl bk vv pp u g_ftr g_fch g_bl g_bk g_lr g_so g_nr g_bo g_shf g_vcn g_vv g_pp Rr n0 _ T2.heap _
  exact ⟨rfl, N2, W2⟩
theorem ef_rmTS12 (m : MethodId) (r ks rgs ns fch fk kl frg fac fcm ftr acs cms sus prb : Addr) (lr so nr bo shf vcn bl bk vv pp : Addr) (u : Nat) (g_ftr g_fch g_bl g_bk g_lr g_so g_nr g_bo g_shf g_vcn g_vv g_pp : Nat → Value) : entryFrame m #[(.ref r), (.int (1 : Int32)), (.ref pp), (.ref vv), (.int (Int32.ofNat u))] 5 = mkF m 0 #[.val (.ref r), .val (.int (1 : Int32)), .val (.ref pp), .val (.ref vv), .val (.int (Int32.ofNat u))] [] := by first | (simp [entryFrame, mkF, argsToLocals, Value.category]; done) | rfl
def QrmTS12 (Z : State) (r ks rgs ns fch fk kl frg fac fcm ftr acs cms sus prb : Addr) (lr so nr bo shf vcn bl bk vv pp : Addr) (u : Nat) (g_ftr g_fch g_bl g_bk g_lr g_so g_nr g_bo g_shf g_vcn g_vv g_pp : Nat → Value) (Rr : List (Addr × (Cell → Prop))) (n0 : Nat) (v : Option Value) (h : Heap) (L : List Loc) : Prop := v = some (.int (2 : Int32)) ∧ Fr n0 L ∧ Wo n0 h ((r, oR Z [(kR ks), (kR rgs), (kR ns), (kR fch), (kR fk), (kR kl), (kR frg), (kR fac), (kR fcm), (kR ftr), (kR acs), (kR cms), (kR sus), (kR prb), (kI 2), (kR lr), (kI 3), (kR so), (kR nr), (kR bo), (kR shf), (kR vcn), (kR bl), (kI 2), (kI (Int32.ofNat ((u + 1) + (u + 1))))]) :: (ftr, Ar Z .int 17 g_ftr) :: (fch, Ar Z .int 17 g_fch) :: (bl, Pg Z .double 4 g_bl) :: (bk, Ar Z .double 64 (cpy g_pp (cpy g_vv g_bk 0 (u + 1) u) 0 ((u + 1) + u) 1)) :: (lr, Ar Z .int 4 (upd g_lr 1 (kI 2))) :: (so, Ar Z .int 4 (upd g_so 2 (kI 1))) :: (nr, Ar Z .int 4 (upd g_nr 2 (kI 1))) :: (bo, Ar Z .int 4 (upd g_bo 2 (kI 1))) :: (shf, Ar Z .int 4 (upd g_shf 2 (kI ((Int32.ofNat ((u + 1) + u)) - (1 : Int32))))) :: (vcn, Ar Z .int 4 (upd g_vcn 2 (kI (Int32.ofNat u)))) :: (vv, Ar Z .double 4 g_vv) :: (pp, Ar Z .double 1 g_pp) :: Rr)
set_option maxRecDepth 65536 in
set_option maxHeartbeats 40000000 in
theorem rmTS12 (l : Launch) (Z : State) (a0 : Array Value) (hw : ∀ d ∈ tables_1, d.before a0 Z = true) (ws : List Jvm.Cond) (r ks rgs ns fch fk kl frg fac fcm ftr acs cms sus prb : Addr) (lr so nr bo shf vcn bl bk vv pp : Addr) (u : Nat) (g_ftr g_fch g_bl g_bk g_lr g_so g_nr g_bo g_shf g_vcn g_vv g_pp : Nat → Value) (Rr : List (Addr × (Cell → Prop))) (h0 : Heap) (n0 : Nat) (W0 : Wo n0 h0 ((r, oR Z [(kR ks), (kR rgs), (kR ns), (kR fch), (kR fk), (kR kl), (kR frg), (kR fac), (kR fcm), (kR ftr), (kR acs), (kR cms), (kR sus), (kR prb), (kI 2), (kR lr), (kI 2), (kR so), (kR nr), (kR bo), (kR shf), (kR vcn), (kR bl), (kI 2), (kI (Int32.ofNat (u + 1)))]) :: (ftr, Ar Z .int 17 g_ftr) :: (fch, Ar Z .int 17 g_fch) :: (bl, Pg Z .double 4 g_bl) :: (bk, Ar Z .double 64 g_bk) :: (lr, Ar Z .int 4 g_lr) :: (so, Ar Z .int 4 g_so) :: (nr, Ar Z .int 4 g_nr) :: (bo, Ar Z .int 4 g_bo) :: (shf, Ar Z .int 4 g_shf) :: (vcn, Ar Z .int 4 g_vcn) :: (vv, Ar Z .double 4 g_vv) :: (pp, Ar Z .double 1 g_pp) :: Rr)) (hu1 : 1 ≤ u) (hu4 : u ≤ 4) (h1 : g_ftr 1 = .int 1) (h2 : g_ftr 2 = .int 2) (h3 : g_fch 1 = .int 1) (h4 : g_fch 2 = .int 2) (h5 : g_bl 1 = .ref bk) (h6 : g_lr 1 = .int (1 : Int32)) :
    MetFree l y_ts (head1 (Jvm.Cond.code y_ts prog_87_method_3_code 5 (some .int) :: ws) ({ frames := 2, cells := 0, slots := 0, locals := 39 } : Room)) (fun aa U => aa = #[(.ref r), (.int (1 : Int32)), (.ref pp), (.ref vv), (.int (Int32.ofNat u))] ∧ Z.Warmed39 U.vm ∧ U.heap = h0) (fun _ _ _ _ _ => True) (fun _ U ou U' => ∃ v L, ou = .returned v ∧ QrmTS12 Z r ks rgs ns fch fk kl frg fac fcm ftr acs cms sus prb lr so nr bo shf vcn bl bk vv pp u g_ftr g_fch g_bl g_bk g_lr g_so g_nr g_bo g_shf g_vcn g_vv g_pp Rr n0 v U'.heap L ∧ FrameEnd U ou U' L ({ frames := 2, cells := 0, slots := 0, locals := 39 } : Room).cells ({ frames := 2, cells := 0, slots := 0, locals := 39 } : Room).slots) := by
  refine MetFree.of_bodySF (plainFor_of_name pn_Rows) hisR ?_
  intro p e s m args below meth c s₁ Bd hml0 hP hK
  obtain ⟨rfl, hZ, hh⟩ := hP
  have hx := Bd.exec
  have hby := Bd.bytes
  have hml : c.maxLocals = 5 := hml0
  have hD : ∀ (k : Nat) {pc : Nat} {i : Instr} {n : Nat}, Ld_ts[k]? = some (pc, i, n) → decode c.code pc = .ok (i, n) := by intro k pc i n h; exact hb hby (d_ts (pc, i, n) (mi k h))
  have hown : s.vm.findClass "com/example/sambre/sambre/engine/Rows" = some m.cls := findClass_of_methodNamed Bd.named
  have hnm := (name_of_methodNamed Bd.named Bd.method).1
  have X0 : Stand p l e ({ frames := 2, cells := 0, slots := 0, locals := 39 } : Room) s m #[(.ref r), (.int (1 : Int32)), (.ref pp), (.ref vv), (.int (Int32.ofNat u))] below meth c s₁ [] 0 0 := Stand.of_body Bd
  have e0 : s₁.heap = h0 := by rw [← hh, Bd.state]; rfl
  have N0 := Fr.nil n0
  obtain ⟨F0, hF0⟩ : ∃ F, F = mkF m 0 #[.val (.ref r), .val (.int (1 : Int32)), .val (.ref pp), .val (.ref vv), .val (.int (Int32.ofNat u))] [] := ⟨_, rfl⟩
  have pre0 : ∀ t, Steps p.tables e below (s₁.setTop F0) t → Steps p.tables e below (s₁.setTop (entryFrame m #[(.ref r), (.int (1 : Int32)), (.ref pp), (.ref vv), (.int (Int32.ofNat u))] 5)) t := fun t k => castTop ((ef_rmTS12 m r ks rgs ns fch fk kl frg fac fcm ftr acs cms sus prb lr so nr bo shf vcn bl bk vv pp u g_ftr g_fch g_bl g_bk g_lr g_so g_nr g_bo g_shf g_vcn g_vv g_pp).trans hF0.symm) k
  have K0 : Rch p e below s₁ F0 s₁ (mkF m 0 #[.val (.ref r), .val (.int (1 : Int32)), .val (.ref pp), .val (.ref vv), .val (.int (Int32.ofNat u))] []) := fun t k => castTop hF0 k
  have K1 : Rc K0 s₁ (mkF m 6 #[sR r, sI 1, sR pp, sR vv, sI (Int32.ofNat u)] [(kR pp), (kI (Int32.ofNat u)), (kR vv), (kI 1), (kR r)]) := fun t k => K0 t (by
    refine XS.aloadN X0.here hx rfl (hD 0 rfl) rfl rfl ?_
    refine XS.iloadN X0.here hx rfl (hD 1 rfl) rfl ?_
    refine XS.aloadN X0.here hx rfl (hD 2 rfl) rfl rfl ?_
    refine XS.iload X0.here hx rfl (hD 3 rfl) rfl ?_
    refine XS.aloadN X0.here hx rfl (hD 4 rfl) rfl rfl ?_
    exact k)
  obtain ⟨cq2, q2, q2'⟩ := (W0.exa (i := 0) rfl).cell
  obtain ⟨_, _, ⟨T2, L2, k2, n2⟩, -, X2, ⟨Lc2, hQ2, l2, y2, z2⟩, st2⟩ := Jvm.OwnKit.privB X0 hx (y := y_pl) hown (mvT hZ (hw _ (mi 177 rfl))) (mvT hZ (hw _ (mi 178 rfl))) (mvT hZ (hw _ (mi 8 rfl))) (Cond.privateMethod_at (mvP hZ (hw _ (mi 179 rfl)) (args := #[]))) (mvT hZ (hw _ (mi 180 rfl))) (by decide) (backOf (W := 0) (rmPL12 l Z a0 hw [] r ks rgs ns fch fk kl frg fac fcm ftr acs cms sus prb lr so nr bo shf vcn bl bk vv pp u g_ftr g_fch g_bl g_bk g_lr g_so g_nr g_bo g_shf g_vcn g_vv g_pp (Rr) h0 n0 W0 hu1 hu4 h1 h2 h3 h4 h5 h6) hZ (hw _ (mi 180 rfl)) (hw _ (mi 9 rfl)) (by decide) (by decide)) (g := K1.g) rfl (by rw [hml]; rfl) (Steps.refl _) (a := r) (by rw [e0]; exact q2) q2' (argsL := [(.int (1 : Int32)), (.ref vv), (.int (Int32.ofNat u)), (.ref pp)]) (rest := []) (lenOf pd_pl rfl) rfl (by show 2 * 0 + _ ≤ _; exact Nat.le_of_eq rfl) (hD 5 rfl) (fun _ _ => ⟨rfl, e0, (by decide : 0 + 0 ≤ _), (by decide : 0 + 0 ≤ _)⟩)
  dsimp only [Pt.U, Pt.locs, Pt.cells, Pt.slots] at X2 l2 y2 z2 st2 hQ2
  subst l2 y2 z2
  obtain ⟨rfl, N2q, W2⟩ := hQ2
  have N2 := Fr.app N0 N2q
  have K3 : Rc K0 T2 (mkF m 9 #[sR r, sI 1, sR pp, sR vv, sI (Int32.ofNat u)] [(kI 2)]) := fun t k => K1 t (st2.trans (k))
  obtain ⟨fs, hr, hrun, hended, hWm, hsame⟩ := X2.leave (v := some (.int (2 : Int32))) (fun h => by rw [Bd.returns] at h; cases h)
  refine ⟨_, _, pre0 _ (K3 _ (retI X2 hx Bd.returns (hD 6 rfl) hr)), hrun, hended, _, _, rfl, ?_, ⟨_, rfl⟩, hWm, hsame.mono (by decide) (by decide)⟩
  show QrmTS12 Z r ks rgs ns fch fk kl frg fac fcm ftr acs cms sus prb lr so nr bo shf vcn bl bk vv pp u g_ftr g_fch g_bl g_bk g_lr g_so g_nr g_bo g_shf g_vcn g_vv g_pp Rr n0 _ T2.heap _
  exact ⟨rfl, N2, W2⟩
abbrev y_add : MethodName := ⟨"com/example/sambre/sambre/engine/Rows", "add", "(Lcom/example/sambre/sambre/engine/Rows$Builder;[II)I"⟩
theorem pd_add : parseMethodDescriptor "(Lcom/example/sambre/sambre/engine/Rows$Builder;[II)I" = some ⟨[(.object "com/example/sambre/sambre/engine/Rows$Builder"), (.array .int), .int], some .int⟩ := by decide +kernel
def Ld_add : List (Nat × Instr × Nat) := [(0, .aload_n 0, 1), (1, .getfield 53, 3), (4, .istore 4, 2), (6, .aload_n 0, 1), (7, .getfield 19, 3), (10, .iload 4, 2), (12, .iaload, 1), (13, .istore 5, 2), (15, .aload_n 1, 1), (16, .getfield 57, 3), (19, .istore 6, 2), (21, .aload_n 0, 1), (22, .getfield 31, 3), (25, .iload 5, 2), (27, .iaload, 1), (28, .istore 7, 2), (30, .aload_n 0, 1), (31, .getfield 34, 3), (34, .iload 5, 2), (36, .iaload, 1), (37, .istore 8, 2), (39, .aload_n 0, 1), (40, .getfield 37, 3), (43, .iload 5, 2), (45, .iaload, 1), (46, .istore 9, 2), (48, .aload_n 0, 1), (49, .getfield 22, 3), (52, .iload 4, 2), (54, .iaload, 1), (55, .istore 10, 2), (57, .iload 10, 2), (59, .aload_n 1, 1), (60, .getfield 62, 3), (63, .ifnonnull 7, 3), (66, .iconst 0, 1), (67, .goto 7, 3), (74, .iadd, 1), (75, .istore 11, 2), (77, .aload_n 0, 1), (78, .getfield 28, 3), (81, .iload 4, 2), (83, .iaload, 1), (84, .istore 12, 2), (86, .aload_n 0, 1), (87, .getfield 67, 3), (90, .ifnonnull 14, 3), (93, .aload_n 1, 1), (94, .getfield 70, 3), (97, .ifCond .ne 7, 3), (100, .iconst 1, 1), (101, .goto 4, 3), (104, .iconst 0, 1), (105, .istore 13, 2), (107, .iload 4, 2), (109, .aload_n 0, 1), (110, .getfield 16, 3), (113, .arraylength, 1), (114, .if_icmp .eq 116, 3), (117, .iload 4, 2), (119, .iconst 1, 1), (120, .iadd, 1), (121, .aload_n 0, 1), (122, .getfield 19, 3), (125, .arraylength, 1), (126, .if_icmp .eq 104, 3), (129, .iload 5, 2), (131, .iload 6, 2), (133, .iadd, 1), (134, .aload_n 0, 1), (135, .getfield 31, 3), (138, .arraylength, 1), (139, .if_icmp .ge 91, 3), (142, .iload 7, 2), (144, .aload_n 1, 1), (145, .getfield 73, 3), (148, .iadd, 1), (149, .aload_n 0, 1), (150, .getfield 40, 3), (153, .arraylength, 1), (154, .if_icmp .gt 76, 3), (157, .iload 8, 2), (159, .aload_n 1, 1), (160, .getfield 76, 3), (163, .iadd, 1), (164, .aload_n 0, 1), (165, .getfield 43, 3), (168, .arraylength, 1), (169, .if_icmp .gt 61, 3), (172, .iload 9, 2), (174, .aload_n 1, 1), (175, .getfield 79, 3), (178, .iadd, 1), (179, .aload_n 0, 1), (180, .getfield 46, 3), (183, .arraylength, 1), (184, .if_icmp .gt 46, 3), (187, .iload 13, 2), (189, .ifCond .eq 18, 3), (192, .iload 9, 2), (194, .aload_n 1, 1), (195, .getfield 79, 3), (198, .iadd, 1), (199, .aload_n 0, 1), (200, .getfield 49, 3), (203, .arraylength, 1), (204, .if_icmp .gt 26, 3), (207, .iload 11, 2), (209, .aload_n 0, 1), (210, .getfield 7, 3), (213, .arraylength, 1), (214, .if_icmp .gt 16, 3), (217, .iload 12, 2), (219, .aload_n 2, 1), (220, .arraylength, 1), (221, .iadd, 1), (222, .aload_n 0, 1), (223, .getfield 13, 3), (226, .arraylength, 1), (227, .if_icmp .le 17, 3), (244, .iconst 0, 1), (245, .istore 14, 2), (247, .iload 14, 2), (249, .iload 6, 2), (251, .if_icmp .ge 69, 3), (254, .aload_n 0, 1), (255, .getfield 31, 3), (258, .iload 5, 2), (260, .iload 14, 2), (262, .iadd, 1), (263, .iload 7, 2), (265, .aload_n 1, 1), (266, .getfield 86, 3), (269, .iload 14, 2), (271, .iaload, 1), (272, .iadd, 1), (273, .iastore, 1), (274, .aload_n 0, 1), (275, .getfield 34, 3), (278, .iload 5, 2), (280, .iload 14, 2), (282, .iadd, 1), (283, .iload 8, 2), (285, .aload_n 1, 1), (286, .getfield 87, 3), (289, .iload 14, 2), (291, .iaload, 1), (292, .iadd, 1), (293, .iastore, 1), (294, .aload_n 0, 1), (295, .getfield 37, 3), (298, .iload 5, 2), (300, .iload 14, 2), (302, .iadd, 1), (303, .iload 9, 2), (305, .aload_n 1, 1), (306, .getfield 88, 3), (309, .iload 14, 2), (311, .iaload, 1), (312, .iadd, 1), (313, .iastore, 1), (314, .iinc 14 1, 3), (317, .goto (-70), 3), (320, .aload_n 0, 1), (321, .getfield 31, 3), (324, .iload 5, 2), (326, .iload 6, 2), (328, .iadd, 1), (329, .iload 7, 2), (331, .aload_n 1, 1), (332, .getfield 73, 3), (335, .iadd, 1), (336, .iastore, 1), (337, .aload_n 0, 1), (338, .getfield 34, 3), (341, .iload 5, 2), (343, .iload 6, 2), (345, .iadd, 1), (346, .iload 8, 2), (348, .aload_n 1, 1), (349, .getfield 76, 3), (352, .iadd, 1), (353, .iastore, 1), (354, .aload_n 0, 1), (355, .getfield 37, 3), (358, .iload 5, 2), (360, .iload 6, 2), (362, .iadd, 1), (363, .iload 9, 2), (365, .aload_n 1, 1), (366, .getfield 79, 3), (369, .iadd, 1), (370, .iastore, 1), (371, .aload_n 1, 1), (372, .getfield 89, 3), (375, .iconst 0, 1), (376, .aload_n 0, 1), (377, .getfield 40, 3), (380, .iload 7, 2), (382, .aload_n 1, 1), (383, .getfield 73, 3), (386, .invokestatic 90, 3), (389, .aload_n 1, 1), (390, .getfield 96, 3), (393, .iconst 0, 1), (394, .aload_n 0, 1), (395, .getfield 43, 3), (398, .iload 8, 2), (400, .aload_n 1, 1), (401, .getfield 76, 3), (404, .invokestatic 90, 3), (407, .aload_n 1, 1), (408, .getfield 97, 3), (411, .iconst 0, 1), (412, .aload_n 0, 1), (413, .getfield 46, 3), (416, .iload 9, 2), (418, .aload_n 1, 1), (419, .getfield 79, 3), (422, .invokestatic 90, 3), (425, .aload_n 1, 1), (426, .getfield 62, 3), (429, .ifnull 22, 3), (451, .aload_n 2, 1), (452, .iconst 0, 1), (453, .aload_n 0, 1), (454, .getfield 13, 3), (457, .iload 12, 2), (459, .aload_n 2, 1), (460, .arraylength, 1), (461, .invokestatic 90, 3), (464, .aload_n 0, 1), (465, .getfield 16, 3), (468, .iload 4, 2), (470, .iload_n 3, 1), (471, .iastore, 1), (472, .aload_n 0, 1), (473, .getfield 25, 3), (476, .iload 4, 2), (478, .aload_n 1, 1), (479, .getfield 62, 3), (482, .ifnonnull 7, 3), (485, .iconst (-1), 1), (486, .goto 8, 3), (494, .iastore, 1), (495, .aload_n 0, 1), (496, .getfield 19, 3), (499, .iload 4, 2), (501, .iconst 1, 1), (502, .iadd, 1), (503, .iload 5, 2), (505, .iload 6, 2), (507, .iadd, 1), (508, .iastore, 1), (509, .aload_n 0, 1), (510, .getfield 22, 3), (513, .iload 4, 2), (515, .iconst 1, 1), (516, .iadd, 1), (517, .iload 11, 2), (519, .iastore, 1), (520, .aload_n 0, 1), (521, .getfield 28, 3), (524, .iload 4, 2), (526, .iconst 1, 1), (527, .iadd, 1), (528, .iload 12, 2), (530, .aload_n 2, 1), (531, .arraylength, 1), (532, .iadd, 1), (533, .iastore, 1), (534, .aload_n 0, 1), (535, .dup, 1), (536, .getfield 53, 3), (539, .iconst 1, 1), (540, .iadd, 1), (541, .putfield 53, 3), (544, .iload 13, 2), (546, .ifCond .eq 37, 3), (549, .aload_n 1, 1), (550, .getfield 98, 3), (553, .iconst 0, 1), (554, .aload_n 0, 1), (555, .getfield 49, 3), (558, .iload 9, 2), (560, .aload_n 1, 1), (561, .getfield 79, 3), (564, .invokestatic 90, 3), (567, .aload_n 0, 1), (568, .dup, 1), (569, .getfield 99, 3), (572, .dup_x1, 1), (573, .iconst 1, 1), (574, .iadd, 1), (575, .putfield 99, 3), (578, .istore 14, 2), (580, .goto 57, 3), (583, .aload_n 0, 1), (584, .getfield 67, 3), (587, .ifnonnull 7, 3), (590, .aload_n 0, 1), (591, .invokevirtual 102, 3), (594, .aload_n 0, 1), (595, .aload_n 0, 1), (596, .getfield 67, 3), (599, .aload_n 0, 1), (600, .getfield 53, 3), (603, .invokestatic 105, 3), (606, .putfield 67, 3), (609, .aload_n 0, 1), (610, .getfield 67, 3), (613, .iload 4, 2), (615, .iconst (-1), 1), (616, .iastore, 1), (617, .aload_n 0, 1), (618, .iload 4, 2), (620, .aload_n 1, 1), (621, .getfield 109, 3), (624, .aload_n 1, 1), (625, .getfield 70, 3), (628, .aload_n 1, 1), (629, .getfield 98, 3), (632, .invokevirtual 112, 3), (635, .istore 14, 2), (637, .iload 14, 2), (639, .ireturn, 1)]
set_option maxRecDepth 65536 in
theorem d_add : ∀ x ∈ Ld_add, decode prog_87_method_2_code x.1 = .ok (x.2.1, x.2.2) := by decide +kernel
theorem ef_rmADF (m : MethodId) (r ks rgs ns fch fk kl frg fac fcm ftr acs cms sus prb : Addr) (b fa ac fc cm ft su pr : Addr) (no : Addr) (g_ks g_rgs g_ns g_fch g_fk g_kl g_frg g_fac g_fcm g_ftr g_acs g_cms g_sus g_prb : Nat → Value) (f1 f2 f3 f4 f5 f6 f7 f8 : Nat → Value) : entryFrame m #[(.ref r), (.ref b), (.ref no), (.int (-1 : Int32))] 15 = mkF m 0 #[.val (.ref r), .val (.ref b), .val (.ref no), .val (.int (-1 : Int32)), .unset, .unset, .unset, .unset, .unset, .unset, .unset, .unset, .unset, .unset, .unset] [] := by first | (simp [entryFrame, mkF, argsToLocals, Value.category]; done) | rfl
def QrmADF (Z : State) (r ks rgs ns fch fk kl frg fac fcm ftr acs cms sus prb : Addr) (b fa ac fc cm ft su pr : Addr) (no : Addr) (g_ks g_rgs g_ns g_fch g_fk g_kl g_frg g_fac g_fcm g_ftr g_acs g_cms g_sus g_prb : Nat → Value) (f1 f2 f3 f4 f5 f6 f7 f8 : Nat → Value) (Rr : List (Addr × (Cell → Prop))) (n0 : Nat) (v : Option Value) (h : Heap) (L : List Loc) : Prop := v = some (.int (0 : Int32)) ∧ Fr n0 L ∧ Wo n0 h ((r, oR Z [(kR ks), (kR rgs), (kR ns), (kR fch), (kR fk), (kR kl), (kR frg), (kR fac), (kR fcm), (kR ftr), (kR acs), (kR cms), (kR sus), (kR prb), (kI 1), .null, (kI 1), .null, .null, .null, .null, .null, .null, (kI 0), (kI 0)]) :: (b, oB Z [.null, (kI 0), .null, (kI 0), (kR fa), (kR ac), (kR fc), (kR cm), (kR ft), (kR su), (kR pr), (kI 1), (kI 0), (kI 0), (kI 1), .null]) :: (ks, Ar Z .int 0 g_ks) :: (rgs, Ar Z .int 0 (cpy f8 g_rgs 0 0 0)) :: (ns, Ar Z .int 16 (upd g_ns 0 (kI (-1)))) :: (fch, Ar Z .int 17 (upd g_fch 1 (kI 1))) :: (fk, Ar Z .int 17 (upd g_fk 1 (kI 0))) :: (kl, Ar Z .int 16 (upd g_kl 0 (kI (-1)))) :: (frg, Ar Z .int 17 (upd g_frg 1 (kI 0))) :: (fac, Ar Z .int 17 (upd (upd g_fac 0 (kI 0)) 1 (kI 0))) :: (fcm, Ar Z .int 17 (upd (upd g_fcm 0 (kI 0)) 1 (kI 0))) :: (ftr, Ar Z .int 17 (upd (upd g_ftr 0 (kI 0)) 1 (kI 1))) :: (acs, Ar Z .int 16 (cpy f4 g_acs 0 0 0)) :: (cms, Ar Z .int 16 (cpy f5 g_cms 0 0 0)) :: (sus, Ar Z .int 64 (cpy f6 g_sus 0 0 1)) :: (prb, Ar Z .double 64 (cpy f7 g_prb 0 0 1)) :: (fa, Ar Z .int 2 f1) :: (fc, Ar Z .int 2 f2) :: (ft, Ar Z .int 2 f3) :: (ac, Ar Z .int 2 f4) :: (cm, Ar Z .int 2 f5) :: (su, Ar Z .int 4 f6) :: (pr, Ar Z .double 4 f7) :: (no, Ar Z .int 0 f8) :: Rr)
set_option maxRecDepth 65536 in
set_option maxHeartbeats 40000000 in
theorem rmADF (l : Launch) (Z : State) (a0 : Array Value) (hw : ∀ d ∈ tables_1, d.before a0 Z = true) (ws : List Jvm.Cond) (r ks rgs ns fch fk kl frg fac fcm ftr acs cms sus prb : Addr) (b fa ac fc cm ft su pr : Addr) (no : Addr) (g_ks g_rgs g_ns g_fch g_fk g_kl g_frg g_fac g_fcm g_ftr g_acs g_cms g_sus g_prb : Nat → Value) (f1 f2 f3 f4 f5 f6 f7 f8 : Nat → Value) (Rr : List (Addr × (Cell → Prop))) (h0 : Heap) (n0 : Nat) (W0 : Wo n0 h0 ((r, oR Z [(kR ks), (kR rgs), (kR ns), (kR fch), (kR fk), (kR kl), (kR frg), (kR fac), (kR fcm), (kR ftr), (kR acs), (kR cms), (kR sus), (kR prb), (kI 0), .null, (kI 0), .null, .null, .null, .null, .null, .null, (kI 0), (kI 0)]) :: (b, oB Z [.null, (kI 0), .null, (kI 0), (kR fa), (kR ac), (kR fc), (kR cm), (kR ft), (kR su), (kR pr), (kI 1), (kI 0), (kI 0), (kI 1), .null]) :: (ks, Ar Z .int 0 g_ks) :: (rgs, Ar Z .int 0 g_rgs) :: (ns, Ar Z .int 16 g_ns) :: (fch, Ar Z .int 17 g_fch) :: (fk, Ar Z .int 17 g_fk) :: (kl, Ar Z .int 16 g_kl) :: (frg, Ar Z .int 17 g_frg) :: (fac, Ar Z .int 17 g_fac) :: (fcm, Ar Z .int 17 g_fcm) :: (ftr, Ar Z .int 17 g_ftr) :: (acs, Ar Z .int 16 g_acs) :: (cms, Ar Z .int 16 g_cms) :: (sus, Ar Z .int 64 g_sus) :: (prb, Ar Z .double 64 g_prb) :: (fa, Ar Z .int 2 f1) :: (fc, Ar Z .int 2 f2) :: (ft, Ar Z .int 2 f3) :: (ac, Ar Z .int 2 f4) :: (cm, Ar Z .int 2 f5) :: (su, Ar Z .int 4 f6) :: (pr, Ar Z .double 4 f7) :: (no, Ar Z .int 0 f8) :: Rr)) (h_fch : g_fch 0 = (.int (0 : Int32))) (h_fk : g_fk 0 = (.int (0 : Int32))) (h_frg : g_frg 0 = (.int (0 : Int32))) (h_fac : g_fac 0 = (.int (0 : Int32))) (h_fcm : g_fcm 0 = (.int (0 : Int32))) (h_ftr : g_ftr 0 = (.int (0 : Int32))) (h_f1 : f1 0 = .int 0) (h_f2 : f2 0 = .int 0) (h_f3 : f3 0 = .int 0) :
    MetFree l y_add (head1 (Jvm.Cond.code y_add prog_87_method_2_code 15 (some .int) :: ws) ({ frames := 1, cells := 0, slots := 0, locals := 18 } : Room)) (fun aa U => aa = #[(.ref r), (.ref b), (.ref no), (.int (-1 : Int32))] ∧ Z.Warmed39 U.vm ∧ U.heap = h0) (fun _ _ _ _ _ => True) (fun _ U ou U' => ∃ v L, ou = .returned v ∧ QrmADF Z r ks rgs ns fch fk kl frg fac fcm ftr acs cms sus prb b fa ac fc cm ft su pr no g_ks g_rgs g_ns g_fch g_fk g_kl g_frg g_fac g_fcm g_ftr g_acs g_cms g_sus g_prb f1 f2 f3 f4 f5 f6 f7 f8 Rr n0 v U'.heap L ∧ FrameEnd U ou U' L ({ frames := 1, cells := 0, slots := 0, locals := 18 } : Room).cells ({ frames := 1, cells := 0, slots := 0, locals := 18 } : Room).slots) := by
  refine MetFree.of_bodySF (plainFor_of_name pn_Rows) hisR ?_
  intro p e s m args below meth c s₁ Bd hml0 hP hK
  obtain ⟨rfl, hZ, hh⟩ := hP
  have hx := Bd.exec
  have hby := Bd.bytes
  have hml : c.maxLocals = 15 := hml0
  have hD : ∀ (k : Nat) {pc : Nat} {i : Instr} {n : Nat}, Ld_add[k]? = some (pc, i, n) → decode c.code pc = .ok (i, n) := by intro k pc i n h; exact hb hby (d_add (pc, i, n) (mi k h))
  have hown : s.vm.findClass "com/example/sambre/sambre/engine/Rows" = some m.cls := findClass_of_methodNamed Bd.named
  have hnm := (name_of_methodNamed Bd.named Bd.method).1
  have X0 : Stand p l e ({ frames := 1, cells := 0, slots := 0, locals := 18 } : Room) s m #[(.ref r), (.ref b), (.ref no), (.int (-1 : Int32))] below meth c s₁ [] 0 0 := Stand.of_body Bd
  have e0 : s₁.heap = h0 := by rw [← hh, Bd.state]; rfl
  have N0 := Fr.nil n0
  obtain ⟨F0, hF0⟩ : ∃ F, F = mkF m 0 #[.val (.ref r), .val (.ref b), .val (.ref no), .val (.int (-1 : Int32)), .unset, .unset, .unset, .unset, .unset, .unset, .unset, .unset, .unset, .unset, .unset] [] := ⟨_, rfl⟩
  have pre0 : ∀ t, Steps p.tables e below (s₁.setTop F0) t → Steps p.tables e below (s₁.setTop (entryFrame m #[(.ref r), (.ref b), (.ref no), (.int (-1 : Int32))] 15)) t := fun t k => castTop ((ef_rmADF m r ks rgs ns fch fk kl frg fac fcm ftr acs cms sus prb b fa ac fc cm ft su pr no g_ks g_rgs g_ns g_fch g_fk g_kl g_frg g_fac g_fcm g_ftr g_acs g_cms g_sus g_prb f1 f2 f3 f4 f5 f6 f7 f8).trans hF0.symm) k
  have K0 : Rch p e below s₁ F0 s₁ (mkF m 0 #[.val (.ref r), .val (.ref b), .val (.ref no), .val (.int (-1 : Int32)), .unset, .unset, .unset, .unset, .unset, .unset, .unset, .unset, .unset, .unset, .unset] []) := fun t k => castTop hF0 k
  have K1 : Rc K0 s₁ (mkF m 1 #[sR r, sR b, sR no, sI (-1), sU, sU, sU, sU, sU, sU, sU, sU, sU, sU, sU] [(kR r)]) := fun t k => K0 t (XS.aloadN X0.here hx rfl (hD 0 rfl) rfl rfl k)
  obtain ⟨T2, X2, e2, st2⟩ := getF X0 hx hZ hown (host := "") (Or.inl (hw _ (mi 103 rfl))) Via.refl e0 (W0.fld (i := 0) rfl (j := 14) rfl rfl) (g := K1.g) rfl rfl (hD 1 rfl)
  have K3 : Rc K0 T2 (mkF m 7 #[sR r, sR b, sR no, sI (-1), sI 0, sU, sU, sU, sU, sU, sU, sU, sU, sU, sU] [(kR r)]) := fun t k => K1 t (st2 t (by
    refine XS.istore X2.here hx rfl (hD 2 rfl) rfl (l' := #[sR r, sR b, sR no, sI (-1), sI 0, sU, sU, sU, sU, sU, sU, sU, sU, sU, sU]) rfl ?_
    refine XS.aloadN X2.here hx rfl (hD 3 rfl) rfl rfl ?_
    exact k))
  obtain ⟨T4, X4, e4, st4⟩ := getF X2 hx hZ hown (host := "") (Or.inl (hw _ (mi 22 rfl))) Via.refl e2 (W0.fld (i := 0) rfl (j := 3) rfl rfl) (g := K3.g) rfl rfl (hD 4 rfl)
  have K5 : Rc K0 T4 (mkF m 16 #[sR r, sR b, sR no, sI (-1), sI 0, sI 0, sU, sU, sU, sU, sU, sU, sU, sU, sU] [(kR b)]) := fun t k => K3 t (st4 t (by
    refine XS.iload X4.here hx rfl (hD 5 rfl) rfl ?_
    refine ialW X4 hx hZ e4 W0 (i := 5) rfl (j := (0 : Int32)) (k := 0) (by decide) (by decide) (by decide) (v := (.int (0 : Int32))) h_fch (g := (mkF m 12 #[sR r, sR b, sR no, sI (-1), sI 0, sU, sU, sU, sU, sU, sU, sU, sU, sU, sU] [(kI 0), (kR fch)])) rfl rfl (hD 6 rfl) _ ?_
    refine XS.istore X4.here hx rfl (hD 7 rfl) rfl (l' := #[sR r, sR b, sR no, sI (-1), sI 0, sI 0, sU, sU, sU, sU, sU, sU, sU, sU, sU]) rfl ?_
    refine XS.aloadN X4.here hx rfl (hD 8 rfl) rfl rfl ?_
    exact k))
  obtain ⟨T6, X6, e6, st6⟩ := getR X4 hx hZ hown (hw _ (mi 105 rfl)) e4 (W0.fld (i := 1) rfl (j := 11) rfl rfl) (g := K5.g) rfl rfl (hD 9 rfl)
  have K7 : Rc K0 T6 (mkF m 22 #[sR r, sR b, sR no, sI (-1), sI 0, sI 0, sI 1, sU, sU, sU, sU, sU, sU, sU, sU] [(kR r)]) := fun t k => K5 t (st6 t (by
    refine XS.istore X6.here hx rfl (hD 10 rfl) rfl (l' := #[sR r, sR b, sR no, sI (-1), sI 0, sI 0, sI 1, sU, sU, sU, sU, sU, sU, sU, sU]) rfl ?_
    refine XS.aloadN X6.here hx rfl (hD 11 rfl) rfl rfl ?_
    exact k))
  obtain ⟨T8, X8, e8, st8⟩ := getF X6 hx hZ hown (host := "") (Or.inl (hw _ (mi 30 rfl))) Via.refl e6 (W0.fld (i := 0) rfl (j := 7) rfl rfl) (g := K7.g) rfl rfl (hD 12 rfl)
  have K9 : Rc K0 T8 (mkF m 31 #[sR r, sR b, sR no, sI (-1), sI 0, sI 0, sI 1, sI 0, sU, sU, sU, sU, sU, sU, sU] [(kR r)]) := fun t k => K7 t (st8 t (by
    refine XS.iload X8.here hx rfl (hD 13 rfl) rfl ?_
    refine ialW X8 hx hZ e8 W0 (i := 9) rfl (j := (0 : Int32)) (k := 0) (by decide) (by decide) (by decide) (v := (.int (0 : Int32))) h_fac (g := (mkF m 27 #[sR r, sR b, sR no, sI (-1), sI 0, sI 0, sI 1, sU, sU, sU, sU, sU, sU, sU, sU] [(kI 0), (kR fac)])) rfl rfl (hD 14 rfl) _ ?_
    refine XS.istore X8.here hx rfl (hD 15 rfl) rfl (l' := #[sR r, sR b, sR no, sI (-1), sI 0, sI 0, sI 1, sI 0, sU, sU, sU, sU, sU, sU, sU]) rfl ?_
    refine XS.aloadN X8.here hx rfl (hD 16 rfl) rfl rfl ?_
    exact k))
  obtain ⟨T10, X10, e10, st10⟩ := getF X8 hx hZ hown (host := "") (Or.inl (hw _ (mi 32 rfl))) Via.refl e8 (W0.fld (i := 0) rfl (j := 8) rfl rfl) (g := K9.g) rfl rfl (hD 17 rfl)
  have K11 : Rc K0 T10 (mkF m 40 #[sR r, sR b, sR no, sI (-1), sI 0, sI 0, sI 1, sI 0, sI 0, sU, sU, sU, sU, sU, sU] [(kR r)]) := fun t k => K9 t (st10 t (by
    refine XS.iload X10.here hx rfl (hD 18 rfl) rfl ?_
    refine ialW X10 hx hZ e10 W0 (i := 10) rfl (j := (0 : Int32)) (k := 0) (by decide) (by decide) (by decide) (v := (.int (0 : Int32))) h_fcm (g := (mkF m 36 #[sR r, sR b, sR no, sI (-1), sI 0, sI 0, sI 1, sI 0, sU, sU, sU, sU, sU, sU, sU] [(kI 0), (kR fcm)])) rfl rfl (hD 19 rfl) _ ?_
    refine XS.istore X10.here hx rfl (hD 20 rfl) rfl (l' := #[sR r, sR b, sR no, sI (-1), sI 0, sI 0, sI 1, sI 0, sI 0, sU, sU, sU, sU, sU, sU]) rfl ?_
    refine XS.aloadN X10.here hx rfl (hD 21 rfl) rfl rfl ?_
    exact k))
  obtain ⟨T12, X12, e12, st12⟩ := getF X10 hx hZ hown (host := "") (Or.inl (hw _ (mi 34 rfl))) Via.refl e10 (W0.fld (i := 0) rfl (j := 9) rfl rfl) (g := K11.g) rfl rfl (hD 22 rfl)
  have K13 : Rc K0 T12 (mkF m 49 #[sR r, sR b, sR no, sI (-1), sI 0, sI 0, sI 1, sI 0, sI 0, sI 0, sU, sU, sU, sU, sU] [(kR r)]) := fun t k => K11 t (st12 t (by
    refine XS.iload X12.here hx rfl (hD 23 rfl) rfl ?_
    refine ialW X12 hx hZ e12 W0 (i := 11) rfl (j := (0 : Int32)) (k := 0) (by decide) (by decide) (by decide) (v := (.int (0 : Int32))) h_ftr (g := (mkF m 45 #[sR r, sR b, sR no, sI (-1), sI 0, sI 0, sI 1, sI 0, sI 0, sU, sU, sU, sU, sU, sU] [(kI 0), (kR ftr)])) rfl rfl (hD 24 rfl) _ ?_
    refine XS.istore X12.here hx rfl (hD 25 rfl) rfl (l' := #[sR r, sR b, sR no, sI (-1), sI 0, sI 0, sI 1, sI 0, sI 0, sI 0, sU, sU, sU, sU, sU]) rfl ?_
    refine XS.aloadN X12.here hx rfl (hD 26 rfl) rfl rfl ?_
    exact k))
  obtain ⟨T14, X14, e14, st14⟩ := getF X12 hx hZ hown (host := "") (Or.inl (hw _ (mi 24 rfl))) Via.refl e12 (W0.fld (i := 0) rfl (j := 4) rfl rfl) (g := K13.g) rfl rfl (hD 27 rfl)
  have K15 : Rc K0 T14 (mkF m 60 #[sR r, sR b, sR no, sI (-1), sI 0, sI 0, sI 1, sI 0, sI 0, sI 0, sI 0, sU, sU, sU, sU] [(kR b), (kI 0)]) := fun t k => K13 t (st14 t (by
    refine XS.iload X14.here hx rfl (hD 28 rfl) rfl ?_
    refine ialW X14 hx hZ e14 W0 (i := 6) rfl (j := (0 : Int32)) (k := 0) (by decide) (by decide) (by decide) (v := (.int (0 : Int32))) h_fk (g := (mkF m 54 #[sR r, sR b, sR no, sI (-1), sI 0, sI 0, sI 1, sI 0, sI 0, sI 0, sU, sU, sU, sU, sU] [(kI 0), (kR fk)])) rfl rfl (hD 29 rfl) _ ?_
    refine XS.istore X14.here hx rfl (hD 30 rfl) rfl (l' := #[sR r, sR b, sR no, sI (-1), sI 0, sI 0, sI 1, sI 0, sI 0, sI 0, sI 0, sU, sU, sU, sU]) rfl ?_
    refine XS.iload X14.here hx rfl (hD 31 rfl) rfl ?_
    refine XS.aloadN X14.here hx rfl (hD 32 rfl) rfl rfl ?_
    exact k))
  obtain ⟨T16, X16, e16, st16⟩ := getR X14 hx hZ hown (hw _ (mi 106 rfl)) e14 (W0.fld (i := 1) rfl (j := 0) rfl rfl) (g := K15.g) rfl rfl (hD 33 rfl)
  have K17 : Rc K0 T16 (mkF m 78 #[sR r, sR b, sR no, sI (-1), sI 0, sI 0, sI 1, sI 0, sI 0, sI 0, sI 0, sI 0, sU, sU, sU] [(kR r)]) := fun t k => K15 t (st16 t (by
    refine XS.ifnonnullNo X16.here hx rfl (hD 34 rfl) rfl ?_
    refine XS.iconst X16.here hx rfl (hD 35 rfl) ?_
    refine XS.goto X16.here hx rfl (pc0 := 67) (pc' := 74) rfl (hD 36 rfl) (by decide) (by decide) ?_
    refine XS.iadd X16.here hx rfl (hD 37 rfl) rfl ?_
    refine XS.istore X16.here hx rfl (hD 38 rfl) rfl (l' := #[sR r, sR b, sR no, sI (-1), sI 0, sI 0, sI 1, sI 0, sI 0, sI 0, sI 0, sI 0, sU, sU, sU]) rfl ?_
    refine XS.aloadN X16.here hx rfl (hD 39 rfl) rfl rfl ?_
    exact k))
  obtain ⟨T18, X18, e18, st18⟩ := getF X16 hx hZ hown (host := "") (Or.inl (hw _ (mi 28 rfl))) Via.refl e16 (W0.fld (i := 0) rfl (j := 6) rfl rfl) (g := K17.g) rfl rfl (hD 40 rfl)
  have K19 : Rc K0 T18 (mkF m 87 #[sR r, sR b, sR no, sI (-1), sI 0, sI 0, sI 1, sI 0, sI 0, sI 0, sI 0, sI 0, sI 0, sU, sU] [(kR r)]) := fun t k => K17 t (st18 t (by
    refine XS.iload X18.here hx rfl (hD 41 rfl) rfl ?_
    refine ialW X18 hx hZ e18 W0 (i := 8) rfl (j := (0 : Int32)) (k := 0) (by decide) (by decide) (by decide) (v := (.int (0 : Int32))) h_frg (g := (mkF m 83 #[sR r, sR b, sR no, sI (-1), sI 0, sI 0, sI 1, sI 0, sI 0, sI 0, sI 0, sI 0, sU, sU, sU] [(kI 0), (kR frg)])) rfl rfl (hD 42 rfl) _ ?_
    refine XS.istore X18.here hx rfl (hD 43 rfl) rfl (l' := #[sR r, sR b, sR no, sI (-1), sI 0, sI 0, sI 1, sI 0, sI 0, sI 0, sI 0, sI 0, sI 0, sU, sU]) rfl ?_
    refine XS.aloadN X18.here hx rfl (hD 44 rfl) rfl rfl ?_
    exact k))
  obtain ⟨T20, X20, e20, st20⟩ := getF X18 hx hZ hown (host := "") (Or.inl (hw _ (mi 107 rfl))) Via.refl e18 (W0.fld (i := 0) rfl (j := 15) rfl rfl) (g := K19.g) rfl rfl (hD 45 rfl)
  have K21 : Rc K0 T20 (mkF m 94 #[sR r, sR b, sR no, sI (-1), sI 0, sI 0, sI 1, sI 0, sI 0, sI 0, sI 0, sI 0, sI 0, sU, sU] [(kR b)]) := fun t k => K19 t (st20 t (by
    refine XS.ifnonnullNo X20.here hx rfl (hD 46 rfl) rfl ?_
    refine XS.aloadN X20.here hx rfl (hD 47 rfl) rfl rfl ?_
    exact k))
  obtain ⟨T22, X22, e22, st22⟩ := getR X20 hx hZ hown (hw _ (mi 109 rfl)) e20 (W0.fld (i := 1) rfl (j := 3) rfl rfl) (g := K21.g) rfl rfl (hD 48 rfl)
  have K23 : Rc K0 T22 (mkF m 110 #[sR r, sR b, sR no, sI (-1), sI 0, sI 0, sI 1, sI 0, sI 0, sI 0, sI 0, sI 0, sI 0, sI 1, sU] [(kR r), (kI 0)]) := fun t k => K21 t (st22 t (by
    refine XS.ifNo X22.here hx rfl (hD 49 rfl) rfl (by decide) ?_
    refine XS.iconst X22.here hx rfl (hD 50 rfl) ?_
    refine XS.goto X22.here hx rfl (pc0 := 101) (pc' := 105) rfl (hD 51 rfl) (by decide) (by decide) ?_
    refine XS.istore X22.here hx rfl (hD 53 rfl) rfl (l' := #[sR r, sR b, sR no, sI (-1), sI 0, sI 0, sI 1, sI 0, sI 0, sI 0, sI 0, sI 0, sI 0, sI 1, sU]) rfl ?_
    refine XS.iload X22.here hx rfl (hD 54 rfl) rfl ?_
    refine XS.aloadN X22.here hx rfl (hD 55 rfl) rfl rfl ?_
    exact k))
  obtain ⟨T24, X24, e24, st24⟩ := getF X22 hx hZ hown (host := "") (Or.inl (hw _ (mi 20 rfl))) Via.refl e22 (W0.fld (i := 0) rfl (j := 2) rfl rfl) (g := K23.g) rfl rfl (hD 56 rfl)
  have K25 : Rc K0 T24 (mkF m 122 #[sR r, sR b, sR no, sI (-1), sI 0, sI 0, sI 1, sI 0, sI 0, sI 0, sI 0, sI 0, sI 0, sI 1, sU] [(kR r), (kI 1)]) := fun t k => K23 t (st24 t (by
    refine lenW X24 hx hZ e24 W0 (i := 4) rfl (fun _ q => q) (z := (16 : Int32)) (by decide) (g := (mkF m 113 #[sR r, sR b, sR no, sI (-1), sI 0, sI 0, sI 1, sI 0, sI 0, sI 0, sI 0, sI 0, sI 0, sI 1, sU] [(kR ns), (kI 0)])) rfl rfl (hD 57 rfl) _ ?_
    refine XS.icmpNo X24.here hx rfl (hD 58 rfl) rfl (by decide) ?_
    refine XS.iload X24.here hx rfl (hD 59 rfl) rfl ?_
    refine XS.iconst X24.here hx rfl (hD 60 rfl) ?_
    refine XS.iadd X24.here hx rfl (hD 61 rfl) rfl ?_
    refine XS.aloadN X24.here hx rfl (hD 62 rfl) rfl rfl ?_
    exact k))
  obtain ⟨T26, X26, e26, st26⟩ := getF X24 hx hZ hown (host := "") (Or.inl (hw _ (mi 22 rfl))) Via.refl e24 (W0.fld (i := 0) rfl (j := 3) rfl rfl) (g := K25.g) rfl rfl (hD 63 rfl)
  have K27 : Rc K0 T26 (mkF m 135 #[sR r, sR b, sR no, sI (-1), sI 0, sI 0, sI 1, sI 0, sI 0, sI 0, sI 0, sI 0, sI 0, sI 1, sU] [(kR r), (kI 1)]) := fun t k => K25 t (st26 t (by
    refine lenW X26 hx hZ e26 W0 (i := 5) rfl (fun _ q => q) (z := (17 : Int32)) (by decide) (g := (mkF m 125 #[sR r, sR b, sR no, sI (-1), sI 0, sI 0, sI 1, sI 0, sI 0, sI 0, sI 0, sI 0, sI 0, sI 1, sU] [(kR fch), (kI 1)])) rfl rfl (hD 64 rfl) _ ?_
    refine XS.icmpNo X26.here hx rfl (hD 65 rfl) rfl (by decide) ?_
    refine XS.iload X26.here hx rfl (hD 66 rfl) rfl ?_
    refine XS.iload X26.here hx rfl (hD 67 rfl) rfl ?_
    refine XS.iadd X26.here hx rfl (hD 68 rfl) rfl ?_
    refine XS.aloadN X26.here hx rfl (hD 69 rfl) rfl rfl ?_
    exact k))
  obtain ⟨T28, X28, e28, st28⟩ := getF X26 hx hZ hown (host := "") (Or.inl (hw _ (mi 30 rfl))) Via.refl e26 (W0.fld (i := 0) rfl (j := 7) rfl rfl) (g := K27.g) rfl rfl (hD 70 rfl)
  have K29 : Rc K0 T28 (mkF m 145 #[sR r, sR b, sR no, sI (-1), sI 0, sI 0, sI 1, sI 0, sI 0, sI 0, sI 0, sI 0, sI 0, sI 1, sU] [(kR b), (kI 0)]) := fun t k => K27 t (st28 t (by
    refine lenW X28 hx hZ e28 W0 (i := 9) rfl (fun _ q => q) (z := (17 : Int32)) (by decide) (g := (mkF m 138 #[sR r, sR b, sR no, sI (-1), sI 0, sI 0, sI 1, sI 0, sI 0, sI 0, sI 0, sI 0, sI 0, sI 1, sU] [(kR fac), (kI 1)])) rfl rfl (hD 71 rfl) _ ?_
    refine XS.icmpNo X28.here hx rfl (hD 72 rfl) rfl (by decide) ?_
    refine XS.iload X28.here hx rfl (hD 73 rfl) rfl ?_
    refine XS.aloadN X28.here hx rfl (hD 74 rfl) rfl rfl ?_
    exact k))
  obtain ⟨T30, X30, e30, st30⟩ := getR X28 hx hZ hown (hw _ (mi 110 rfl)) e28 (W0.fld (i := 1) rfl (j := 12) rfl rfl) (g := K29.g) rfl rfl (hD 75 rfl)
  have K31 : Rc K0 T30 (mkF m 150 #[sR r, sR b, sR no, sI (-1), sI 0, sI 0, sI 1, sI 0, sI 0, sI 0, sI 0, sI 0, sI 0, sI 1, sU] [(kR r), (kI 0)]) := fun t k => K29 t (st30 t (by
    refine XS.iadd X30.here hx rfl (hD 76 rfl) rfl ?_
    refine XS.aloadN X30.here hx rfl (hD 77 rfl) rfl rfl ?_
    exact k))
  obtain ⟨T32, X32, e32, st32⟩ := getF X30 hx hZ hown (host := "") (Or.inl (hw _ (mi 36 rfl))) Via.refl e30 (W0.fld (i := 0) rfl (j := 10) rfl rfl) (g := K31.g) rfl rfl (hD 78 rfl)
  have K33 : Rc K0 T32 (mkF m 160 #[sR r, sR b, sR no, sI (-1), sI 0, sI 0, sI 1, sI 0, sI 0, sI 0, sI 0, sI 0, sI 0, sI 1, sU] [(kR b), (kI 0)]) := fun t k => K31 t (st32 t (by
    refine lenW X32 hx hZ e32 W0 (i := 12) rfl (fun _ q => q) (z := (16 : Int32)) (by decide) (g := (mkF m 153 #[sR r, sR b, sR no, sI (-1), sI 0, sI 0, sI 1, sI 0, sI 0, sI 0, sI 0, sI 0, sI 0, sI 1, sU] [(kR acs), (kI 0)])) rfl rfl (hD 79 rfl) _ ?_
    refine XS.icmpNo X32.here hx rfl (hD 80 rfl) rfl (by decide) ?_
    refine XS.iload X32.here hx rfl (hD 81 rfl) rfl ?_
    refine XS.aloadN X32.here hx rfl (hD 82 rfl) rfl rfl ?_
    exact k))
  obtain ⟨T34, X34, e34, st34⟩ := getR X32 hx hZ hown (hw _ (mi 111 rfl)) e32 (W0.fld (i := 1) rfl (j := 13) rfl rfl) (g := K33.g) rfl rfl (hD 83 rfl)
  have K35 : Rc K0 T34 (mkF m 165 #[sR r, sR b, sR no, sI (-1), sI 0, sI 0, sI 1, sI 0, sI 0, sI 0, sI 0, sI 0, sI 0, sI 1, sU] [(kR r), (kI 0)]) := fun t k => K33 t (st34 t (by
    refine XS.iadd X34.here hx rfl (hD 84 rfl) rfl ?_
    refine XS.aloadN X34.here hx rfl (hD 85 rfl) rfl rfl ?_
    exact k))
  obtain ⟨T36, X36, e36, st36⟩ := getF X34 hx hZ hown (host := "") (Or.inl (hw _ (mi 38 rfl))) Via.refl e34 (W0.fld (i := 0) rfl (j := 11) rfl rfl) (g := K35.g) rfl rfl (hD 86 rfl)
  have K37 : Rc K0 T36 (mkF m 175 #[sR r, sR b, sR no, sI (-1), sI 0, sI 0, sI 1, sI 0, sI 0, sI 0, sI 0, sI 0, sI 0, sI 1, sU] [(kR b), (kI 0)]) := fun t k => K35 t (st36 t (by
    refine lenW X36 hx hZ e36 W0 (i := 13) rfl (fun _ q => q) (z := (16 : Int32)) (by decide) (g := (mkF m 168 #[sR r, sR b, sR no, sI (-1), sI 0, sI 0, sI 1, sI 0, sI 0, sI 0, sI 0, sI 0, sI 0, sI 1, sU] [(kR cms), (kI 0)])) rfl rfl (hD 87 rfl) _ ?_
    refine XS.icmpNo X36.here hx rfl (hD 88 rfl) rfl (by decide) ?_
    refine XS.iload X36.here hx rfl (hD 89 rfl) rfl ?_
    refine XS.aloadN X36.here hx rfl (hD 90 rfl) rfl rfl ?_
    exact k))
  obtain ⟨T38, X38, e38, st38⟩ := getR X36 hx hZ hown (hw _ (mi 112 rfl)) e36 (W0.fld (i := 1) rfl (j := 14) rfl rfl) (g := K37.g) rfl rfl (hD 91 rfl)
  have K39 : Rc K0 T38 (mkF m 180 #[sR r, sR b, sR no, sI (-1), sI 0, sI 0, sI 1, sI 0, sI 0, sI 0, sI 0, sI 0, sI 0, sI 1, sU] [(kR r), (kI 1)]) := fun t k => K37 t (st38 t (by
    refine XS.iadd X38.here hx rfl (hD 92 rfl) rfl ?_
    refine XS.aloadN X38.here hx rfl (hD 93 rfl) rfl rfl ?_
    exact k))
  obtain ⟨T40, X40, e40, st40⟩ := getF X38 hx hZ hown (host := "") (Or.inl (hw _ (mi 40 rfl))) Via.refl e38 (W0.fld (i := 0) rfl (j := 12) rfl rfl) (g := K39.g) rfl rfl (hD 94 rfl)
  have K41 : Rc K0 T40 (mkF m 195 #[sR r, sR b, sR no, sI (-1), sI 0, sI 0, sI 1, sI 0, sI 0, sI 0, sI 0, sI 0, sI 0, sI 1, sU] [(kR b), (kI 0)]) := fun t k => K39 t (st40 t (by
    refine lenW X40 hx hZ e40 W0 (i := 14) rfl (fun _ q => q) (z := (64 : Int32)) (by decide) (g := (mkF m 183 #[sR r, sR b, sR no, sI (-1), sI 0, sI 0, sI 1, sI 0, sI 0, sI 0, sI 0, sI 0, sI 0, sI 1, sU] [(kR sus), (kI 1)])) rfl rfl (hD 95 rfl) _ ?_
    refine XS.icmpNo X40.here hx rfl (hD 96 rfl) rfl (by decide) ?_
    refine XS.iload X40.here hx rfl (hD 97 rfl) rfl ?_
    refine XS.ifNo X40.here hx rfl (hD 98 rfl) rfl (by decide) ?_
    refine XS.iload X40.here hx rfl (hD 99 rfl) rfl ?_
    refine XS.aloadN X40.here hx rfl (hD 100 rfl) rfl rfl ?_
    exact k))
  obtain ⟨T42, X42, e42, st42⟩ := getR X40 hx hZ hown (hw _ (mi 112 rfl)) e40 (W0.fld (i := 1) rfl (j := 14) rfl rfl) (g := K41.g) rfl rfl (hD 101 rfl)
  have K43 : Rc K0 T42 (mkF m 200 #[sR r, sR b, sR no, sI (-1), sI 0, sI 0, sI 1, sI 0, sI 0, sI 0, sI 0, sI 0, sI 0, sI 1, sU] [(kR r), (kI 1)]) := fun t k => K41 t (st42 t (by
    refine XS.iadd X42.here hx rfl (hD 102 rfl) rfl ?_
    refine XS.aloadN X42.here hx rfl (hD 103 rfl) rfl rfl ?_
    exact k))
  obtain ⟨T44, X44, e44, st44⟩ := getF X42 hx hZ hown (host := "") (Or.inl (hw _ (mi 42 rfl))) Via.refl e42 (W0.fld (i := 0) rfl (j := 13) rfl rfl) (g := K43.g) rfl rfl (hD 104 rfl)
  have K45 : Rc K0 T44 (mkF m 210 #[sR r, sR b, sR no, sI (-1), sI 0, sI 0, sI 1, sI 0, sI 0, sI 0, sI 0, sI 0, sI 0, sI 1, sU] [(kR r), (kI 0)]) := fun t k => K43 t (st44 t (by
    refine lenW X44 hx hZ e44 W0 (i := 15) rfl (fun _ q => q) (z := (64 : Int32)) (by decide) (g := (mkF m 203 #[sR r, sR b, sR no, sI (-1), sI 0, sI 0, sI 1, sI 0, sI 0, sI 0, sI 0, sI 0, sI 0, sI 1, sU] [(kR prb), (kI 1)])) rfl rfl (hD 105 rfl) _ ?_
    refine XS.icmpNo X44.here hx rfl (hD 106 rfl) rfl (by decide) ?_
    refine XS.iload X44.here hx rfl (hD 107 rfl) rfl ?_
    refine XS.aloadN X44.here hx rfl (hD 108 rfl) rfl rfl ?_
    exact k))
  obtain ⟨T46, X46, e46, st46⟩ := getF X44 hx hZ hown (host := "") (Or.inl (hw _ (mi 16 rfl))) Via.refl e44 (W0.fld (i := 0) rfl (j := 0) rfl rfl) (g := K45.g) rfl rfl (hD 109 rfl)
  have K47 : Rc K0 T46 (mkF m 223 #[sR r, sR b, sR no, sI (-1), sI 0, sI 0, sI 1, sI 0, sI 0, sI 0, sI 0, sI 0, sI 0, sI 1, sU] [(kR r), (kI 0)]) := fun t k => K45 t (st46 t (by
    refine lenW X46 hx hZ e46 W0 (i := 2) rfl (fun _ q => q) (z := (0 : Int32)) (by decide) (g := (mkF m 213 #[sR r, sR b, sR no, sI (-1), sI 0, sI 0, sI 1, sI 0, sI 0, sI 0, sI 0, sI 0, sI 0, sI 1, sU] [(kR ks), (kI 0)])) rfl rfl (hD 110 rfl) _ ?_
    refine XS.icmpNo X46.here hx rfl (hD 111 rfl) rfl (by decide) ?_
    refine XS.iload X46.here hx rfl (hD 112 rfl) rfl ?_
    refine XS.aloadN X46.here hx rfl (hD 113 rfl) rfl rfl ?_
    refine lenW X46 hx hZ e46 W0 (i := 23) rfl (fun _ q => q) (z := (0 : Int32)) (by decide) (g := (mkF m 220 #[sR r, sR b, sR no, sI (-1), sI 0, sI 0, sI 1, sI 0, sI 0, sI 0, sI 0, sI 0, sI 0, sI 1, sU] [(kR no), (kI 0)])) rfl rfl (hD 114 rfl) _ ?_
    refine XS.iadd X46.here hx rfl (hD 115 rfl) rfl ?_
    refine XS.aloadN X46.here hx rfl (hD 116 rfl) rfl rfl ?_
    exact k))
  obtain ⟨T48, X48, e48, st48⟩ := getF X46 hx hZ hown (host := "") (Or.inl (hw _ (mi 18 rfl))) Via.refl e46 (W0.fld (i := 0) rfl (j := 1) rfl rfl) (g := K47.g) rfl rfl (hD 117 rfl)
  have K49 : Rc K0 T48 (mkF m 255 #[sR r, sR b, sR no, sI (-1), sI 0, sI 0, sI 1, sI 0, sI 0, sI 0, sI 0, sI 0, sI 0, sI 1, sI 0] [(kR r)]) := fun t k => K47 t (st48 t (by
    refine lenW X48 hx hZ e48 W0 (i := 3) rfl (fun _ q => q) (z := (0 : Int32)) (by decide) (g := (mkF m 226 #[sR r, sR b, sR no, sI (-1), sI 0, sI 0, sI 1, sI 0, sI 0, sI 0, sI 0, sI 0, sI 0, sI 1, sU] [(kR rgs), (kI 0)])) rfl rfl (hD 118 rfl) _ ?_
    refine XS.icmpYes X48.here hx rfl (pc0 := 227) (pc' := 244) rfl (hD 119 rfl) rfl (by decide) (by decide) (by decide) ?_
    refine XS.iconst X48.here hx rfl (hD 120 rfl) ?_
    refine XS.istore X48.here hx rfl (hD 121 rfl) rfl (l' := #[sR r, sR b, sR no, sI (-1), sI 0, sI 0, sI 1, sI 0, sI 0, sI 0, sI 0, sI 0, sI 0, sI 1, sI 0]) rfl ?_
    refine XS.iload X48.here hx rfl (hD 122 rfl) rfl ?_
    refine XS.iload X48.here hx rfl (hD 123 rfl) rfl ?_
    refine XS.icmpNo X48.here hx rfl (hD 124 rfl) rfl (by decide) ?_
    refine XS.aloadN X48.here hx rfl (hD 125 rfl) rfl rfl ?_
    exact k))
  obtain ⟨T50, X50, e50, st50⟩ := getF X48 hx hZ hown (host := "") (Or.inl (hw _ (mi 30 rfl))) Via.refl e48 (W0.fld (i := 0) rfl (j := 7) rfl rfl) (g := K49.g) rfl rfl (hD 126 rfl)
  have K51 : Rc K0 T50 (mkF m 266 #[sR r, sR b, sR no, sI (-1), sI 0, sI 0, sI 1, sI 0, sI 0, sI 0, sI 0, sI 0, sI 0, sI 1, sI 0] [(kR b), (kI 0), (kI 0), (kR fac)]) := fun t k => K49 t (st50 t (by
    refine XS.iload X50.here hx rfl (hD 127 rfl) rfl ?_
    refine XS.iload X50.here hx rfl (hD 128 rfl) rfl ?_
    refine XS.iadd X50.here hx rfl (hD 129 rfl) rfl ?_
    refine XS.iload X50.here hx rfl (hD 130 rfl) rfl ?_
    refine XS.aloadN X50.here hx rfl (hD 131 rfl) rfl rfl ?_
    exact k))
  obtain ⟨T52, X52, e52, st52⟩ := getR X50 hx hZ hown (hw _ (mi 113 rfl)) e50 (W0.fld (i := 1) rfl (j := 4) rfl rfl) (g := K51.g) rfl rfl (hD 132 rfl)
  have K53 : Rc K0 T52 (mkF m 273 #[sR r, sR b, sR no, sI (-1), sI 0, sI 0, sI 1, sI 0, sI 0, sI 0, sI 0, sI 0, sI 0, sI 1, sI 0] [(kI 0), (kI 0), (kR fac)]) := fun t k => K51 t (st52 t (by
    refine XS.iload X52.here hx rfl (hD 133 rfl) rfl ?_
    refine ialW X52 hx hZ e52 W0 (i := 16) rfl (j := (0 : Int32)) (k := 0) (by decide) (by decide) (by decide) (v := (.int (0 : Int32))) h_f1 (g := (mkF m 271 #[sR r, sR b, sR no, sI (-1), sI 0, sI 0, sI 1, sI 0, sI 0, sI 0, sI 0, sI 0, sI 0, sI 1, sI 0] [(kI 0), (kR fa), (kI 0), (kI 0), (kR fac)])) rfl rfl (hD 134 rfl) _ ?_
    refine XS.iadd X52.here hx rfl (hD 135 rfl) rfl ?_
    exact k))
  obtain ⟨T54, h54, L54, X54, e54, N54, W54q, st54⟩ := iasW X52 hx hZ e52 W0 N0 (i := 9) (a := fac) rfl (j := (0 : Int32)) (x := (0 : Int32)) (k := 0) (by decide) (by decide) (by decide) (g := K53.g) rfl rfl (hD 136 rfl)
  have K55 : Rc K0 T54 (mkF m 275 #[sR r, sR b, sR no, sI (-1), sI 0, sI 0, sI 1, sI 0, sI 0, sI 0, sI 0, sI 0, sI 0, sI 1, sI 0] [(kR r)]) := fun t k => K53 t (st54 t (XS.aloadN X54.here hx rfl (hD 137 rfl) rfl rfl k))
  obtain ⟨T56, X56, e56, st56⟩ := getF X54 hx hZ hown (host := "") (Or.inl (hw _ (mi 32 rfl))) Via.refl e54 (W54q.fld (i := 0) rfl (j := 8) rfl rfl) (g := K55.g) rfl rfl (hD 138 rfl)
  have K57 : Rc K0 T56 (mkF m 286 #[sR r, sR b, sR no, sI (-1), sI 0, sI 0, sI 1, sI 0, sI 0, sI 0, sI 0, sI 0, sI 0, sI 1, sI 0] [(kR b), (kI 0), (kI 0), (kR fcm)]) := fun t k => K55 t (st56 t (by
    refine XS.iload X56.here hx rfl (hD 139 rfl) rfl ?_
    refine XS.iload X56.here hx rfl (hD 140 rfl) rfl ?_
    refine XS.iadd X56.here hx rfl (hD 141 rfl) rfl ?_
    refine XS.iload X56.here hx rfl (hD 142 rfl) rfl ?_
    refine XS.aloadN X56.here hx rfl (hD 143 rfl) rfl rfl ?_
    exact k))
  obtain ⟨T58, X58, e58, st58⟩ := getR X56 hx hZ hown (hw _ (mi 114 rfl)) e56 (W54q.fld (i := 1) rfl (j := 6) rfl rfl) (g := K57.g) rfl rfl (hD 144 rfl)
  have K59 : Rc K0 T58 (mkF m 293 #[sR r, sR b, sR no, sI (-1), sI 0, sI 0, sI 1, sI 0, sI 0, sI 0, sI 0, sI 0, sI 0, sI 1, sI 0] [(kI 0), (kI 0), (kR fcm)]) := fun t k => K57 t (st58 t (by
    refine XS.iload X58.here hx rfl (hD 145 rfl) rfl ?_
    refine ialW X58 hx hZ e58 W54q (i := 17) rfl (j := (0 : Int32)) (k := 0) (by decide) (by decide) (by decide) (v := (.int (0 : Int32))) h_f2 (g := (mkF m 291 #[sR r, sR b, sR no, sI (-1), sI 0, sI 0, sI 1, sI 0, sI 0, sI 0, sI 0, sI 0, sI 0, sI 1, sI 0] [(kI 0), (kR fc), (kI 0), (kI 0), (kR fcm)])) rfl rfl (hD 146 rfl) _ ?_
    refine XS.iadd X58.here hx rfl (hD 147 rfl) rfl ?_
    exact k))
  obtain ⟨T60, h60, L60, X60, e60, N60, W60q, st60⟩ := iasW X58 hx hZ e58 W54q N54 (i := 10) (a := fcm) rfl (j := (0 : Int32)) (x := (0 : Int32)) (k := 0) (by decide) (by decide) (by decide) (g := K59.g) rfl rfl (hD 148 rfl)
  have K61 : Rc K0 T60 (mkF m 295 #[sR r, sR b, sR no, sI (-1), sI 0, sI 0, sI 1, sI 0, sI 0, sI 0, sI 0, sI 0, sI 0, sI 1, sI 0] [(kR r)]) := fun t k => K59 t (st60 t (XS.aloadN X60.here hx rfl (hD 149 rfl) rfl rfl k))
  obtain ⟨T62, X62, e62, st62⟩ := getF X60 hx hZ hown (host := "") (Or.inl (hw _ (mi 34 rfl))) Via.refl e60 (W60q.fld (i := 0) rfl (j := 9) rfl rfl) (g := K61.g) rfl rfl (hD 150 rfl)
  have K63 : Rc K0 T62 (mkF m 306 #[sR r, sR b, sR no, sI (-1), sI 0, sI 0, sI 1, sI 0, sI 0, sI 0, sI 0, sI 0, sI 0, sI 1, sI 0] [(kR b), (kI 0), (kI 0), (kR ftr)]) := fun t k => K61 t (st62 t (by
    refine XS.iload X62.here hx rfl (hD 151 rfl) rfl ?_
    refine XS.iload X62.here hx rfl (hD 152 rfl) rfl ?_
    refine XS.iadd X62.here hx rfl (hD 153 rfl) rfl ?_
    refine XS.iload X62.here hx rfl (hD 154 rfl) rfl ?_
    refine XS.aloadN X62.here hx rfl (hD 155 rfl) rfl rfl ?_
    exact k))
  obtain ⟨T64, X64, e64, st64⟩ := getR X62 hx hZ hown (hw _ (mi 115 rfl)) e62 (W60q.fld (i := 1) rfl (j := 8) rfl rfl) (g := K63.g) rfl rfl (hD 156 rfl)
  have K65 : Rc K0 T64 (mkF m 313 #[sR r, sR b, sR no, sI (-1), sI 0, sI 0, sI 1, sI 0, sI 0, sI 0, sI 0, sI 0, sI 0, sI 1, sI 0] [(kI 0), (kI 0), (kR ftr)]) := fun t k => K63 t (st64 t (by
    refine XS.iload X64.here hx rfl (hD 157 rfl) rfl ?_
    refine ialW X64 hx hZ e64 W60q (i := 18) rfl (j := (0 : Int32)) (k := 0) (by decide) (by decide) (by decide) (v := (.int (0 : Int32))) h_f3 (g := (mkF m 311 #[sR r, sR b, sR no, sI (-1), sI 0, sI 0, sI 1, sI 0, sI 0, sI 0, sI 0, sI 0, sI 0, sI 1, sI 0] [(kI 0), (kR ft), (kI 0), (kI 0), (kR ftr)])) rfl rfl (hD 158 rfl) _ ?_
    refine XS.iadd X64.here hx rfl (hD 159 rfl) rfl ?_
    exact k))
  obtain ⟨T66, h66, L66, X66, e66, N66, W66q, st66⟩ := iasW X64 hx hZ e64 W60q N60 (i := 11) (a := ftr) rfl (j := (0 : Int32)) (x := (0 : Int32)) (k := 0) (by decide) (by decide) (by decide) (g := K65.g) rfl rfl (hD 160 rfl)
  have K67 : Rc K0 T66 (mkF m 321 #[sR r, sR b, sR no, sI (-1), sI 0, sI 0, sI 1, sI 0, sI 0, sI 0, sI 0, sI 0, sI 0, sI 1, sI 1] [(kR r)]) := fun t k => K65 t (st66 t (by
    refine XS.iinc X66.here hx rfl (hD 161 rfl) rfl (l' := #[sR r, sR b, sR no, sI (-1), sI 0, sI 0, sI 1, sI 0, sI 0, sI 0, sI 0, sI 0, sI 0, sI 1, sI 1]) rfl ?_
    refine XS.goto X66.here hx rfl (pc0 := 317) (pc' := 247) rfl (hD 162 rfl) (by decide) (by decide) ?_
    refine XS.iload X66.here hx rfl (hD 122 rfl) rfl ?_
    refine XS.iload X66.here hx rfl (hD 123 rfl) rfl ?_
    refine XS.icmpYes X66.here hx rfl (pc0 := 251) (pc' := 320) rfl (hD 124 rfl) rfl (by decide) (by decide) (by decide) ?_
    refine XS.aloadN X66.here hx rfl (hD 163 rfl) rfl rfl ?_
    exact k))
  obtain ⟨T68, X68, e68, st68⟩ := getF X66 hx hZ hown (host := "") (Or.inl (hw _ (mi 30 rfl))) Via.refl e66 (W66q.fld (i := 0) rfl (j := 7) rfl rfl) (g := K67.g) rfl rfl (hD 164 rfl)
  have K69 : Rc K0 T68 (mkF m 332 #[sR r, sR b, sR no, sI (-1), sI 0, sI 0, sI 1, sI 0, sI 0, sI 0, sI 0, sI 0, sI 0, sI 1, sI 1] [(kR b), (kI 0), (kI 1), (kR fac)]) := fun t k => K67 t (st68 t (by
    refine XS.iload X68.here hx rfl (hD 165 rfl) rfl ?_
    refine XS.iload X68.here hx rfl (hD 166 rfl) rfl ?_
    refine XS.iadd X68.here hx rfl (hD 167 rfl) rfl ?_
    refine XS.iload X68.here hx rfl (hD 168 rfl) rfl ?_
    refine XS.aloadN X68.here hx rfl (hD 169 rfl) rfl rfl ?_
    exact k))
  obtain ⟨T70, X70, e70, st70⟩ := getR X68 hx hZ hown (hw _ (mi 110 rfl)) e68 (W66q.fld (i := 1) rfl (j := 12) rfl rfl) (g := K69.g) rfl rfl (hD 170 rfl)
  have K71 : Rc K0 T70 (mkF m 336 #[sR r, sR b, sR no, sI (-1), sI 0, sI 0, sI 1, sI 0, sI 0, sI 0, sI 0, sI 0, sI 0, sI 1, sI 1] [(kI 0), (kI 1), (kR fac)]) := fun t k => K69 t (st70 t (XS.iadd X70.here hx rfl (hD 171 rfl) rfl k))
  obtain ⟨T72, h72, L72, X72, e72, N72, W72q, st72⟩ := iasW X70 hx hZ e70 W66q N66 (i := 9) (a := fac) rfl (j := (1 : Int32)) (x := (0 : Int32)) (k := 1) (by decide) (by decide) (by decide) (g := K71.g) rfl rfl (hD 172 rfl)
  have W72 : Wo n0 h72 ((r, oR Z [(kR ks), (kR rgs), (kR ns), (kR fch), (kR fk), (kR kl), (kR frg), (kR fac), (kR fcm), (kR ftr), (kR acs), (kR cms), (kR sus), (kR prb), (kI 0), .null, (kI 0), .null, .null, .null, .null, .null, .null, (kI 0), (kI 0)]) :: (b, oB Z [.null, (kI 0), .null, (kI 0), (kR fa), (kR ac), (kR fc), (kR cm), (kR ft), (kR su), (kR pr), (kI 1), (kI 0), (kI 0), (kI 1), .null]) :: (ks, Ar Z .int 0 g_ks) :: (rgs, Ar Z .int 0 g_rgs) :: (ns, Ar Z .int 16 g_ns) :: (fch, Ar Z .int 17 g_fch) :: (fk, Ar Z .int 17 g_fk) :: (kl, Ar Z .int 16 g_kl) :: (frg, Ar Z .int 17 g_frg) :: (fac, Ar Z .int 17 (upd (upd g_fac 0 (kI 0)) 1 (kI 0))) :: (fcm, Ar Z .int 17 (upd g_fcm 0 (kI 0))) :: (ftr, Ar Z .int 17 (upd g_ftr 0 (kI 0))) :: (acs, Ar Z .int 16 g_acs) :: (cms, Ar Z .int 16 g_cms) :: (sus, Ar Z .int 64 g_sus) :: (prb, Ar Z .double 64 g_prb) :: (fa, Ar Z .int 2 f1) :: (fc, Ar Z .int 2 f2) :: (ft, Ar Z .int 2 f3) :: (ac, Ar Z .int 2 f4) :: (cm, Ar Z .int 2 f5) :: (su, Ar Z .int 4 f6) :: (pr, Ar Z .double 4 f7) :: (no, Ar Z .int 0 f8) :: Rr) := W72q
  have K73 : Rc K0 T72 (mkF m 338 #[sR r, sR b, sR no, sI (-1), sI 0, sI 0, sI 1, sI 0, sI 0, sI 0, sI 0, sI 0, sI 0, sI 1, sI 1] [(kR r)]) := fun t k => K71 t (st72 t (XS.aloadN X72.here hx rfl (hD 173 rfl) rfl rfl k))
  obtain ⟨T74, X74, e74, st74⟩ := getF X72 hx hZ hown (host := "") (Or.inl (hw _ (mi 32 rfl))) Via.refl e72 (W72.fld (i := 0) rfl (j := 8) rfl rfl) (g := K73.g) rfl rfl (hD 174 rfl)
  have K75 : Rc K0 T74 (mkF m 349 #[sR r, sR b, sR no, sI (-1), sI 0, sI 0, sI 1, sI 0, sI 0, sI 0, sI 0, sI 0, sI 0, sI 1, sI 1] [(kR b), (kI 0), (kI 1), (kR fcm)]) := fun t k => K73 t (st74 t (by
    refine XS.iload X74.here hx rfl (hD 175 rfl) rfl ?_
    refine XS.iload X74.here hx rfl (hD 176 rfl) rfl ?_
    refine XS.iadd X74.here hx rfl (hD 177 rfl) rfl ?_
    refine XS.iload X74.here hx rfl (hD 178 rfl) rfl ?_
    refine XS.aloadN X74.here hx rfl (hD 179 rfl) rfl rfl ?_
    exact k))
  obtain ⟨T76, X76, e76, st76⟩ := getR X74 hx hZ hown (hw _ (mi 111 rfl)) e74 (W72.fld (i := 1) rfl (j := 13) rfl rfl) (g := K75.g) rfl rfl (hD 180 rfl)
  have K77 : Rc K0 T76 (mkF m 353 #[sR r, sR b, sR no, sI (-1), sI 0, sI 0, sI 1, sI 0, sI 0, sI 0, sI 0, sI 0, sI 0, sI 1, sI 1] [(kI 0), (kI 1), (kR fcm)]) := fun t k => K75 t (st76 t (XS.iadd X76.here hx rfl (hD 181 rfl) rfl k))
  obtain ⟨T78, h78, L78, X78, e78, N78, W78q, st78⟩ := iasW X76 hx hZ e76 W72 N72 (i := 10) (a := fcm) rfl (j := (1 : Int32)) (x := (0 : Int32)) (k := 1) (by decide) (by decide) (by decide) (g := K77.g) rfl rfl (hD 182 rfl)
  have K79 : Rc K0 T78 (mkF m 355 #[sR r, sR b, sR no, sI (-1), sI 0, sI 0, sI 1, sI 0, sI 0, sI 0, sI 0, sI 0, sI 0, sI 1, sI 1] [(kR r)]) := fun t k => K77 t (st78 t (XS.aloadN X78.here hx rfl (hD 183 rfl) rfl rfl k))
  obtain ⟨T80, X80, e80, st80⟩ := getF X78 hx hZ hown (host := "") (Or.inl (hw _ (mi 34 rfl))) Via.refl e78 (W78q.fld (i := 0) rfl (j := 9) rfl rfl) (g := K79.g) rfl rfl (hD 184 rfl)
  have K81 : Rc K0 T80 (mkF m 366 #[sR r, sR b, sR no, sI (-1), sI 0, sI 0, sI 1, sI 0, sI 0, sI 0, sI 0, sI 0, sI 0, sI 1, sI 1] [(kR b), (kI 0), (kI 1), (kR ftr)]) := fun t k => K79 t (st80 t (by
    refine XS.iload X80.here hx rfl (hD 185 rfl) rfl ?_
    refine XS.iload X80.here hx rfl (hD 186 rfl) rfl ?_
    refine XS.iadd X80.here hx rfl (hD 187 rfl) rfl ?_
    refine XS.iload X80.here hx rfl (hD 188 rfl) rfl ?_
    refine XS.aloadN X80.here hx rfl (hD 189 rfl) rfl rfl ?_
    exact k))
  obtain ⟨T82, X82, e82, st82⟩ := getR X80 hx hZ hown (hw _ (mi 112 rfl)) e80 (W78q.fld (i := 1) rfl (j := 14) rfl rfl) (g := K81.g) rfl rfl (hD 190 rfl)
  have K83 : Rc K0 T82 (mkF m 370 #[sR r, sR b, sR no, sI (-1), sI 0, sI 0, sI 1, sI 0, sI 0, sI 0, sI 0, sI 0, sI 0, sI 1, sI 1] [(kI 1), (kI 1), (kR ftr)]) := fun t k => K81 t (st82 t (XS.iadd X82.here hx rfl (hD 191 rfl) rfl k))
  obtain ⟨T84, h84, L84, X84, e84, N84, W84q, st84⟩ := iasW X82 hx hZ e82 W78q N78 (i := 11) (a := ftr) rfl (j := (1 : Int32)) (x := (1 : Int32)) (k := 1) (by decide) (by decide) (by decide) (g := K83.g) rfl rfl (hD 192 rfl)
  have K85 : Rc K0 T84 (mkF m 372 #[sR r, sR b, sR no, sI (-1), sI 0, sI 0, sI 1, sI 0, sI 0, sI 0, sI 0, sI 0, sI 0, sI 1, sI 1] [(kR b)]) := fun t k => K83 t (st84 t (XS.aloadN X84.here hx rfl (hD 193 rfl) rfl rfl k))
  obtain ⟨T86, X86, e86, st86⟩ := getR X84 hx hZ hown (hw _ (mi 116 rfl)) e84 (W84q.fld (i := 1) rfl (j := 5) rfl rfl) (g := K85.g) rfl rfl (hD 194 rfl)
  have K87 : Rc K0 T86 (mkF m 377 #[sR r, sR b, sR no, sI (-1), sI 0, sI 0, sI 1, sI 0, sI 0, sI 0, sI 0, sI 0, sI 0, sI 1, sI 1] [(kR r), (kI 0), (kR ac)]) := fun t k => K85 t (st86 t (by
    refine XS.iconst X86.here hx rfl (hD 195 rfl) ?_
    refine XS.aloadN X86.here hx rfl (hD 196 rfl) rfl rfl ?_
    exact k))
  obtain ⟨T88, X88, e88, st88⟩ := getF X86 hx hZ hown (host := "") (Or.inl (hw _ (mi 36 rfl))) Via.refl e86 (W84q.fld (i := 0) rfl (j := 10) rfl rfl) (g := K87.g) rfl rfl (hD 197 rfl)
  have K89 : Rc K0 T88 (mkF m 383 #[sR r, sR b, sR no, sI (-1), sI 0, sI 0, sI 1, sI 0, sI 0, sI 0, sI 0, sI 0, sI 0, sI 1, sI 1] [(kR b), (kI 0), (kR acs), (kI 0), (kR ac)]) := fun t k => K87 t (st88 t (by
    refine XS.iload X88.here hx rfl (hD 198 rfl) rfl ?_
    refine XS.aloadN X88.here hx rfl (hD 199 rfl) rfl rfl ?_
    exact k))
  obtain ⟨T90, X90, e90, st90⟩ := getR X88 hx hZ hown (hw _ (mi 110 rfl)) e88 (W84q.fld (i := 1) rfl (j := 12) rfl rfl) (g := K89.g) rfl rfl (hD 200 rfl)
  obtain ⟨T91, h91, L91, X91, e91, N91, W91q, st91⟩ := cpW X90 hx hZ hown (hw _ (mi 117 rfl)) (hw _ (mi 120 rfl)) (hw _ (mi 118 rfl)) (hw _ (mi 119 rfl)) e90 W84q N84 (i := 19) (j := 12) rfl rfl rfl (sp := (0 : Int32)) (dp := (0 : Int32)) (nn := (0 : Int32)) (s' := 0) (d' := 0) (k' := 0) (by decide) (by decide) (by decide) (by decide) (by decide) (by decide) (by decide) (by decide) (g := (mkF m 386 #[sR r, sR b, sR no, sI (-1), sI 0, sI 0, sI 1, sI 0, sI 0, sI 0, sI 0, sI 0, sI 0, sI 1, sI 1] [(kI 0), (kI 0), (kR acs), (kI 0), (kR ac)])) rfl (by rw [hml]; rfl) (rest := []) rfl (hD 201 rfl) (by decide) (W0 := 0) (by show 2 * 0 + _ ≤ _; exact Nat.le_of_eq rfl) (by decide)
  have K92 : Rc K0 T91 (mkF m 390 #[sR r, sR b, sR no, sI (-1), sI 0, sI 0, sI 1, sI 0, sI 0, sI 0, sI 0, sI 0, sI 0, sI 1, sI 1] [(kR b)]) := fun t k => K89 t (st90 t (st91 t (XS.aloadN X91.here hx rfl (hD 202 rfl) rfl rfl k)))
  obtain ⟨T93, X93, e93, st93⟩ := getR X91 hx hZ hown (hw _ (mi 121 rfl)) e91 (W91q.fld (i := 1) rfl (j := 7) rfl rfl) (g := K92.g) rfl rfl (hD 203 rfl)
  have K94 : Rc K0 T93 (mkF m 395 #[sR r, sR b, sR no, sI (-1), sI 0, sI 0, sI 1, sI 0, sI 0, sI 0, sI 0, sI 0, sI 0, sI 1, sI 1] [(kR r), (kI 0), (kR cm)]) := fun t k => K92 t (st93 t (by
    refine XS.iconst X93.here hx rfl (hD 204 rfl) ?_
    refine XS.aloadN X93.here hx rfl (hD 205 rfl) rfl rfl ?_
    exact k))
  obtain ⟨T95, X95, e95, st95⟩ := getF X93 hx hZ hown (host := "") (Or.inl (hw _ (mi 38 rfl))) Via.refl e93 (W91q.fld (i := 0) rfl (j := 11) rfl rfl) (g := K94.g) rfl rfl (hD 206 rfl)
  have K96 : Rc K0 T95 (mkF m 401 #[sR r, sR b, sR no, sI (-1), sI 0, sI 0, sI 1, sI 0, sI 0, sI 0, sI 0, sI 0, sI 0, sI 1, sI 1] [(kR b), (kI 0), (kR cms), (kI 0), (kR cm)]) := fun t k => K94 t (st95 t (by
    refine XS.iload X95.here hx rfl (hD 207 rfl) rfl ?_
    refine XS.aloadN X95.here hx rfl (hD 208 rfl) rfl rfl ?_
    exact k))
  obtain ⟨T97, X97, e97, st97⟩ := getR X95 hx hZ hown (hw _ (mi 111 rfl)) e95 (W91q.fld (i := 1) rfl (j := 13) rfl rfl) (g := K96.g) rfl rfl (hD 209 rfl)
  obtain ⟨T98, h98, L98, X98, e98, N98, W98q, st98⟩ := cpW X97 hx hZ hown (hw _ (mi 117 rfl)) (hw _ (mi 120 rfl)) (hw _ (mi 118 rfl)) (hw _ (mi 119 rfl)) e97 W91q N91 (i := 20) (j := 13) rfl rfl rfl (sp := (0 : Int32)) (dp := (0 : Int32)) (nn := (0 : Int32)) (s' := 0) (d' := 0) (k' := 0) (by decide) (by decide) (by decide) (by decide) (by decide) (by decide) (by decide) (by decide) (g := (mkF m 404 #[sR r, sR b, sR no, sI (-1), sI 0, sI 0, sI 1, sI 0, sI 0, sI 0, sI 0, sI 0, sI 0, sI 1, sI 1] [(kI 0), (kI 0), (kR cms), (kI 0), (kR cm)])) rfl (by rw [hml]; rfl) (rest := []) rfl (hD 210 rfl) (by decide) (W0 := 0) (by show 2 * 0 + _ ≤ _; exact Nat.le_of_eq rfl) (by decide)
  have W98 : Wo n0 h98 ((r, oR Z [(kR ks), (kR rgs), (kR ns), (kR fch), (kR fk), (kR kl), (kR frg), (kR fac), (kR fcm), (kR ftr), (kR acs), (kR cms), (kR sus), (kR prb), (kI 0), .null, (kI 0), .null, .null, .null, .null, .null, .null, (kI 0), (kI 0)]) :: (b, oB Z [.null, (kI 0), .null, (kI 0), (kR fa), (kR ac), (kR fc), (kR cm), (kR ft), (kR su), (kR pr), (kI 1), (kI 0), (kI 0), (kI 1), .null]) :: (ks, Ar Z .int 0 g_ks) :: (rgs, Ar Z .int 0 g_rgs) :: (ns, Ar Z .int 16 g_ns) :: (fch, Ar Z .int 17 g_fch) :: (fk, Ar Z .int 17 g_fk) :: (kl, Ar Z .int 16 g_kl) :: (frg, Ar Z .int 17 g_frg) :: (fac, Ar Z .int 17 (upd (upd g_fac 0 (kI 0)) 1 (kI 0))) :: (fcm, Ar Z .int 17 (upd (upd g_fcm 0 (kI 0)) 1 (kI 0))) :: (ftr, Ar Z .int 17 (upd (upd g_ftr 0 (kI 0)) 1 (kI 1))) :: (acs, Ar Z .int 16 (cpy f4 g_acs 0 0 0)) :: (cms, Ar Z .int 16 (cpy f5 g_cms 0 0 0)) :: (sus, Ar Z .int 64 g_sus) :: (prb, Ar Z .double 64 g_prb) :: (fa, Ar Z .int 2 f1) :: (fc, Ar Z .int 2 f2) :: (ft, Ar Z .int 2 f3) :: (ac, Ar Z .int 2 f4) :: (cm, Ar Z .int 2 f5) :: (su, Ar Z .int 4 f6) :: (pr, Ar Z .double 4 f7) :: (no, Ar Z .int 0 f8) :: Rr) := W98q
  have K99 : Rc K0 T98 (mkF m 408 #[sR r, sR b, sR no, sI (-1), sI 0, sI 0, sI 1, sI 0, sI 0, sI 0, sI 0, sI 0, sI 0, sI 1, sI 1] [(kR b)]) := fun t k => K96 t (st97 t (st98 t (XS.aloadN X98.here hx rfl (hD 211 rfl) rfl rfl k)))
  obtain ⟨T100, X100, e100, st100⟩ := getR X98 hx hZ hown (hw _ (mi 122 rfl)) e98 (W98.fld (i := 1) rfl (j := 9) rfl rfl) (g := K99.g) rfl rfl (hD 212 rfl)
  have K101 : Rc K0 T100 (mkF m 413 #[sR r, sR b, sR no, sI (-1), sI 0, sI 0, sI 1, sI 0, sI 0, sI 0, sI 0, sI 0, sI 0, sI 1, sI 1] [(kR r), (kI 0), (kR su)]) := fun t k => K99 t (st100 t (by
    refine XS.iconst X100.here hx rfl (hD 213 rfl) ?_
    refine XS.aloadN X100.here hx rfl (hD 214 rfl) rfl rfl ?_
    exact k))
  obtain ⟨T102, X102, e102, st102⟩ := getF X100 hx hZ hown (host := "") (Or.inl (hw _ (mi 40 rfl))) Via.refl e100 (W98.fld (i := 0) rfl (j := 12) rfl rfl) (g := K101.g) rfl rfl (hD 215 rfl)
  have K103 : Rc K0 T102 (mkF m 419 #[sR r, sR b, sR no, sI (-1), sI 0, sI 0, sI 1, sI 0, sI 0, sI 0, sI 0, sI 0, sI 0, sI 1, sI 1] [(kR b), (kI 0), (kR sus), (kI 0), (kR su)]) := fun t k => K101 t (st102 t (by
    refine XS.iload X102.here hx rfl (hD 216 rfl) rfl ?_
    refine XS.aloadN X102.here hx rfl (hD 217 rfl) rfl rfl ?_
    exact k))
  obtain ⟨T104, X104, e104, st104⟩ := getR X102 hx hZ hown (hw _ (mi 112 rfl)) e102 (W98.fld (i := 1) rfl (j := 14) rfl rfl) (g := K103.g) rfl rfl (hD 218 rfl)
  obtain ⟨T105, h105, L105, X105, e105, N105, W105q, st105⟩ := cpW X104 hx hZ hown (hw _ (mi 117 rfl)) (hw _ (mi 120 rfl)) (hw _ (mi 118 rfl)) (hw _ (mi 119 rfl)) e104 W98 N98 (i := 21) (j := 14) rfl rfl rfl (sp := (0 : Int32)) (dp := (0 : Int32)) (nn := (1 : Int32)) (s' := 0) (d' := 0) (k' := 1) (by decide) (by decide) (by decide) (by decide) (by decide) (by decide) (by decide) (by decide) (g := (mkF m 422 #[sR r, sR b, sR no, sI (-1), sI 0, sI 0, sI 1, sI 0, sI 0, sI 0, sI 0, sI 0, sI 0, sI 1, sI 1] [(kI 1), (kI 0), (kR sus), (kI 0), (kR su)])) rfl (by rw [hml]; rfl) (rest := []) rfl (hD 219 rfl) (by decide) (W0 := 0) (by show 2 * 0 + _ ≤ _; exact Nat.le_of_eq rfl) (by decide)
  have K106 : Rc K0 T105 (mkF m 426 #[sR r, sR b, sR no, sI (-1), sI 0, sI 0, sI 1, sI 0, sI 0, sI 0, sI 0, sI 0, sI 0, sI 1, sI 1] [(kR b)]) := fun t k => K103 t (st104 t (st105 t (XS.aloadN X105.here hx rfl (hD 220 rfl) rfl rfl k)))
  obtain ⟨T107, X107, e107, st107⟩ := getR X105 hx hZ hown (hw _ (mi 106 rfl)) e105 (W105q.fld (i := 1) rfl (j := 0) rfl rfl) (g := K106.g) rfl rfl (hD 221 rfl)
  have K108 : Rc K0 T107 (mkF m 454 #[sR r, sR b, sR no, sI (-1), sI 0, sI 0, sI 1, sI 0, sI 0, sI 0, sI 0, sI 0, sI 0, sI 1, sI 1] [(kR r), (kI 0), (kR no)]) := fun t k => K106 t (st107 t (by
    refine XS.ifnullYes X107.here hx rfl (pc0 := 429) (pc' := 451) rfl (hD 222 rfl) rfl (by decide) (by decide) ?_
    refine XS.aloadN X107.here hx rfl (hD 223 rfl) rfl rfl ?_
    refine XS.iconst X107.here hx rfl (hD 224 rfl) ?_
    refine XS.aloadN X107.here hx rfl (hD 225 rfl) rfl rfl ?_
    exact k))
  obtain ⟨T109, X109, e109, st109⟩ := getF X107 hx hZ hown (host := "") (Or.inl (hw _ (mi 18 rfl))) Via.refl e107 (W105q.fld (i := 0) rfl (j := 1) rfl rfl) (g := K108.g) rfl rfl (hD 226 rfl)
  have K110 : Rc K0 T109 (mkF m 461 #[sR r, sR b, sR no, sI (-1), sI 0, sI 0, sI 1, sI 0, sI 0, sI 0, sI 0, sI 0, sI 0, sI 1, sI 1] [(kI 0), (kI 0), (kR rgs), (kI 0), (kR no)]) := fun t k => K108 t (st109 t (by
    refine XS.iload X109.here hx rfl (hD 227 rfl) rfl ?_
    refine XS.aloadN X109.here hx rfl (hD 228 rfl) rfl rfl ?_
    refine lenW X109 hx hZ e109 W105q (i := 23) rfl (fun _ q => q) (z := (0 : Int32)) (by decide) (g := (mkF m 460 #[sR r, sR b, sR no, sI (-1), sI 0, sI 0, sI 1, sI 0, sI 0, sI 0, sI 0, sI 0, sI 0, sI 1, sI 1] [(kR no), (kI 0), (kR rgs), (kI 0), (kR no)])) rfl rfl (hD 229 rfl) _ ?_
    exact k))
  obtain ⟨T111, h111, L111, X111, e111, N111, W111q, st111⟩ := cpW X109 hx hZ hown (hw _ (mi 117 rfl)) (hw _ (mi 120 rfl)) (hw _ (mi 118 rfl)) (hw _ (mi 119 rfl)) e109 W105q N105 (i := 23) (j := 3) rfl rfl rfl (sp := (0 : Int32)) (dp := (0 : Int32)) (nn := (0 : Int32)) (s' := 0) (d' := 0) (k' := 0) (by decide) (by decide) (by decide) (by decide) (by decide) (by decide) (by decide) (by decide) (g := K110.g) rfl (by rw [hml]; rfl) (rest := []) rfl (hD 230 rfl) (by decide) (W0 := 0) (by show 2 * 0 + _ ≤ _; exact Nat.le_of_eq rfl) (by decide)
  have K112 : Rc K0 T111 (mkF m 465 #[sR r, sR b, sR no, sI (-1), sI 0, sI 0, sI 1, sI 0, sI 0, sI 0, sI 0, sI 0, sI 0, sI 1, sI 1] [(kR r)]) := fun t k => K110 t (st111 t (XS.aloadN X111.here hx rfl (hD 231 rfl) rfl rfl k))
  obtain ⟨T113, X113, e113, st113⟩ := getF X111 hx hZ hown (host := "") (Or.inl (hw _ (mi 20 rfl))) Via.refl e111 (W111q.fld (i := 0) rfl (j := 2) rfl rfl) (g := K112.g) rfl rfl (hD 232 rfl)
  have K114 : Rc K0 T113 (mkF m 471 #[sR r, sR b, sR no, sI (-1), sI 0, sI 0, sI 1, sI 0, sI 0, sI 0, sI 0, sI 0, sI 0, sI 1, sI 1] [(kI (-1)), (kI 0), (kR ns)]) := fun t k => K112 t (st113 t (by
    refine XS.iload X113.here hx rfl (hD 233 rfl) rfl ?_
    refine XS.iloadN X113.here hx rfl (hD 234 rfl) rfl ?_
    exact k))
  obtain ⟨T115, h115, L115, X115, e115, N115, W115q, st115⟩ := iasW X113 hx hZ e113 W111q N111 (i := 4) (a := ns) rfl (j := (0 : Int32)) (x := (-1 : Int32)) (k := 0) (by decide) (by decide) (by decide) (g := K114.g) rfl rfl (hD 235 rfl)
  have K116 : Rc K0 T115 (mkF m 473 #[sR r, sR b, sR no, sI (-1), sI 0, sI 0, sI 1, sI 0, sI 0, sI 0, sI 0, sI 0, sI 0, sI 1, sI 1] [(kR r)]) := fun t k => K114 t (st115 t (XS.aloadN X115.here hx rfl (hD 236 rfl) rfl rfl k))
  obtain ⟨T117, X117, e117, st117⟩ := getF X115 hx hZ hown (host := "") (Or.inl (hw _ (mi 26 rfl))) Via.refl e115 (W115q.fld (i := 0) rfl (j := 5) rfl rfl) (g := K116.g) rfl rfl (hD 237 rfl)
  have K118 : Rc K0 T117 (mkF m 479 #[sR r, sR b, sR no, sI (-1), sI 0, sI 0, sI 1, sI 0, sI 0, sI 0, sI 0, sI 0, sI 0, sI 1, sI 1] [(kR b), (kI 0), (kR kl)]) := fun t k => K116 t (st117 t (by
    refine XS.iload X117.here hx rfl (hD 238 rfl) rfl ?_
    refine XS.aloadN X117.here hx rfl (hD 239 rfl) rfl rfl ?_
    exact k))
  obtain ⟨T119, X119, e119, st119⟩ := getR X117 hx hZ hown (hw _ (mi 106 rfl)) e117 (W115q.fld (i := 1) rfl (j := 0) rfl rfl) (g := K118.g) rfl rfl (hD 240 rfl)
  have K120 : Rc K0 T119 (mkF m 494 #[sR r, sR b, sR no, sI (-1), sI 0, sI 0, sI 1, sI 0, sI 0, sI 0, sI 0, sI 0, sI 0, sI 1, sI 1] [(kI (-1)), (kI 0), (kR kl)]) := fun t k => K118 t (st119 t (by
    refine XS.ifnonnullNo X119.here hx rfl (hD 241 rfl) rfl ?_
    refine XS.iconst X119.here hx rfl (hD 242 rfl) ?_
    refine XS.goto X119.here hx rfl (pc0 := 486) (pc' := 494) rfl (hD 243 rfl) (by decide) (by decide) ?_
    exact k))
  obtain ⟨T121, h121, L121, X121, e121, N121, W121q, st121⟩ := iasW X119 hx hZ e119 W115q N115 (i := 7) (a := kl) rfl (j := (0 : Int32)) (x := (-1 : Int32)) (k := 0) (by decide) (by decide) (by decide) (g := K120.g) rfl rfl (hD 244 rfl)
  have W121 : Wo n0 h121 ((r, oR Z [(kR ks), (kR rgs), (kR ns), (kR fch), (kR fk), (kR kl), (kR frg), (kR fac), (kR fcm), (kR ftr), (kR acs), (kR cms), (kR sus), (kR prb), (kI 0), .null, (kI 0), .null, .null, .null, .null, .null, .null, (kI 0), (kI 0)]) :: (b, oB Z [.null, (kI 0), .null, (kI 0), (kR fa), (kR ac), (kR fc), (kR cm), (kR ft), (kR su), (kR pr), (kI 1), (kI 0), (kI 0), (kI 1), .null]) :: (ks, Ar Z .int 0 g_ks) :: (rgs, Ar Z .int 0 (cpy f8 g_rgs 0 0 0)) :: (ns, Ar Z .int 16 (upd g_ns 0 (kI (-1)))) :: (fch, Ar Z .int 17 g_fch) :: (fk, Ar Z .int 17 g_fk) :: (kl, Ar Z .int 16 (upd g_kl 0 (kI (-1)))) :: (frg, Ar Z .int 17 g_frg) :: (fac, Ar Z .int 17 (upd (upd g_fac 0 (kI 0)) 1 (kI 0))) :: (fcm, Ar Z .int 17 (upd (upd g_fcm 0 (kI 0)) 1 (kI 0))) :: (ftr, Ar Z .int 17 (upd (upd g_ftr 0 (kI 0)) 1 (kI 1))) :: (acs, Ar Z .int 16 (cpy f4 g_acs 0 0 0)) :: (cms, Ar Z .int 16 (cpy f5 g_cms 0 0 0)) :: (sus, Ar Z .int 64 (cpy f6 g_sus 0 0 1)) :: (prb, Ar Z .double 64 g_prb) :: (fa, Ar Z .int 2 f1) :: (fc, Ar Z .int 2 f2) :: (ft, Ar Z .int 2 f3) :: (ac, Ar Z .int 2 f4) :: (cm, Ar Z .int 2 f5) :: (su, Ar Z .int 4 f6) :: (pr, Ar Z .double 4 f7) :: (no, Ar Z .int 0 f8) :: Rr) := W121q
  have K122 : Rc K0 T121 (mkF m 496 #[sR r, sR b, sR no, sI (-1), sI 0, sI 0, sI 1, sI 0, sI 0, sI 0, sI 0, sI 0, sI 0, sI 1, sI 1] [(kR r)]) := fun t k => K120 t (st121 t (XS.aloadN X121.here hx rfl (hD 245 rfl) rfl rfl k))
  obtain ⟨T123, X123, e123, st123⟩ := getF X121 hx hZ hown (host := "") (Or.inl (hw _ (mi 22 rfl))) Via.refl e121 (W121.fld (i := 0) rfl (j := 3) rfl rfl) (g := K122.g) rfl rfl (hD 246 rfl)
  have K124 : Rc K0 T123 (mkF m 508 #[sR r, sR b, sR no, sI (-1), sI 0, sI 0, sI 1, sI 0, sI 0, sI 0, sI 0, sI 0, sI 0, sI 1, sI 1] [(kI 1), (kI 1), (kR fch)]) := fun t k => K122 t (st123 t (by
    refine XS.iload X123.here hx rfl (hD 247 rfl) rfl ?_
    refine XS.iconst X123.here hx rfl (hD 248 rfl) ?_
    refine XS.iadd X123.here hx rfl (hD 249 rfl) rfl ?_
    refine XS.iload X123.here hx rfl (hD 250 rfl) rfl ?_
    refine XS.iload X123.here hx rfl (hD 251 rfl) rfl ?_
    refine XS.iadd X123.here hx rfl (hD 252 rfl) rfl ?_
    exact k))
  obtain ⟨T125, h125, L125, X125, e125, N125, W125q, st125⟩ := iasW X123 hx hZ e123 W121 N121 (i := 5) (a := fch) rfl (j := (1 : Int32)) (x := (1 : Int32)) (k := 1) (by decide) (by decide) (by decide) (g := K124.g) rfl rfl (hD 253 rfl)
  have K126 : Rc K0 T125 (mkF m 510 #[sR r, sR b, sR no, sI (-1), sI 0, sI 0, sI 1, sI 0, sI 0, sI 0, sI 0, sI 0, sI 0, sI 1, sI 1] [(kR r)]) := fun t k => K124 t (st125 t (XS.aloadN X125.here hx rfl (hD 254 rfl) rfl rfl k))
  obtain ⟨T127, X127, e127, st127⟩ := getF X125 hx hZ hown (host := "") (Or.inl (hw _ (mi 24 rfl))) Via.refl e125 (W125q.fld (i := 0) rfl (j := 4) rfl rfl) (g := K126.g) rfl rfl (hD 255 rfl)
  have K128 : Rc K0 T127 (mkF m 519 #[sR r, sR b, sR no, sI (-1), sI 0, sI 0, sI 1, sI 0, sI 0, sI 0, sI 0, sI 0, sI 0, sI 1, sI 1] [(kI 0), (kI 1), (kR fk)]) := fun t k => K126 t (st127 t (by
    refine XS.iload X127.here hx rfl (hD 256 rfl) rfl ?_
    refine XS.iconst X127.here hx rfl (hD 257 rfl) ?_
    refine XS.iadd X127.here hx rfl (hD 258 rfl) rfl ?_
    refine XS.iload X127.here hx rfl (hD 259 rfl) rfl ?_
    exact k))
  obtain ⟨T129, h129, L129, X129, e129, N129, W129q, st129⟩ := iasW X127 hx hZ e127 W125q N125 (i := 6) (a := fk) rfl (j := (1 : Int32)) (x := (0 : Int32)) (k := 1) (by decide) (by decide) (by decide) (g := K128.g) rfl rfl (hD 260 rfl)
  have K130 : Rc K0 T129 (mkF m 521 #[sR r, sR b, sR no, sI (-1), sI 0, sI 0, sI 1, sI 0, sI 0, sI 0, sI 0, sI 0, sI 0, sI 1, sI 1] [(kR r)]) := fun t k => K128 t (st129 t (XS.aloadN X129.here hx rfl (hD 261 rfl) rfl rfl k))
  obtain ⟨T131, X131, e131, st131⟩ := getF X129 hx hZ hown (host := "") (Or.inl (hw _ (mi 28 rfl))) Via.refl e129 (W129q.fld (i := 0) rfl (j := 6) rfl rfl) (g := K130.g) rfl rfl (hD 262 rfl)
  have K132 : Rc K0 T131 (mkF m 533 #[sR r, sR b, sR no, sI (-1), sI 0, sI 0, sI 1, sI 0, sI 0, sI 0, sI 0, sI 0, sI 0, sI 1, sI 1] [(kI 0), (kI 1), (kR frg)]) := fun t k => K130 t (st131 t (by
    refine XS.iload X131.here hx rfl (hD 263 rfl) rfl ?_
    refine XS.iconst X131.here hx rfl (hD 264 rfl) ?_
    refine XS.iadd X131.here hx rfl (hD 265 rfl) rfl ?_
    refine XS.iload X131.here hx rfl (hD 266 rfl) rfl ?_
    refine XS.aloadN X131.here hx rfl (hD 267 rfl) rfl rfl ?_
    refine lenW X131 hx hZ e131 W129q (i := 23) rfl (fun _ q => q) (z := (0 : Int32)) (by decide) (g := (mkF m 531 #[sR r, sR b, sR no, sI (-1), sI 0, sI 0, sI 1, sI 0, sI 0, sI 0, sI 0, sI 0, sI 0, sI 1, sI 1] [(kR no), (kI 0), (kI 1), (kR frg)])) rfl rfl (hD 268 rfl) _ ?_
    refine XS.iadd X131.here hx rfl (hD 269 rfl) rfl ?_
    exact k))
  obtain ⟨T133, h133, L133, X133, e133, N133, W133q, st133⟩ := iasW X131 hx hZ e131 W129q N129 (i := 8) (a := frg) rfl (j := (1 : Int32)) (x := (0 : Int32)) (k := 1) (by decide) (by decide) (by decide) (g := K132.g) rfl rfl (hD 270 rfl)
  have K134 : Rc K0 T133 (mkF m 536 #[sR r, sR b, sR no, sI (-1), sI 0, sI 0, sI 1, sI 0, sI 0, sI 0, sI 0, sI 0, sI 0, sI 1, sI 1] [(kR r), (kR r)]) := fun t k => K132 t (st133 t (by
    refine XS.aloadN X133.here hx rfl (hD 271 rfl) rfl rfl ?_
    refine XS.dup X133.here hx rfl (hD 272 rfl) rfl rfl ?_
    exact k))
  obtain ⟨T135, X135, e135, st135⟩ := getF X133 hx hZ hown (host := "") (Or.inl (hw _ (mi 103 rfl))) Via.refl e133 (W133q.fld (i := 0) rfl (j := 14) rfl rfl) (g := K134.g) rfl rfl (hD 273 rfl)
  have K136 : Rc K0 T135 (mkF m 541 #[sR r, sR b, sR no, sI (-1), sI 0, sI 0, sI 1, sI 0, sI 0, sI 0, sI 0, sI 0, sI 0, sI 1, sI 1] [(kI 1), (kR r)]) := fun t k => K134 t (st135 t (by
    refine XS.iconst X135.here hx rfl (hD 274 rfl) ?_
    refine XS.iadd X135.here hx rfl (hD 275 rfl) rfl ?_
    exact k))
  obtain ⟨T137, h137, L137, X137, e137, N137, W137q, st137⟩ := putW X135 hx hZ hown (host := "") (Or.inl (hw _ (mi 103 rfl))) e135 W133q N133 (own_dR hw) (Or.inl (hw _ (mi 104 rfl))) (hw _ (mi 8 rfl)) (ty := .int) (by decide +kernel) (i := 0) (a := r) rfl (j := 14) rfl rfl (v := (.int (1 : Int32))) rfl rfl (g := K136.g) rfl rfl (hD 276 rfl)
  have W137 : Wo n0 h137 ((r, oR Z [(kR ks), (kR rgs), (kR ns), (kR fch), (kR fk), (kR kl), (kR frg), (kR fac), (kR fcm), (kR ftr), (kR acs), (kR cms), (kR sus), (kR prb), (kI 1), .null, (kI 0), .null, .null, .null, .null, .null, .null, (kI 0), (kI 0)]) :: (b, oB Z [.null, (kI 0), .null, (kI 0), (kR fa), (kR ac), (kR fc), (kR cm), (kR ft), (kR su), (kR pr), (kI 1), (kI 0), (kI 0), (kI 1), .null]) :: (ks, Ar Z .int 0 g_ks) :: (rgs, Ar Z .int 0 (cpy f8 g_rgs 0 0 0)) :: (ns, Ar Z .int 16 (upd g_ns 0 (kI (-1)))) :: (fch, Ar Z .int 17 (upd g_fch 1 (kI 1))) :: (fk, Ar Z .int 17 (upd g_fk 1 (kI 0))) :: (kl, Ar Z .int 16 (upd g_kl 0 (kI (-1)))) :: (frg, Ar Z .int 17 (upd g_frg 1 (kI 0))) :: (fac, Ar Z .int 17 (upd (upd g_fac 0 (kI 0)) 1 (kI 0))) :: (fcm, Ar Z .int 17 (upd (upd g_fcm 0 (kI 0)) 1 (kI 0))) :: (ftr, Ar Z .int 17 (upd (upd g_ftr 0 (kI 0)) 1 (kI 1))) :: (acs, Ar Z .int 16 (cpy f4 g_acs 0 0 0)) :: (cms, Ar Z .int 16 (cpy f5 g_cms 0 0 0)) :: (sus, Ar Z .int 64 (cpy f6 g_sus 0 0 1)) :: (prb, Ar Z .double 64 g_prb) :: (fa, Ar Z .int 2 f1) :: (fc, Ar Z .int 2 f2) :: (ft, Ar Z .int 2 f3) :: (ac, Ar Z .int 2 f4) :: (cm, Ar Z .int 2 f5) :: (su, Ar Z .int 4 f6) :: (pr, Ar Z .double 4 f7) :: (no, Ar Z .int 0 f8) :: Rr) := W137q
  have K138 : Rc K0 T137 (mkF m 550 #[sR r, sR b, sR no, sI (-1), sI 0, sI 0, sI 1, sI 0, sI 0, sI 0, sI 0, sI 0, sI 0, sI 1, sI 1] [(kR b)]) := fun t k => K136 t (st137 t (by
    refine XS.iload X137.here hx rfl (hD 277 rfl) rfl ?_
    refine XS.ifNo X137.here hx rfl (hD 278 rfl) rfl (by decide) ?_
    refine XS.aloadN X137.here hx rfl (hD 279 rfl) rfl rfl ?_
    exact k))
  obtain ⟨T139, X139, e139, st139⟩ := getR X137 hx hZ hown (hw _ (mi 176 rfl)) e137 (W137.fld (i := 1) rfl (j := 10) rfl rfl) (g := K138.g) rfl rfl (hD 280 rfl)
  have K140 : Rc K0 T139 (mkF m 555 #[sR r, sR b, sR no, sI (-1), sI 0, sI 0, sI 1, sI 0, sI 0, sI 0, sI 0, sI 0, sI 0, sI 1, sI 1] [(kR r), (kI 0), (kR pr)]) := fun t k => K138 t (st139 t (by
    refine XS.iconst X139.here hx rfl (hD 281 rfl) ?_
    refine XS.aloadN X139.here hx rfl (hD 282 rfl) rfl rfl ?_
    exact k))
  obtain ⟨T141, X141, e141, st141⟩ := getF X139 hx hZ hown (host := "") (Or.inl (hw _ (mi 42 rfl))) Via.refl e139 (W137.fld (i := 0) rfl (j := 13) rfl rfl) (g := K140.g) rfl rfl (hD 283 rfl)
  have K142 : Rc K0 T141 (mkF m 561 #[sR r, sR b, sR no, sI (-1), sI 0, sI 0, sI 1, sI 0, sI 0, sI 0, sI 0, sI 0, sI 0, sI 1, sI 1] [(kR b), (kI 0), (kR prb), (kI 0), (kR pr)]) := fun t k => K140 t (st141 t (by
    refine XS.iload X141.here hx rfl (hD 284 rfl) rfl ?_
    refine XS.aloadN X141.here hx rfl (hD 285 rfl) rfl rfl ?_
    exact k))
  obtain ⟨T143, X143, e143, st143⟩ := getR X141 hx hZ hown (hw _ (mi 112 rfl)) e141 (W137.fld (i := 1) rfl (j := 14) rfl rfl) (g := K142.g) rfl rfl (hD 286 rfl)
  obtain ⟨T144, h144, L144, X144, e144, N144, W144q, st144⟩ := cpW X143 hx hZ hown (hw _ (mi 117 rfl)) (hw _ (mi 120 rfl)) (hw _ (mi 118 rfl)) (hw _ (mi 119 rfl)) e143 W137 N137 (i := 22) (j := 15) rfl rfl rfl (sp := (0 : Int32)) (dp := (0 : Int32)) (nn := (1 : Int32)) (s' := 0) (d' := 0) (k' := 1) (by decide) (by decide) (by decide) (by decide) (by decide) (by decide) (by decide) (by decide) (g := (mkF m 564 #[sR r, sR b, sR no, sI (-1), sI 0, sI 0, sI 1, sI 0, sI 0, sI 0, sI 0, sI 0, sI 0, sI 1, sI 1] [(kI 1), (kI 0), (kR prb), (kI 0), (kR pr)])) rfl (by rw [hml]; rfl) (rest := []) rfl (hD 287 rfl) (by decide) (W0 := 0) (by show 2 * 0 + _ ≤ _; exact Nat.le_of_eq rfl) (by decide)
  have K145 : Rc K0 T144 (mkF m 569 #[sR r, sR b, sR no, sI (-1), sI 0, sI 0, sI 1, sI 0, sI 0, sI 0, sI 0, sI 0, sI 0, sI 1, sI 1] [(kR r), (kR r)]) := fun t k => K142 t (st143 t (st144 t (by
    refine XS.aloadN X144.here hx rfl (hD 288 rfl) rfl rfl ?_
    refine XS.dup X144.here hx rfl (hD 289 rfl) rfl rfl ?_
    exact k)))
  obtain ⟨T146, X146, e146, st146⟩ := getF X144 hx hZ hown (host := "") (Or.inl (hw _ (mi 127 rfl))) Via.refl e144 (W144q.fld (i := 0) rfl (j := 16) rfl rfl) (g := K145.g) rfl rfl (hD 290 rfl)
  have K147 : Rc K0 T146 (mkF m 575 #[sR r, sR b, sR no, sI (-1), sI 0, sI 0, sI 1, sI 0, sI 0, sI 0, sI 0, sI 0, sI 0, sI 1, sI 1] [(kI 1), (kR r), (kI 0)]) := fun t k => K145 t (st146 t (by
    refine XS.dupX1 X146.here hx rfl (hD 291 rfl) rfl rfl rfl ?_
    refine XS.iconst X146.here hx rfl (hD 292 rfl) ?_
    refine XS.iadd X146.here hx rfl (hD 293 rfl) rfl ?_
    exact k))
  obtain ⟨T148, h148, L148, X148, e148, N148, W148q, st148⟩ := putW X146 hx hZ hown (host := "") (Or.inl (hw _ (mi 127 rfl))) e146 W144q N144 (own_dR hw) (Or.inl (hw _ (mi 128 rfl))) (hw _ (mi 8 rfl)) (ty := .int) (by decide +kernel) (i := 0) (a := r) rfl (j := 16) rfl rfl (v := (.int (1 : Int32))) rfl rfl (g := K147.g) rfl rfl (hD 294 rfl)
  have K149 : Rc K0 T148 (mkF m 639 #[sR r, sR b, sR no, sI (-1), sI 0, sI 0, sI 1, sI 0, sI 0, sI 0, sI 0, sI 0, sI 0, sI 1, sI 0] [(kI 0)]) := fun t k => K147 t (st148 t (by
    refine XS.istore X148.here hx rfl (hD 295 rfl) rfl (l' := #[sR r, sR b, sR no, sI (-1), sI 0, sI 0, sI 1, sI 0, sI 0, sI 0, sI 0, sI 0, sI 0, sI 1, sI 0]) rfl ?_
    refine XS.goto X148.here hx rfl (pc0 := 580) (pc' := 637) rfl (hD 296 rfl) (by decide) (by decide) ?_
    refine XS.iload X148.here hx rfl (hD 324 rfl) rfl ?_
    exact k))
  obtain ⟨fs, hr, hrun, hended, hWm, hsame⟩ := X148.leave (v := some (.int (0 : Int32))) (fun h => by rw [Bd.returns] at h; cases h)
  refine ⟨_, _, pre0 _ (K149 _ (retI X148 hx Bd.returns (hD 325 rfl) hr)), hrun, hended, _, _, rfl, ?_, ⟨_, rfl⟩, hWm, hsame.mono (by decide) (by decide)⟩
  show QrmADF Z r ks rgs ns fch fk kl frg fac fcm ftr acs cms sus prb b fa ac fc cm ft su pr no g_ks g_rgs g_ns g_fch g_fk g_kl g_frg g_fac g_fcm g_ftr g_acs g_cms g_sus g_prb f1 f2 f3 f4 f5 f6 f7 f8 Rr n0 _ T148.heap _
  rw [e148]
  exact ⟨rfl, N148, W148q⟩
theorem ef_rmADV0 (m : MethodId) (r ks rgs ns fch fk kl frg fac fcm ftr acs cms sus prb : Addr) (b fa ac fc cm ft su pr : Addr) (no : Addr) (vv : Addr) (u : Nat) (g_ks g_rgs g_ns g_fch g_fk g_kl g_frg g_fac g_fcm g_ftr g_acs g_cms g_sus g_prb : Nat → Value) (f1 f2 f3 f4 f5 f6 f7 f8 : Nat → Value) (g_vv : Nat → Value) : entryFrame m #[(.ref r), (.ref b), (.ref no), (.int (-1 : Int32))] 15 = mkF m 0 #[.val (.ref r), .val (.ref b), .val (.ref no), .val (.int (-1 : Int32)), .unset, .unset, .unset, .unset, .unset, .unset, .unset, .unset, .unset, .unset, .unset] [] := by first | (simp [entryFrame, mkF, argsToLocals, Value.category]; done) | rfl
def QrmADV0 (Z : State) (r ks rgs ns fch fk kl frg fac fcm ftr acs cms sus prb : Addr) (b fa ac fc cm ft su pr : Addr) (no : Addr) (vv : Addr) (u : Nat) (g_ks g_rgs g_ns g_fch g_fk g_kl g_frg g_fac g_fcm g_ftr g_acs g_cms g_sus g_prb : Nat → Value) (f1 f2 f3 f4 f5 f6 f7 f8 : Nat → Value) (g_vv : Nat → Value) (Rr : List (Addr × (Cell → Prop))) (n0 : Nat) (v : Option Value) (h : Heap) (L : List Loc) : Prop := ∃ a26_138 a36_138 a6_138 a9_138 a12_138 a15_138 a18_138 a21_138, v = some (.int (0 : Int32)) ∧ Fr n0 L ∧ Wo n0 h ((r, oR Z [(kR ks), (kR rgs), (kR ns), (kR fch), (kR fk), (kR kl), (kR frg), (kR fac), (kR fcm), (kR ftr), (kR acs), (kR cms), (kR sus), (kR prb), (kI 1), (kR a6_138), (kI 1), (kR a9_138), (kR a12_138), (kR a15_138), (kR a18_138), (kR a21_138), (kR a26_138), (kI 2), (kI (Int32.ofNat (u + 1)))]) :: (ftr, Ar Z .int 17 (upd (upd g_ftr 0 (kI 0)) 1 (kI 1))) :: (fch, Ar Z .int 17 (upd g_fch 1 (kI 1))) :: (a26_138, Pg Z .double 4 (upd (upd zN 0 (kR prb)) 1 (kR a36_138))) :: (a36_138, Ar Z .double 64 (cpy f7 (cpy g_vv zD 0 0 u) 0 u 1)) :: (a6_138, Ar Z .int 4 (upd (upd zI 0 (kI (-1))) 0 (kI 0))) :: (a9_138, Ar Z .int 4 (upd zI 0 (kI 0))) :: (a12_138, Ar Z .int 4 (upd zI 0 (kI (-1)))) :: (a15_138, Ar Z .int 4 (upd zI 0 (kI 1))) :: (a18_138, Ar Z .int 4 (upd zI 0 (kI ((Int32.ofNat u) - (0 : Int32))))) :: (a21_138, Ar Z .int 4 (upd zI 0 (kI (Int32.ofNat u)))) :: (vv, Ar Z .double 4 g_vv) :: (pr, Ar Z .double 4 f7) :: (prb, Ar Z .double 64 g_prb) :: (b, oB Z [.null, (kI 0), (kR vv), (kI (Int32.ofNat u)), (kR fa), (kR ac), (kR fc), (kR cm), (kR ft), (kR su), (kR pr), (kI 1), (kI 0), (kI 0), (kI 1), .null]) :: (ks, Ar Z .int 0 g_ks) :: (rgs, Ar Z .int 0 (cpy f8 g_rgs 0 0 0)) :: (ns, Ar Z .int 16 (upd g_ns 0 (kI (-1)))) :: (fk, Ar Z .int 17 (upd g_fk 1 (kI 0))) :: (kl, Ar Z .int 16 (upd g_kl 0 (kI (-1)))) :: (frg, Ar Z .int 17 (upd g_frg 1 (kI 0))) :: (fac, Ar Z .int 17 (upd (upd g_fac 0 (kI 0)) 1 (kI 0))) :: (fcm, Ar Z .int 17 (upd (upd g_fcm 0 (kI 0)) 1 (kI 0))) :: (acs, Ar Z .int 16 (cpy f4 g_acs 0 0 0)) :: (cms, Ar Z .int 16 (cpy f5 g_cms 0 0 0)) :: (sus, Ar Z .int 64 (cpy f6 g_sus 0 0 1)) :: (fa, Ar Z .int 2 f1) :: (fc, Ar Z .int 2 f2) :: (ft, Ar Z .int 2 f3) :: (ac, Ar Z .int 2 f4) :: (cm, Ar Z .int 2 f5) :: (su, Ar Z .int 4 f6) :: (no, Ar Z .int 0 f8) :: Rr)
set_option maxRecDepth 65536 in
set_option maxHeartbeats 40000000 in
theorem rmADV0 (l : Launch) (Z : State) (a0 : Array Value) (hw : ∀ d ∈ tables_1, d.before a0 Z = true) (ws : List Jvm.Cond) (r ks rgs ns fch fk kl frg fac fcm ftr acs cms sus prb : Addr) (b fa ac fc cm ft su pr : Addr) (no : Addr) (vv : Addr) (u : Nat) (g_ks g_rgs g_ns g_fch g_fk g_kl g_frg g_fac g_fcm g_ftr g_acs g_cms g_sus g_prb : Nat → Value) (f1 f2 f3 f4 f5 f6 f7 f8 : Nat → Value) (g_vv : Nat → Value) (Rr : List (Addr × (Cell → Prop))) (h0 : Heap) (n0 : Nat) (W0 : Wo n0 h0 ((r, oR Z [(kR ks), (kR rgs), (kR ns), (kR fch), (kR fk), (kR kl), (kR frg), (kR fac), (kR fcm), (kR ftr), (kR acs), (kR cms), (kR sus), (kR prb), (kI 0), .null, (kI 0), .null, .null, .null, .null, .null, .null, (kI 0), (kI 0)]) :: (b, oB Z [.null, (kI 0), (kR vv), (kI (Int32.ofNat u)), (kR fa), (kR ac), (kR fc), (kR cm), (kR ft), (kR su), (kR pr), (kI 1), (kI 0), (kI 0), (kI 1), .null]) :: (ks, Ar Z .int 0 g_ks) :: (rgs, Ar Z .int 0 g_rgs) :: (ns, Ar Z .int 16 g_ns) :: (fch, Ar Z .int 17 g_fch) :: (fk, Ar Z .int 17 g_fk) :: (kl, Ar Z .int 16 g_kl) :: (frg, Ar Z .int 17 g_frg) :: (fac, Ar Z .int 17 g_fac) :: (fcm, Ar Z .int 17 g_fcm) :: (ftr, Ar Z .int 17 g_ftr) :: (acs, Ar Z .int 16 g_acs) :: (cms, Ar Z .int 16 g_cms) :: (sus, Ar Z .int 64 g_sus) :: (prb, Ar Z .double 64 g_prb) :: (fa, Ar Z .int 2 f1) :: (fc, Ar Z .int 2 f2) :: (ft, Ar Z .int 2 f3) :: (ac, Ar Z .int 2 f4) :: (cm, Ar Z .int 2 f5) :: (su, Ar Z .int 4 f6) :: (pr, Ar Z .double 4 f7) :: (no, Ar Z .int 0 f8) :: (vv, Ar Z .double 4 g_vv) :: Rr)) (hu1 : 1 ≤ u) (hu4 : u ≤ 4) (h_fch : g_fch 0 = (.int (0 : Int32))) (h_fk : g_fk 0 = (.int (0 : Int32))) (h_frg : g_frg 0 = (.int (0 : Int32))) (h_fac : g_fac 0 = (.int (0 : Int32))) (h_fcm : g_fcm 0 = (.int (0 : Int32))) (h_ftr : g_ftr 0 = (.int (0 : Int32))) (h_f1 : f1 0 = .int 0) (h_f2 : f2 0 = .int 0) (h_f3 : f3 0 = .int 0) :
    MetFree l y_add (head1 (Jvm.Cond.code y_add prog_87_method_2_code 15 (some .int) :: ws) ({ frames := 5, cells := 8, slots := 92, locals := 74 } : Room)) (fun aa U => aa = #[(.ref r), (.ref b), (.ref no), (.int (-1 : Int32))] ∧ Z.Warmed39 U.vm ∧ U.heap = h0) (fun _ _ _ _ _ => True) (fun _ U ou U' => ∃ v L, ou = .returned v ∧ QrmADV0 Z r ks rgs ns fch fk kl frg fac fcm ftr acs cms sus prb b fa ac fc cm ft su pr no vv u g_ks g_rgs g_ns g_fch g_fk g_kl g_frg g_fac g_fcm g_ftr g_acs g_cms g_sus g_prb f1 f2 f3 f4 f5 f6 f7 f8 g_vv Rr n0 v U'.heap L ∧ FrameEnd U ou U' L ({ frames := 5, cells := 8, slots := 92, locals := 74 } : Room).cells ({ frames := 5, cells := 8, slots := 92, locals := 74 } : Room).slots) := by
  refine MetFree.of_bodySF (plainFor_of_name pn_Rows) hisR ?_
  intro p e s m args below meth c s₁ Bd hml0 hP hK
  obtain ⟨rfl, hZ, hh⟩ := hP
  have hx := Bd.exec
  have hby := Bd.bytes
  have hml : c.maxLocals = 15 := hml0
  have hD : ∀ (k : Nat) {pc : Nat} {i : Instr} {n : Nat}, Ld_add[k]? = some (pc, i, n) → decode c.code pc = .ok (i, n) := by intro k pc i n h; exact hb hby (d_add (pc, i, n) (mi k h))
  have hown : s.vm.findClass "com/example/sambre/sambre/engine/Rows" = some m.cls := findClass_of_methodNamed Bd.named
  have hnm := (name_of_methodNamed Bd.named Bd.method).1
  have X0 : Stand p l e ({ frames := 5, cells := 8, slots := 92, locals := 74 } : Room) s m #[(.ref r), (.ref b), (.ref no), (.int (-1 : Int32))] below meth c s₁ [] 0 0 := Stand.of_body Bd
  have e0 : s₁.heap = h0 := by rw [← hh, Bd.state]; rfl
  have N0 := Fr.nil n0
  obtain ⟨F0, hF0⟩ : ∃ F, F = mkF m 0 #[.val (.ref r), .val (.ref b), .val (.ref no), .val (.int (-1 : Int32)), .unset, .unset, .unset, .unset, .unset, .unset, .unset, .unset, .unset, .unset, .unset] [] := ⟨_, rfl⟩
  have pre0 : ∀ t, Steps p.tables e below (s₁.setTop F0) t → Steps p.tables e below (s₁.setTop (entryFrame m #[(.ref r), (.ref b), (.ref no), (.int (-1 : Int32))] 15)) t := fun t k => castTop ((ef_rmADV0 m r ks rgs ns fch fk kl frg fac fcm ftr acs cms sus prb b fa ac fc cm ft su pr no vv u g_ks g_rgs g_ns g_fch g_fk g_kl g_frg g_fac g_fcm g_ftr g_acs g_cms g_sus g_prb f1 f2 f3 f4 f5 f6 f7 f8 g_vv).trans hF0.symm) k
  have K0 : Rch p e below s₁ F0 s₁ (mkF m 0 #[.val (.ref r), .val (.ref b), .val (.ref no), .val (.int (-1 : Int32)), .unset, .unset, .unset, .unset, .unset, .unset, .unset, .unset, .unset, .unset, .unset] []) := fun t k => castTop hF0 k
  have K1 : Rc K0 s₁ (mkF m 1 #[sR r, sR b, sR no, sI (-1), sU, sU, sU, sU, sU, sU, sU, sU, sU, sU, sU] [(kR r)]) := fun t k => K0 t (XS.aloadN X0.here hx rfl (hD 0 rfl) rfl rfl k)
  obtain ⟨T2, X2, e2, st2⟩ := getF X0 hx hZ hown (host := "") (Or.inl (hw _ (mi 103 rfl))) Via.refl e0 (W0.fld (i := 0) rfl (j := 14) rfl rfl) (g := K1.g) rfl rfl (hD 1 rfl)
  have K3 : Rc K0 T2 (mkF m 7 #[sR r, sR b, sR no, sI (-1), sI 0, sU, sU, sU, sU, sU, sU, sU, sU, sU, sU] [(kR r)]) := fun t k => K1 t (st2 t (by
    refine XS.istore X2.here hx rfl (hD 2 rfl) rfl (l' := #[sR r, sR b, sR no, sI (-1), sI 0, sU, sU, sU, sU, sU, sU, sU, sU, sU, sU]) rfl ?_
    refine XS.aloadN X2.here hx rfl (hD 3 rfl) rfl rfl ?_
    exact k))
  obtain ⟨T4, X4, e4, st4⟩ := getF X2 hx hZ hown (host := "") (Or.inl (hw _ (mi 22 rfl))) Via.refl e2 (W0.fld (i := 0) rfl (j := 3) rfl rfl) (g := K3.g) rfl rfl (hD 4 rfl)
  have K5 : Rc K0 T4 (mkF m 16 #[sR r, sR b, sR no, sI (-1), sI 0, sI 0, sU, sU, sU, sU, sU, sU, sU, sU, sU] [(kR b)]) := fun t k => K3 t (st4 t (by
    refine XS.iload X4.here hx rfl (hD 5 rfl) rfl ?_
    refine ialW X4 hx hZ e4 W0 (i := 5) rfl (j := (0 : Int32)) (k := 0) (by decide) (by decide) (by decide) (v := (.int (0 : Int32))) h_fch (g := (mkF m 12 #[sR r, sR b, sR no, sI (-1), sI 0, sU, sU, sU, sU, sU, sU, sU, sU, sU, sU] [(kI 0), (kR fch)])) rfl rfl (hD 6 rfl) _ ?_
    refine XS.istore X4.here hx rfl (hD 7 rfl) rfl (l' := #[sR r, sR b, sR no, sI (-1), sI 0, sI 0, sU, sU, sU, sU, sU, sU, sU, sU, sU]) rfl ?_
    refine XS.aloadN X4.here hx rfl (hD 8 rfl) rfl rfl ?_
    exact k))
  obtain ⟨T6, X6, e6, st6⟩ := getR X4 hx hZ hown (hw _ (mi 105 rfl)) e4 (W0.fld (i := 1) rfl (j := 11) rfl rfl) (g := K5.g) rfl rfl (hD 9 rfl)
  have K7 : Rc K0 T6 (mkF m 22 #[sR r, sR b, sR no, sI (-1), sI 0, sI 0, sI 1, sU, sU, sU, sU, sU, sU, sU, sU] [(kR r)]) := fun t k => K5 t (st6 t (by
    refine XS.istore X6.here hx rfl (hD 10 rfl) rfl (l' := #[sR r, sR b, sR no, sI (-1), sI 0, sI 0, sI 1, sU, sU, sU, sU, sU, sU, sU, sU]) rfl ?_
    refine XS.aloadN X6.here hx rfl (hD 11 rfl) rfl rfl ?_
    exact k))
  obtain ⟨T8, X8, e8, st8⟩ := getF X6 hx hZ hown (host := "") (Or.inl (hw _ (mi 30 rfl))) Via.refl e6 (W0.fld (i := 0) rfl (j := 7) rfl rfl) (g := K7.g) rfl rfl (hD 12 rfl)
  have K9 : Rc K0 T8 (mkF m 31 #[sR r, sR b, sR no, sI (-1), sI 0, sI 0, sI 1, sI 0, sU, sU, sU, sU, sU, sU, sU] [(kR r)]) := fun t k => K7 t (st8 t (by
    refine XS.iload X8.here hx rfl (hD 13 rfl) rfl ?_
    refine ialW X8 hx hZ e8 W0 (i := 9) rfl (j := (0 : Int32)) (k := 0) (by decide) (by decide) (by decide) (v := (.int (0 : Int32))) h_fac (g := (mkF m 27 #[sR r, sR b, sR no, sI (-1), sI 0, sI 0, sI 1, sU, sU, sU, sU, sU, sU, sU, sU] [(kI 0), (kR fac)])) rfl rfl (hD 14 rfl) _ ?_
    refine XS.istore X8.here hx rfl (hD 15 rfl) rfl (l' := #[sR r, sR b, sR no, sI (-1), sI 0, sI 0, sI 1, sI 0, sU, sU, sU, sU, sU, sU, sU]) rfl ?_
    refine XS.aloadN X8.here hx rfl (hD 16 rfl) rfl rfl ?_
    exact k))
  obtain ⟨T10, X10, e10, st10⟩ := getF X8 hx hZ hown (host := "") (Or.inl (hw _ (mi 32 rfl))) Via.refl e8 (W0.fld (i := 0) rfl (j := 8) rfl rfl) (g := K9.g) rfl rfl (hD 17 rfl)
  have K11 : Rc K0 T10 (mkF m 40 #[sR r, sR b, sR no, sI (-1), sI 0, sI 0, sI 1, sI 0, sI 0, sU, sU, sU, sU, sU, sU] [(kR r)]) := fun t k => K9 t (st10 t (by
    refine XS.iload X10.here hx rfl (hD 18 rfl) rfl ?_
    refine ialW X10 hx hZ e10 W0 (i := 10) rfl (j := (0 : Int32)) (k := 0) (by decide) (by decide) (by decide) (v := (.int (0 : Int32))) h_fcm (g := (mkF m 36 #[sR r, sR b, sR no, sI (-1), sI 0, sI 0, sI 1, sI 0, sU, sU, sU, sU, sU, sU, sU] [(kI 0), (kR fcm)])) rfl rfl (hD 19 rfl) _ ?_
    refine XS.istore X10.here hx rfl (hD 20 rfl) rfl (l' := #[sR r, sR b, sR no, sI (-1), sI 0, sI 0, sI 1, sI 0, sI 0, sU, sU, sU, sU, sU, sU]) rfl ?_
    refine XS.aloadN X10.here hx rfl (hD 21 rfl) rfl rfl ?_
    exact k))
  obtain ⟨T12, X12, e12, st12⟩ := getF X10 hx hZ hown (host := "") (Or.inl (hw _ (mi 34 rfl))) Via.refl e10 (W0.fld (i := 0) rfl (j := 9) rfl rfl) (g := K11.g) rfl rfl (hD 22 rfl)
  have K13 : Rc K0 T12 (mkF m 49 #[sR r, sR b, sR no, sI (-1), sI 0, sI 0, sI 1, sI 0, sI 0, sI 0, sU, sU, sU, sU, sU] [(kR r)]) := fun t k => K11 t (st12 t (by
    refine XS.iload X12.here hx rfl (hD 23 rfl) rfl ?_
    refine ialW X12 hx hZ e12 W0 (i := 11) rfl (j := (0 : Int32)) (k := 0) (by decide) (by decide) (by decide) (v := (.int (0 : Int32))) h_ftr (g := (mkF m 45 #[sR r, sR b, sR no, sI (-1), sI 0, sI 0, sI 1, sI 0, sI 0, sU, sU, sU, sU, sU, sU] [(kI 0), (kR ftr)])) rfl rfl (hD 24 rfl) _ ?_
    refine XS.istore X12.here hx rfl (hD 25 rfl) rfl (l' := #[sR r, sR b, sR no, sI (-1), sI 0, sI 0, sI 1, sI 0, sI 0, sI 0, sU, sU, sU, sU, sU]) rfl ?_
    refine XS.aloadN X12.here hx rfl (hD 26 rfl) rfl rfl ?_
    exact k))
  obtain ⟨T14, X14, e14, st14⟩ := getF X12 hx hZ hown (host := "") (Or.inl (hw _ (mi 24 rfl))) Via.refl e12 (W0.fld (i := 0) rfl (j := 4) rfl rfl) (g := K13.g) rfl rfl (hD 27 rfl)
  have K15 : Rc K0 T14 (mkF m 60 #[sR r, sR b, sR no, sI (-1), sI 0, sI 0, sI 1, sI 0, sI 0, sI 0, sI 0, sU, sU, sU, sU] [(kR b), (kI 0)]) := fun t k => K13 t (st14 t (by
    refine XS.iload X14.here hx rfl (hD 28 rfl) rfl ?_
    refine ialW X14 hx hZ e14 W0 (i := 6) rfl (j := (0 : Int32)) (k := 0) (by decide) (by decide) (by decide) (v := (.int (0 : Int32))) h_fk (g := (mkF m 54 #[sR r, sR b, sR no, sI (-1), sI 0, sI 0, sI 1, sI 0, sI 0, sI 0, sU, sU, sU, sU, sU] [(kI 0), (kR fk)])) rfl rfl (hD 29 rfl) _ ?_
    refine XS.istore X14.here hx rfl (hD 30 rfl) rfl (l' := #[sR r, sR b, sR no, sI (-1), sI 0, sI 0, sI 1, sI 0, sI 0, sI 0, sI 0, sU, sU, sU, sU]) rfl ?_
    refine XS.iload X14.here hx rfl (hD 31 rfl) rfl ?_
    refine XS.aloadN X14.here hx rfl (hD 32 rfl) rfl rfl ?_
    exact k))
  obtain ⟨T16, X16, e16, st16⟩ := getR X14 hx hZ hown (hw _ (mi 106 rfl)) e14 (W0.fld (i := 1) rfl (j := 0) rfl rfl) (g := K15.g) rfl rfl (hD 33 rfl)
  have K17 : Rc K0 T16 (mkF m 78 #[sR r, sR b, sR no, sI (-1), sI 0, sI 0, sI 1, sI 0, sI 0, sI 0, sI 0, sI 0, sU, sU, sU] [(kR r)]) := fun t k => K15 t (st16 t (by
    refine XS.ifnonnullNo X16.here hx rfl (hD 34 rfl) rfl ?_
    refine XS.iconst X16.here hx rfl (hD 35 rfl) ?_
    refine XS.goto X16.here hx rfl (pc0 := 67) (pc' := 74) rfl (hD 36 rfl) (by decide) (by decide) ?_
    refine XS.iadd X16.here hx rfl (hD 37 rfl) rfl ?_
    refine XS.istore X16.here hx rfl (hD 38 rfl) rfl (l' := #[sR r, sR b, sR no, sI (-1), sI 0, sI 0, sI 1, sI 0, sI 0, sI 0, sI 0, sI 0, sU, sU, sU]) rfl ?_
    refine XS.aloadN X16.here hx rfl (hD 39 rfl) rfl rfl ?_
    exact k))
  obtain ⟨T18, X18, e18, st18⟩ := getF X16 hx hZ hown (host := "") (Or.inl (hw _ (mi 28 rfl))) Via.refl e16 (W0.fld (i := 0) rfl (j := 6) rfl rfl) (g := K17.g) rfl rfl (hD 40 rfl)
  have K19 : Rc K0 T18 (mkF m 87 #[sR r, sR b, sR no, sI (-1), sI 0, sI 0, sI 1, sI 0, sI 0, sI 0, sI 0, sI 0, sI 0, sU, sU] [(kR r)]) := fun t k => K17 t (st18 t (by
    refine XS.iload X18.here hx rfl (hD 41 rfl) rfl ?_
    refine ialW X18 hx hZ e18 W0 (i := 8) rfl (j := (0 : Int32)) (k := 0) (by decide) (by decide) (by decide) (v := (.int (0 : Int32))) h_frg (g := (mkF m 83 #[sR r, sR b, sR no, sI (-1), sI 0, sI 0, sI 1, sI 0, sI 0, sI 0, sI 0, sI 0, sU, sU, sU] [(kI 0), (kR frg)])) rfl rfl (hD 42 rfl) _ ?_
    refine XS.istore X18.here hx rfl (hD 43 rfl) rfl (l' := #[sR r, sR b, sR no, sI (-1), sI 0, sI 0, sI 1, sI 0, sI 0, sI 0, sI 0, sI 0, sI 0, sU, sU]) rfl ?_
    refine XS.aloadN X18.here hx rfl (hD 44 rfl) rfl rfl ?_
    exact k))
  obtain ⟨T20, X20, e20, st20⟩ := getF X18 hx hZ hown (host := "") (Or.inl (hw _ (mi 107 rfl))) Via.refl e18 (W0.fld (i := 0) rfl (j := 15) rfl rfl) (g := K19.g) rfl rfl (hD 45 rfl)
  have K21 : Rc K0 T20 (mkF m 94 #[sR r, sR b, sR no, sI (-1), sI 0, sI 0, sI 1, sI 0, sI 0, sI 0, sI 0, sI 0, sI 0, sU, sU] [(kR b)]) := fun t k => K19 t (st20 t (by
    refine XS.ifnonnullNo X20.here hx rfl (hD 46 rfl) rfl ?_
    refine XS.aloadN X20.here hx rfl (hD 47 rfl) rfl rfl ?_
    exact k))
  obtain ⟨T22, X22, e22, st22⟩ := getR X20 hx hZ hown (hw _ (mi 109 rfl)) e20 (W0.fld (i := 1) rfl (j := 3) rfl rfl) (g := K21.g) rfl rfl (hD 48 rfl)
  have K23 : Rc K0 T22 (mkF m 110 #[sR r, sR b, sR no, sI (-1), sI 0, sI 0, sI 1, sI 0, sI 0, sI 0, sI 0, sI 0, sI 0, sI 0, sU] [(kR r), (kI 0)]) := fun t k => K21 t (st22 t (by
    refine XS.ifYes X22.here hx rfl (pc0 := 97) (pc' := 104) rfl (hD 49 rfl) rfl ((if0 _ _).trans (feq (own_ne (a := u) (b := 0) (by omega) (by omega) (by omega))).2) (by decide) (by decide) ?_
    refine XS.iconst X22.here hx rfl (hD 52 rfl) ?_
    refine XS.istore X22.here hx rfl (hD 53 rfl) rfl (l' := #[sR r, sR b, sR no, sI (-1), sI 0, sI 0, sI 1, sI 0, sI 0, sI 0, sI 0, sI 0, sI 0, sI 0, sU]) rfl ?_
    refine XS.iload X22.here hx rfl (hD 54 rfl) rfl ?_
    refine XS.aloadN X22.here hx rfl (hD 55 rfl) rfl rfl ?_
    exact k))
  obtain ⟨T24, X24, e24, st24⟩ := getF X22 hx hZ hown (host := "") (Or.inl (hw _ (mi 20 rfl))) Via.refl e22 (W0.fld (i := 0) rfl (j := 2) rfl rfl) (g := K23.g) rfl rfl (hD 56 rfl)
  have K25 : Rc K0 T24 (mkF m 122 #[sR r, sR b, sR no, sI (-1), sI 0, sI 0, sI 1, sI 0, sI 0, sI 0, sI 0, sI 0, sI 0, sI 0, sU] [(kR r), (kI 1)]) := fun t k => K23 t (st24 t (by
    refine lenW X24 hx hZ e24 W0 (i := 4) rfl (fun _ q => q) (z := (16 : Int32)) (by decide) (g := (mkF m 113 #[sR r, sR b, sR no, sI (-1), sI 0, sI 0, sI 1, sI 0, sI 0, sI 0, sI 0, sI 0, sI 0, sI 0, sU] [(kR ns), (kI 0)])) rfl rfl (hD 57 rfl) _ ?_
    refine XS.icmpNo X24.here hx rfl (hD 58 rfl) rfl (by decide) ?_
    refine XS.iload X24.here hx rfl (hD 59 rfl) rfl ?_
    refine XS.iconst X24.here hx rfl (hD 60 rfl) ?_
    refine XS.iadd X24.here hx rfl (hD 61 rfl) rfl ?_
    refine XS.aloadN X24.here hx rfl (hD 62 rfl) rfl rfl ?_
    exact k))
  obtain ⟨T26, X26, e26, st26⟩ := getF X24 hx hZ hown (host := "") (Or.inl (hw _ (mi 22 rfl))) Via.refl e24 (W0.fld (i := 0) rfl (j := 3) rfl rfl) (g := K25.g) rfl rfl (hD 63 rfl)
  have K27 : Rc K0 T26 (mkF m 135 #[sR r, sR b, sR no, sI (-1), sI 0, sI 0, sI 1, sI 0, sI 0, sI 0, sI 0, sI 0, sI 0, sI 0, sU] [(kR r), (kI 1)]) := fun t k => K25 t (st26 t (by
    refine lenW X26 hx hZ e26 W0 (i := 5) rfl (fun _ q => q) (z := (17 : Int32)) (by decide) (g := (mkF m 125 #[sR r, sR b, sR no, sI (-1), sI 0, sI 0, sI 1, sI 0, sI 0, sI 0, sI 0, sI 0, sI 0, sI 0, sU] [(kR fch), (kI 1)])) rfl rfl (hD 64 rfl) _ ?_
    refine XS.icmpNo X26.here hx rfl (hD 65 rfl) rfl (by decide) ?_
    refine XS.iload X26.here hx rfl (hD 66 rfl) rfl ?_
    refine XS.iload X26.here hx rfl (hD 67 rfl) rfl ?_
    refine XS.iadd X26.here hx rfl (hD 68 rfl) rfl ?_
    refine XS.aloadN X26.here hx rfl (hD 69 rfl) rfl rfl ?_
    exact k))
  obtain ⟨T28, X28, e28, st28⟩ := getF X26 hx hZ hown (host := "") (Or.inl (hw _ (mi 30 rfl))) Via.refl e26 (W0.fld (i := 0) rfl (j := 7) rfl rfl) (g := K27.g) rfl rfl (hD 70 rfl)
  have K29 : Rc K0 T28 (mkF m 145 #[sR r, sR b, sR no, sI (-1), sI 0, sI 0, sI 1, sI 0, sI 0, sI 0, sI 0, sI 0, sI 0, sI 0, sU] [(kR b), (kI 0)]) := fun t k => K27 t (st28 t (by
    refine lenW X28 hx hZ e28 W0 (i := 9) rfl (fun _ q => q) (z := (17 : Int32)) (by decide) (g := (mkF m 138 #[sR r, sR b, sR no, sI (-1), sI 0, sI 0, sI 1, sI 0, sI 0, sI 0, sI 0, sI 0, sI 0, sI 0, sU] [(kR fac), (kI 1)])) rfl rfl (hD 71 rfl) _ ?_
    refine XS.icmpNo X28.here hx rfl (hD 72 rfl) rfl (by decide) ?_
    refine XS.iload X28.here hx rfl (hD 73 rfl) rfl ?_
    refine XS.aloadN X28.here hx rfl (hD 74 rfl) rfl rfl ?_
    exact k))
  obtain ⟨T30, X30, e30, st30⟩ := getR X28 hx hZ hown (hw _ (mi 110 rfl)) e28 (W0.fld (i := 1) rfl (j := 12) rfl rfl) (g := K29.g) rfl rfl (hD 75 rfl)
  have K31 : Rc K0 T30 (mkF m 150 #[sR r, sR b, sR no, sI (-1), sI 0, sI 0, sI 1, sI 0, sI 0, sI 0, sI 0, sI 0, sI 0, sI 0, sU] [(kR r), (kI 0)]) := fun t k => K29 t (st30 t (by
    refine XS.iadd X30.here hx rfl (hD 76 rfl) rfl ?_
    refine XS.aloadN X30.here hx rfl (hD 77 rfl) rfl rfl ?_
    exact k))
  obtain ⟨T32, X32, e32, st32⟩ := getF X30 hx hZ hown (host := "") (Or.inl (hw _ (mi 36 rfl))) Via.refl e30 (W0.fld (i := 0) rfl (j := 10) rfl rfl) (g := K31.g) rfl rfl (hD 78 rfl)
  have K33 : Rc K0 T32 (mkF m 160 #[sR r, sR b, sR no, sI (-1), sI 0, sI 0, sI 1, sI 0, sI 0, sI 0, sI 0, sI 0, sI 0, sI 0, sU] [(kR b), (kI 0)]) := fun t k => K31 t (st32 t (by
    refine lenW X32 hx hZ e32 W0 (i := 12) rfl (fun _ q => q) (z := (16 : Int32)) (by decide) (g := (mkF m 153 #[sR r, sR b, sR no, sI (-1), sI 0, sI 0, sI 1, sI 0, sI 0, sI 0, sI 0, sI 0, sI 0, sI 0, sU] [(kR acs), (kI 0)])) rfl rfl (hD 79 rfl) _ ?_
    refine XS.icmpNo X32.here hx rfl (hD 80 rfl) rfl (by decide) ?_
    refine XS.iload X32.here hx rfl (hD 81 rfl) rfl ?_
    refine XS.aloadN X32.here hx rfl (hD 82 rfl) rfl rfl ?_
    exact k))
  obtain ⟨T34, X34, e34, st34⟩ := getR X32 hx hZ hown (hw _ (mi 111 rfl)) e32 (W0.fld (i := 1) rfl (j := 13) rfl rfl) (g := K33.g) rfl rfl (hD 83 rfl)
  have K35 : Rc K0 T34 (mkF m 165 #[sR r, sR b, sR no, sI (-1), sI 0, sI 0, sI 1, sI 0, sI 0, sI 0, sI 0, sI 0, sI 0, sI 0, sU] [(kR r), (kI 0)]) := fun t k => K33 t (st34 t (by
    refine XS.iadd X34.here hx rfl (hD 84 rfl) rfl ?_
    refine XS.aloadN X34.here hx rfl (hD 85 rfl) rfl rfl ?_
    exact k))
  obtain ⟨T36, X36, e36, st36⟩ := getF X34 hx hZ hown (host := "") (Or.inl (hw _ (mi 38 rfl))) Via.refl e34 (W0.fld (i := 0) rfl (j := 11) rfl rfl) (g := K35.g) rfl rfl (hD 86 rfl)
  have K37 : Rc K0 T36 (mkF m 175 #[sR r, sR b, sR no, sI (-1), sI 0, sI 0, sI 1, sI 0, sI 0, sI 0, sI 0, sI 0, sI 0, sI 0, sU] [(kR b), (kI 0)]) := fun t k => K35 t (st36 t (by
    refine lenW X36 hx hZ e36 W0 (i := 13) rfl (fun _ q => q) (z := (16 : Int32)) (by decide) (g := (mkF m 168 #[sR r, sR b, sR no, sI (-1), sI 0, sI 0, sI 1, sI 0, sI 0, sI 0, sI 0, sI 0, sI 0, sI 0, sU] [(kR cms), (kI 0)])) rfl rfl (hD 87 rfl) _ ?_
    refine XS.icmpNo X36.here hx rfl (hD 88 rfl) rfl (by decide) ?_
    refine XS.iload X36.here hx rfl (hD 89 rfl) rfl ?_
    refine XS.aloadN X36.here hx rfl (hD 90 rfl) rfl rfl ?_
    exact k))
  obtain ⟨T38, X38, e38, st38⟩ := getR X36 hx hZ hown (hw _ (mi 112 rfl)) e36 (W0.fld (i := 1) rfl (j := 14) rfl rfl) (g := K37.g) rfl rfl (hD 91 rfl)
  have K39 : Rc K0 T38 (mkF m 180 #[sR r, sR b, sR no, sI (-1), sI 0, sI 0, sI 1, sI 0, sI 0, sI 0, sI 0, sI 0, sI 0, sI 0, sU] [(kR r), (kI 1)]) := fun t k => K37 t (st38 t (by
    refine XS.iadd X38.here hx rfl (hD 92 rfl) rfl ?_
    refine XS.aloadN X38.here hx rfl (hD 93 rfl) rfl rfl ?_
    exact k))
  obtain ⟨T40, X40, e40, st40⟩ := getF X38 hx hZ hown (host := "") (Or.inl (hw _ (mi 40 rfl))) Via.refl e38 (W0.fld (i := 0) rfl (j := 12) rfl rfl) (g := K39.g) rfl rfl (hD 94 rfl)
  have K41 : Rc K0 T40 (mkF m 210 #[sR r, sR b, sR no, sI (-1), sI 0, sI 0, sI 1, sI 0, sI 0, sI 0, sI 0, sI 0, sI 0, sI 0, sU] [(kR r), (kI 0)]) := fun t k => K39 t (st40 t (by
    refine lenW X40 hx hZ e40 W0 (i := 14) rfl (fun _ q => q) (z := (64 : Int32)) (by decide) (g := (mkF m 183 #[sR r, sR b, sR no, sI (-1), sI 0, sI 0, sI 1, sI 0, sI 0, sI 0, sI 0, sI 0, sI 0, sI 0, sU] [(kR sus), (kI 1)])) rfl rfl (hD 95 rfl) _ ?_
    refine XS.icmpNo X40.here hx rfl (hD 96 rfl) rfl (by decide) ?_
    refine XS.iload X40.here hx rfl (hD 97 rfl) rfl ?_
    refine XS.ifYes X40.here hx rfl (pc0 := 189) (pc' := 207) rfl (hD 98 rfl) rfl (by decide) (by decide) (by decide) ?_
    refine XS.iload X40.here hx rfl (hD 107 rfl) rfl ?_
    refine XS.aloadN X40.here hx rfl (hD 108 rfl) rfl rfl ?_
    exact k))
  obtain ⟨T42, X42, e42, st42⟩ := getF X40 hx hZ hown (host := "") (Or.inl (hw _ (mi 16 rfl))) Via.refl e40 (W0.fld (i := 0) rfl (j := 0) rfl rfl) (g := K41.g) rfl rfl (hD 109 rfl)
  have K43 : Rc K0 T42 (mkF m 223 #[sR r, sR b, sR no, sI (-1), sI 0, sI 0, sI 1, sI 0, sI 0, sI 0, sI 0, sI 0, sI 0, sI 0, sU] [(kR r), (kI 0)]) := fun t k => K41 t (st42 t (by
    refine lenW X42 hx hZ e42 W0 (i := 2) rfl (fun _ q => q) (z := (0 : Int32)) (by decide) (g := (mkF m 213 #[sR r, sR b, sR no, sI (-1), sI 0, sI 0, sI 1, sI 0, sI 0, sI 0, sI 0, sI 0, sI 0, sI 0, sU] [(kR ks), (kI 0)])) rfl rfl (hD 110 rfl) _ ?_
    refine XS.icmpNo X42.here hx rfl (hD 111 rfl) rfl (by decide) ?_
    refine XS.iload X42.here hx rfl (hD 112 rfl) rfl ?_
    refine XS.aloadN X42.here hx rfl (hD 113 rfl) rfl rfl ?_
    refine lenW X42 hx hZ e42 W0 (i := 23) rfl (fun _ q => q) (z := (0 : Int32)) (by decide) (g := (mkF m 220 #[sR r, sR b, sR no, sI (-1), sI 0, sI 0, sI 1, sI 0, sI 0, sI 0, sI 0, sI 0, sI 0, sI 0, sU] [(kR no), (kI 0)])) rfl rfl (hD 114 rfl) _ ?_
    refine XS.iadd X42.here hx rfl (hD 115 rfl) rfl ?_
    refine XS.aloadN X42.here hx rfl (hD 116 rfl) rfl rfl ?_
    exact k))
  obtain ⟨T44, X44, e44, st44⟩ := getF X42 hx hZ hown (host := "") (Or.inl (hw _ (mi 18 rfl))) Via.refl e42 (W0.fld (i := 0) rfl (j := 1) rfl rfl) (g := K43.g) rfl rfl (hD 117 rfl)
  have K45 : Rc K0 T44 (mkF m 255 #[sR r, sR b, sR no, sI (-1), sI 0, sI 0, sI 1, sI 0, sI 0, sI 0, sI 0, sI 0, sI 0, sI 0, sI 0] [(kR r)]) := fun t k => K43 t (st44 t (by
    refine lenW X44 hx hZ e44 W0 (i := 3) rfl (fun _ q => q) (z := (0 : Int32)) (by decide) (g := (mkF m 226 #[sR r, sR b, sR no, sI (-1), sI 0, sI 0, sI 1, sI 0, sI 0, sI 0, sI 0, sI 0, sI 0, sI 0, sU] [(kR rgs), (kI 0)])) rfl rfl (hD 118 rfl) _ ?_
    refine XS.icmpYes X44.here hx rfl (pc0 := 227) (pc' := 244) rfl (hD 119 rfl) rfl (by decide) (by decide) (by decide) ?_
    refine XS.iconst X44.here hx rfl (hD 120 rfl) ?_
    refine XS.istore X44.here hx rfl (hD 121 rfl) rfl (l' := #[sR r, sR b, sR no, sI (-1), sI 0, sI 0, sI 1, sI 0, sI 0, sI 0, sI 0, sI 0, sI 0, sI 0, sI 0]) rfl ?_
    refine XS.iload X44.here hx rfl (hD 122 rfl) rfl ?_
    refine XS.iload X44.here hx rfl (hD 123 rfl) rfl ?_
    refine XS.icmpNo X44.here hx rfl (hD 124 rfl) rfl (by decide) ?_
    refine XS.aloadN X44.here hx rfl (hD 125 rfl) rfl rfl ?_
    exact k))
  obtain ⟨T46, X46, e46, st46⟩ := getF X44 hx hZ hown (host := "") (Or.inl (hw _ (mi 30 rfl))) Via.refl e44 (W0.fld (i := 0) rfl (j := 7) rfl rfl) (g := K45.g) rfl rfl (hD 126 rfl)
  have K47 : Rc K0 T46 (mkF m 266 #[sR r, sR b, sR no, sI (-1), sI 0, sI 0, sI 1, sI 0, sI 0, sI 0, sI 0, sI 0, sI 0, sI 0, sI 0] [(kR b), (kI 0), (kI 0), (kR fac)]) := fun t k => K45 t (st46 t (by
    refine XS.iload X46.here hx rfl (hD 127 rfl) rfl ?_
    refine XS.iload X46.here hx rfl (hD 128 rfl) rfl ?_
    refine XS.iadd X46.here hx rfl (hD 129 rfl) rfl ?_
    refine XS.iload X46.here hx rfl (hD 130 rfl) rfl ?_
    refine XS.aloadN X46.here hx rfl (hD 131 rfl) rfl rfl ?_
    exact k))
  obtain ⟨T48, X48, e48, st48⟩ := getR X46 hx hZ hown (hw _ (mi 113 rfl)) e46 (W0.fld (i := 1) rfl (j := 4) rfl rfl) (g := K47.g) rfl rfl (hD 132 rfl)
  have K49 : Rc K0 T48 (mkF m 273 #[sR r, sR b, sR no, sI (-1), sI 0, sI 0, sI 1, sI 0, sI 0, sI 0, sI 0, sI 0, sI 0, sI 0, sI 0] [(kI 0), (kI 0), (kR fac)]) := fun t k => K47 t (st48 t (by
    refine XS.iload X48.here hx rfl (hD 133 rfl) rfl ?_
    refine ialW X48 hx hZ e48 W0 (i := 16) rfl (j := (0 : Int32)) (k := 0) (by decide) (by decide) (by decide) (v := (.int (0 : Int32))) h_f1 (g := (mkF m 271 #[sR r, sR b, sR no, sI (-1), sI 0, sI 0, sI 1, sI 0, sI 0, sI 0, sI 0, sI 0, sI 0, sI 0, sI 0] [(kI 0), (kR fa), (kI 0), (kI 0), (kR fac)])) rfl rfl (hD 134 rfl) _ ?_
    refine XS.iadd X48.here hx rfl (hD 135 rfl) rfl ?_
    exact k))
  obtain ⟨T50, h50, L50, X50, e50, N50, W50q, st50⟩ := iasW X48 hx hZ e48 W0 N0 (i := 9) (a := fac) rfl (j := (0 : Int32)) (x := (0 : Int32)) (k := 0) (by decide) (by decide) (by decide) (g := K49.g) rfl rfl (hD 136 rfl)
  have K51 : Rc K0 T50 (mkF m 275 #[sR r, sR b, sR no, sI (-1), sI 0, sI 0, sI 1, sI 0, sI 0, sI 0, sI 0, sI 0, sI 0, sI 0, sI 0] [(kR r)]) := fun t k => K49 t (st50 t (XS.aloadN X50.here hx rfl (hD 137 rfl) rfl rfl k))
  obtain ⟨T52, X52, e52, st52⟩ := getF X50 hx hZ hown (host := "") (Or.inl (hw _ (mi 32 rfl))) Via.refl e50 (W50q.fld (i := 0) rfl (j := 8) rfl rfl) (g := K51.g) rfl rfl (hD 138 rfl)
  have K53 : Rc K0 T52 (mkF m 286 #[sR r, sR b, sR no, sI (-1), sI 0, sI 0, sI 1, sI 0, sI 0, sI 0, sI 0, sI 0, sI 0, sI 0, sI 0] [(kR b), (kI 0), (kI 0), (kR fcm)]) := fun t k => K51 t (st52 t (by
    refine XS.iload X52.here hx rfl (hD 139 rfl) rfl ?_
    refine XS.iload X52.here hx rfl (hD 140 rfl) rfl ?_
    refine XS.iadd X52.here hx rfl (hD 141 rfl) rfl ?_
    refine XS.iload X52.here hx rfl (hD 142 rfl) rfl ?_
    refine XS.aloadN X52.here hx rfl (hD 143 rfl) rfl rfl ?_
    exact k))
  obtain ⟨T54, X54, e54, st54⟩ := getR X52 hx hZ hown (hw _ (mi 114 rfl)) e52 (W50q.fld (i := 1) rfl (j := 6) rfl rfl) (g := K53.g) rfl rfl (hD 144 rfl)
  have K55 : Rc K0 T54 (mkF m 293 #[sR r, sR b, sR no, sI (-1), sI 0, sI 0, sI 1, sI 0, sI 0, sI 0, sI 0, sI 0, sI 0, sI 0, sI 0] [(kI 0), (kI 0), (kR fcm)]) := fun t k => K53 t (st54 t (by
    refine XS.iload X54.here hx rfl (hD 145 rfl) rfl ?_
    refine ialW X54 hx hZ e54 W50q (i := 17) rfl (j := (0 : Int32)) (k := 0) (by decide) (by decide) (by decide) (v := (.int (0 : Int32))) h_f2 (g := (mkF m 291 #[sR r, sR b, sR no, sI (-1), sI 0, sI 0, sI 1, sI 0, sI 0, sI 0, sI 0, sI 0, sI 0, sI 0, sI 0] [(kI 0), (kR fc), (kI 0), (kI 0), (kR fcm)])) rfl rfl (hD 146 rfl) _ ?_
    refine XS.iadd X54.here hx rfl (hD 147 rfl) rfl ?_
    exact k))
  obtain ⟨T56, h56, L56, X56, e56, N56, W56q, st56⟩ := iasW X54 hx hZ e54 W50q N50 (i := 10) (a := fcm) rfl (j := (0 : Int32)) (x := (0 : Int32)) (k := 0) (by decide) (by decide) (by decide) (g := K55.g) rfl rfl (hD 148 rfl)
  have K57 : Rc K0 T56 (mkF m 295 #[sR r, sR b, sR no, sI (-1), sI 0, sI 0, sI 1, sI 0, sI 0, sI 0, sI 0, sI 0, sI 0, sI 0, sI 0] [(kR r)]) := fun t k => K55 t (st56 t (XS.aloadN X56.here hx rfl (hD 149 rfl) rfl rfl k))
  obtain ⟨T58, X58, e58, st58⟩ := getF X56 hx hZ hown (host := "") (Or.inl (hw _ (mi 34 rfl))) Via.refl e56 (W56q.fld (i := 0) rfl (j := 9) rfl rfl) (g := K57.g) rfl rfl (hD 150 rfl)
  have K59 : Rc K0 T58 (mkF m 306 #[sR r, sR b, sR no, sI (-1), sI 0, sI 0, sI 1, sI 0, sI 0, sI 0, sI 0, sI 0, sI 0, sI 0, sI 0] [(kR b), (kI 0), (kI 0), (kR ftr)]) := fun t k => K57 t (st58 t (by
    refine XS.iload X58.here hx rfl (hD 151 rfl) rfl ?_
    refine XS.iload X58.here hx rfl (hD 152 rfl) rfl ?_
    refine XS.iadd X58.here hx rfl (hD 153 rfl) rfl ?_
    refine XS.iload X58.here hx rfl (hD 154 rfl) rfl ?_
    refine XS.aloadN X58.here hx rfl (hD 155 rfl) rfl rfl ?_
    exact k))
  obtain ⟨T60, X60, e60, st60⟩ := getR X58 hx hZ hown (hw _ (mi 115 rfl)) e58 (W56q.fld (i := 1) rfl (j := 8) rfl rfl) (g := K59.g) rfl rfl (hD 156 rfl)
  have K61 : Rc K0 T60 (mkF m 313 #[sR r, sR b, sR no, sI (-1), sI 0, sI 0, sI 1, sI 0, sI 0, sI 0, sI 0, sI 0, sI 0, sI 0, sI 0] [(kI 0), (kI 0), (kR ftr)]) := fun t k => K59 t (st60 t (by
    refine XS.iload X60.here hx rfl (hD 157 rfl) rfl ?_
    refine ialW X60 hx hZ e60 W56q (i := 18) rfl (j := (0 : Int32)) (k := 0) (by decide) (by decide) (by decide) (v := (.int (0 : Int32))) h_f3 (g := (mkF m 311 #[sR r, sR b, sR no, sI (-1), sI 0, sI 0, sI 1, sI 0, sI 0, sI 0, sI 0, sI 0, sI 0, sI 0, sI 0] [(kI 0), (kR ft), (kI 0), (kI 0), (kR ftr)])) rfl rfl (hD 158 rfl) _ ?_
    refine XS.iadd X60.here hx rfl (hD 159 rfl) rfl ?_
    exact k))
  obtain ⟨T62, h62, L62, X62, e62, N62, W62q, st62⟩ := iasW X60 hx hZ e60 W56q N56 (i := 11) (a := ftr) rfl (j := (0 : Int32)) (x := (0 : Int32)) (k := 0) (by decide) (by decide) (by decide) (g := K61.g) rfl rfl (hD 160 rfl)
  have K63 : Rc K0 T62 (mkF m 321 #[sR r, sR b, sR no, sI (-1), sI 0, sI 0, sI 1, sI 0, sI 0, sI 0, sI 0, sI 0, sI 0, sI 0, sI 1] [(kR r)]) := fun t k => K61 t (st62 t (by
    refine XS.iinc X62.here hx rfl (hD 161 rfl) rfl (l' := #[sR r, sR b, sR no, sI (-1), sI 0, sI 0, sI 1, sI 0, sI 0, sI 0, sI 0, sI 0, sI 0, sI 0, sI 1]) rfl ?_
    refine XS.goto X62.here hx rfl (pc0 := 317) (pc' := 247) rfl (hD 162 rfl) (by decide) (by decide) ?_
    refine XS.iload X62.here hx rfl (hD 122 rfl) rfl ?_
    refine XS.iload X62.here hx rfl (hD 123 rfl) rfl ?_
    refine XS.icmpYes X62.here hx rfl (pc0 := 251) (pc' := 320) rfl (hD 124 rfl) rfl (by decide) (by decide) (by decide) ?_
    refine XS.aloadN X62.here hx rfl (hD 163 rfl) rfl rfl ?_
    exact k))
  obtain ⟨T64, X64, e64, st64⟩ := getF X62 hx hZ hown (host := "") (Or.inl (hw _ (mi 30 rfl))) Via.refl e62 (W62q.fld (i := 0) rfl (j := 7) rfl rfl) (g := K63.g) rfl rfl (hD 164 rfl)
  have K65 : Rc K0 T64 (mkF m 332 #[sR r, sR b, sR no, sI (-1), sI 0, sI 0, sI 1, sI 0, sI 0, sI 0, sI 0, sI 0, sI 0, sI 0, sI 1] [(kR b), (kI 0), (kI 1), (kR fac)]) := fun t k => K63 t (st64 t (by
    refine XS.iload X64.here hx rfl (hD 165 rfl) rfl ?_
    refine XS.iload X64.here hx rfl (hD 166 rfl) rfl ?_
    refine XS.iadd X64.here hx rfl (hD 167 rfl) rfl ?_
    refine XS.iload X64.here hx rfl (hD 168 rfl) rfl ?_
    refine XS.aloadN X64.here hx rfl (hD 169 rfl) rfl rfl ?_
    exact k))
  obtain ⟨T66, X66, e66, st66⟩ := getR X64 hx hZ hown (hw _ (mi 110 rfl)) e64 (W62q.fld (i := 1) rfl (j := 12) rfl rfl) (g := K65.g) rfl rfl (hD 170 rfl)
  have K67 : Rc K0 T66 (mkF m 336 #[sR r, sR b, sR no, sI (-1), sI 0, sI 0, sI 1, sI 0, sI 0, sI 0, sI 0, sI 0, sI 0, sI 0, sI 1] [(kI 0), (kI 1), (kR fac)]) := fun t k => K65 t (st66 t (XS.iadd X66.here hx rfl (hD 171 rfl) rfl k))
  obtain ⟨T68, h68, L68, X68, e68, N68, W68q, st68⟩ := iasW X66 hx hZ e66 W62q N62 (i := 9) (a := fac) rfl (j := (1 : Int32)) (x := (0 : Int32)) (k := 1) (by decide) (by decide) (by decide) (g := K67.g) rfl rfl (hD 172 rfl)
  have W68 : Wo n0 h68 ((r, oR Z [(kR ks), (kR rgs), (kR ns), (kR fch), (kR fk), (kR kl), (kR frg), (kR fac), (kR fcm), (kR ftr), (kR acs), (kR cms), (kR sus), (kR prb), (kI 0), .null, (kI 0), .null, .null, .null, .null, .null, .null, (kI 0), (kI 0)]) :: (b, oB Z [.null, (kI 0), (kR vv), (kI (Int32.ofNat u)), (kR fa), (kR ac), (kR fc), (kR cm), (kR ft), (kR su), (kR pr), (kI 1), (kI 0), (kI 0), (kI 1), .null]) :: (ks, Ar Z .int 0 g_ks) :: (rgs, Ar Z .int 0 g_rgs) :: (ns, Ar Z .int 16 g_ns) :: (fch, Ar Z .int 17 g_fch) :: (fk, Ar Z .int 17 g_fk) :: (kl, Ar Z .int 16 g_kl) :: (frg, Ar Z .int 17 g_frg) :: (fac, Ar Z .int 17 (upd (upd g_fac 0 (kI 0)) 1 (kI 0))) :: (fcm, Ar Z .int 17 (upd g_fcm 0 (kI 0))) :: (ftr, Ar Z .int 17 (upd g_ftr 0 (kI 0))) :: (acs, Ar Z .int 16 g_acs) :: (cms, Ar Z .int 16 g_cms) :: (sus, Ar Z .int 64 g_sus) :: (prb, Ar Z .double 64 g_prb) :: (fa, Ar Z .int 2 f1) :: (fc, Ar Z .int 2 f2) :: (ft, Ar Z .int 2 f3) :: (ac, Ar Z .int 2 f4) :: (cm, Ar Z .int 2 f5) :: (su, Ar Z .int 4 f6) :: (pr, Ar Z .double 4 f7) :: (no, Ar Z .int 0 f8) :: (vv, Ar Z .double 4 g_vv) :: Rr) := W68q
  have K69 : Rc K0 T68 (mkF m 338 #[sR r, sR b, sR no, sI (-1), sI 0, sI 0, sI 1, sI 0, sI 0, sI 0, sI 0, sI 0, sI 0, sI 0, sI 1] [(kR r)]) := fun t k => K67 t (st68 t (XS.aloadN X68.here hx rfl (hD 173 rfl) rfl rfl k))
  obtain ⟨T70, X70, e70, st70⟩ := getF X68 hx hZ hown (host := "") (Or.inl (hw _ (mi 32 rfl))) Via.refl e68 (W68.fld (i := 0) rfl (j := 8) rfl rfl) (g := K69.g) rfl rfl (hD 174 rfl)
  have K71 : Rc K0 T70 (mkF m 349 #[sR r, sR b, sR no, sI (-1), sI 0, sI 0, sI 1, sI 0, sI 0, sI 0, sI 0, sI 0, sI 0, sI 0, sI 1] [(kR b), (kI 0), (kI 1), (kR fcm)]) := fun t k => K69 t (st70 t (by
    refine XS.iload X70.here hx rfl (hD 175 rfl) rfl ?_
    refine XS.iload X70.here hx rfl (hD 176 rfl) rfl ?_
    refine XS.iadd X70.here hx rfl (hD 177 rfl) rfl ?_
    refine XS.iload X70.here hx rfl (hD 178 rfl) rfl ?_
    refine XS.aloadN X70.here hx rfl (hD 179 rfl) rfl rfl ?_
    exact k))
  obtain ⟨T72, X72, e72, st72⟩ := getR X70 hx hZ hown (hw _ (mi 111 rfl)) e70 (W68.fld (i := 1) rfl (j := 13) rfl rfl) (g := K71.g) rfl rfl (hD 180 rfl)
  have K73 : Rc K0 T72 (mkF m 353 #[sR r, sR b, sR no, sI (-1), sI 0, sI 0, sI 1, sI 0, sI 0, sI 0, sI 0, sI 0, sI 0, sI 0, sI 1] [(kI 0), (kI 1), (kR fcm)]) := fun t k => K71 t (st72 t (XS.iadd X72.here hx rfl (hD 181 rfl) rfl k))
  obtain ⟨T74, h74, L74, X74, e74, N74, W74q, st74⟩ := iasW X72 hx hZ e72 W68 N68 (i := 10) (a := fcm) rfl (j := (1 : Int32)) (x := (0 : Int32)) (k := 1) (by decide) (by decide) (by decide) (g := K73.g) rfl rfl (hD 182 rfl)
  have K75 : Rc K0 T74 (mkF m 355 #[sR r, sR b, sR no, sI (-1), sI 0, sI 0, sI 1, sI 0, sI 0, sI 0, sI 0, sI 0, sI 0, sI 0, sI 1] [(kR r)]) := fun t k => K73 t (st74 t (XS.aloadN X74.here hx rfl (hD 183 rfl) rfl rfl k))
  obtain ⟨T76, X76, e76, st76⟩ := getF X74 hx hZ hown (host := "") (Or.inl (hw _ (mi 34 rfl))) Via.refl e74 (W74q.fld (i := 0) rfl (j := 9) rfl rfl) (g := K75.g) rfl rfl (hD 184 rfl)
  have K77 : Rc K0 T76 (mkF m 366 #[sR r, sR b, sR no, sI (-1), sI 0, sI 0, sI 1, sI 0, sI 0, sI 0, sI 0, sI 0, sI 0, sI 0, sI 1] [(kR b), (kI 0), (kI 1), (kR ftr)]) := fun t k => K75 t (st76 t (by
    refine XS.iload X76.here hx rfl (hD 185 rfl) rfl ?_
    refine XS.iload X76.here hx rfl (hD 186 rfl) rfl ?_
    refine XS.iadd X76.here hx rfl (hD 187 rfl) rfl ?_
    refine XS.iload X76.here hx rfl (hD 188 rfl) rfl ?_
    refine XS.aloadN X76.here hx rfl (hD 189 rfl) rfl rfl ?_
    exact k))
  obtain ⟨T78, X78, e78, st78⟩ := getR X76 hx hZ hown (hw _ (mi 112 rfl)) e76 (W74q.fld (i := 1) rfl (j := 14) rfl rfl) (g := K77.g) rfl rfl (hD 190 rfl)
  have K79 : Rc K0 T78 (mkF m 370 #[sR r, sR b, sR no, sI (-1), sI 0, sI 0, sI 1, sI 0, sI 0, sI 0, sI 0, sI 0, sI 0, sI 0, sI 1] [(kI 1), (kI 1), (kR ftr)]) := fun t k => K77 t (st78 t (XS.iadd X78.here hx rfl (hD 191 rfl) rfl k))
  obtain ⟨T80, h80, L80, X80, e80, N80, W80q, st80⟩ := iasW X78 hx hZ e78 W74q N74 (i := 11) (a := ftr) rfl (j := (1 : Int32)) (x := (1 : Int32)) (k := 1) (by decide) (by decide) (by decide) (g := K79.g) rfl rfl (hD 192 rfl)
  have K81 : Rc K0 T80 (mkF m 372 #[sR r, sR b, sR no, sI (-1), sI 0, sI 0, sI 1, sI 0, sI 0, sI 0, sI 0, sI 0, sI 0, sI 0, sI 1] [(kR b)]) := fun t k => K79 t (st80 t (XS.aloadN X80.here hx rfl (hD 193 rfl) rfl rfl k))
  obtain ⟨T82, X82, e82, st82⟩ := getR X80 hx hZ hown (hw _ (mi 116 rfl)) e80 (W80q.fld (i := 1) rfl (j := 5) rfl rfl) (g := K81.g) rfl rfl (hD 194 rfl)
  have K83 : Rc K0 T82 (mkF m 377 #[sR r, sR b, sR no, sI (-1), sI 0, sI 0, sI 1, sI 0, sI 0, sI 0, sI 0, sI 0, sI 0, sI 0, sI 1] [(kR r), (kI 0), (kR ac)]) := fun t k => K81 t (st82 t (by
    refine XS.iconst X82.here hx rfl (hD 195 rfl) ?_
    refine XS.aloadN X82.here hx rfl (hD 196 rfl) rfl rfl ?_
    exact k))
  obtain ⟨T84, X84, e84, st84⟩ := getF X82 hx hZ hown (host := "") (Or.inl (hw _ (mi 36 rfl))) Via.refl e82 (W80q.fld (i := 0) rfl (j := 10) rfl rfl) (g := K83.g) rfl rfl (hD 197 rfl)
  have K85 : Rc K0 T84 (mkF m 383 #[sR r, sR b, sR no, sI (-1), sI 0, sI 0, sI 1, sI 0, sI 0, sI 0, sI 0, sI 0, sI 0, sI 0, sI 1] [(kR b), (kI 0), (kR acs), (kI 0), (kR ac)]) := fun t k => K83 t (st84 t (by
    refine XS.iload X84.here hx rfl (hD 198 rfl) rfl ?_
    refine XS.aloadN X84.here hx rfl (hD 199 rfl) rfl rfl ?_
    exact k))
  obtain ⟨T86, X86, e86, st86⟩ := getR X84 hx hZ hown (hw _ (mi 110 rfl)) e84 (W80q.fld (i := 1) rfl (j := 12) rfl rfl) (g := K85.g) rfl rfl (hD 200 rfl)
  obtain ⟨T87, h87, L87, X87, e87, N87, W87q, st87⟩ := cpW X86 hx hZ hown (hw _ (mi 117 rfl)) (hw _ (mi 120 rfl)) (hw _ (mi 118 rfl)) (hw _ (mi 119 rfl)) e86 W80q N80 (i := 19) (j := 12) rfl rfl rfl (sp := (0 : Int32)) (dp := (0 : Int32)) (nn := (0 : Int32)) (s' := 0) (d' := 0) (k' := 0) (by decide) (by decide) (by decide) (by decide) (by decide) (by decide) (by decide) (by decide) (g := (mkF m 386 #[sR r, sR b, sR no, sI (-1), sI 0, sI 0, sI 1, sI 0, sI 0, sI 0, sI 0, sI 0, sI 0, sI 0, sI 1] [(kI 0), (kI 0), (kR acs), (kI 0), (kR ac)])) rfl (by rw [hml]; rfl) (rest := []) rfl (hD 201 rfl) (by decide) (W0 := 0) (by show 2 * 0 + _ ≤ _; exact Nat.le_of_eq rfl) (by decide)
  have K88 : Rc K0 T87 (mkF m 390 #[sR r, sR b, sR no, sI (-1), sI 0, sI 0, sI 1, sI 0, sI 0, sI 0, sI 0, sI 0, sI 0, sI 0, sI 1] [(kR b)]) := fun t k => K85 t (st86 t (st87 t (XS.aloadN X87.here hx rfl (hD 202 rfl) rfl rfl k)))
  obtain ⟨T89, X89, e89, st89⟩ := getR X87 hx hZ hown (hw _ (mi 121 rfl)) e87 (W87q.fld (i := 1) rfl (j := 7) rfl rfl) (g := K88.g) rfl rfl (hD 203 rfl)
  have K90 : Rc K0 T89 (mkF m 395 #[sR r, sR b, sR no, sI (-1), sI 0, sI 0, sI 1, sI 0, sI 0, sI 0, sI 0, sI 0, sI 0, sI 0, sI 1] [(kR r), (kI 0), (kR cm)]) := fun t k => K88 t (st89 t (by
    refine XS.iconst X89.here hx rfl (hD 204 rfl) ?_
    refine XS.aloadN X89.here hx rfl (hD 205 rfl) rfl rfl ?_
    exact k))
  obtain ⟨T91, X91, e91, st91⟩ := getF X89 hx hZ hown (host := "") (Or.inl (hw _ (mi 38 rfl))) Via.refl e89 (W87q.fld (i := 0) rfl (j := 11) rfl rfl) (g := K90.g) rfl rfl (hD 206 rfl)
  have K92 : Rc K0 T91 (mkF m 401 #[sR r, sR b, sR no, sI (-1), sI 0, sI 0, sI 1, sI 0, sI 0, sI 0, sI 0, sI 0, sI 0, sI 0, sI 1] [(kR b), (kI 0), (kR cms), (kI 0), (kR cm)]) := fun t k => K90 t (st91 t (by
    refine XS.iload X91.here hx rfl (hD 207 rfl) rfl ?_
    refine XS.aloadN X91.here hx rfl (hD 208 rfl) rfl rfl ?_
    exact k))
  obtain ⟨T93, X93, e93, st93⟩ := getR X91 hx hZ hown (hw _ (mi 111 rfl)) e91 (W87q.fld (i := 1) rfl (j := 13) rfl rfl) (g := K92.g) rfl rfl (hD 209 rfl)
  obtain ⟨T94, h94, L94, X94, e94, N94, W94q, st94⟩ := cpW X93 hx hZ hown (hw _ (mi 117 rfl)) (hw _ (mi 120 rfl)) (hw _ (mi 118 rfl)) (hw _ (mi 119 rfl)) e93 W87q N87 (i := 20) (j := 13) rfl rfl rfl (sp := (0 : Int32)) (dp := (0 : Int32)) (nn := (0 : Int32)) (s' := 0) (d' := 0) (k' := 0) (by decide) (by decide) (by decide) (by decide) (by decide) (by decide) (by decide) (by decide) (g := (mkF m 404 #[sR r, sR b, sR no, sI (-1), sI 0, sI 0, sI 1, sI 0, sI 0, sI 0, sI 0, sI 0, sI 0, sI 0, sI 1] [(kI 0), (kI 0), (kR cms), (kI 0), (kR cm)])) rfl (by rw [hml]; rfl) (rest := []) rfl (hD 210 rfl) (by decide) (W0 := 0) (by show 2 * 0 + _ ≤ _; exact Nat.le_of_eq rfl) (by decide)
  have W94 : Wo n0 h94 ((r, oR Z [(kR ks), (kR rgs), (kR ns), (kR fch), (kR fk), (kR kl), (kR frg), (kR fac), (kR fcm), (kR ftr), (kR acs), (kR cms), (kR sus), (kR prb), (kI 0), .null, (kI 0), .null, .null, .null, .null, .null, .null, (kI 0), (kI 0)]) :: (b, oB Z [.null, (kI 0), (kR vv), (kI (Int32.ofNat u)), (kR fa), (kR ac), (kR fc), (kR cm), (kR ft), (kR su), (kR pr), (kI 1), (kI 0), (kI 0), (kI 1), .null]) :: (ks, Ar Z .int 0 g_ks) :: (rgs, Ar Z .int 0 g_rgs) :: (ns, Ar Z .int 16 g_ns) :: (fch, Ar Z .int 17 g_fch) :: (fk, Ar Z .int 17 g_fk) :: (kl, Ar Z .int 16 g_kl) :: (frg, Ar Z .int 17 g_frg) :: (fac, Ar Z .int 17 (upd (upd g_fac 0 (kI 0)) 1 (kI 0))) :: (fcm, Ar Z .int 17 (upd (upd g_fcm 0 (kI 0)) 1 (kI 0))) :: (ftr, Ar Z .int 17 (upd (upd g_ftr 0 (kI 0)) 1 (kI 1))) :: (acs, Ar Z .int 16 (cpy f4 g_acs 0 0 0)) :: (cms, Ar Z .int 16 (cpy f5 g_cms 0 0 0)) :: (sus, Ar Z .int 64 g_sus) :: (prb, Ar Z .double 64 g_prb) :: (fa, Ar Z .int 2 f1) :: (fc, Ar Z .int 2 f2) :: (ft, Ar Z .int 2 f3) :: (ac, Ar Z .int 2 f4) :: (cm, Ar Z .int 2 f5) :: (su, Ar Z .int 4 f6) :: (pr, Ar Z .double 4 f7) :: (no, Ar Z .int 0 f8) :: (vv, Ar Z .double 4 g_vv) :: Rr) := W94q
  have K95 : Rc K0 T94 (mkF m 408 #[sR r, sR b, sR no, sI (-1), sI 0, sI 0, sI 1, sI 0, sI 0, sI 0, sI 0, sI 0, sI 0, sI 0, sI 1] [(kR b)]) := fun t k => K92 t (st93 t (st94 t (XS.aloadN X94.here hx rfl (hD 211 rfl) rfl rfl k)))
  obtain ⟨T96, X96, e96, st96⟩ := getR X94 hx hZ hown (hw _ (mi 122 rfl)) e94 (W94.fld (i := 1) rfl (j := 9) rfl rfl) (g := K95.g) rfl rfl (hD 212 rfl)
  have K97 : Rc K0 T96 (mkF m 413 #[sR r, sR b, sR no, sI (-1), sI 0, sI 0, sI 1, sI 0, sI 0, sI 0, sI 0, sI 0, sI 0, sI 0, sI 1] [(kR r), (kI 0), (kR su)]) := fun t k => K95 t (st96 t (by
    refine XS.iconst X96.here hx rfl (hD 213 rfl) ?_
    refine XS.aloadN X96.here hx rfl (hD 214 rfl) rfl rfl ?_
    exact k))
  obtain ⟨T98, X98, e98, st98⟩ := getF X96 hx hZ hown (host := "") (Or.inl (hw _ (mi 40 rfl))) Via.refl e96 (W94.fld (i := 0) rfl (j := 12) rfl rfl) (g := K97.g) rfl rfl (hD 215 rfl)
  have K99 : Rc K0 T98 (mkF m 419 #[sR r, sR b, sR no, sI (-1), sI 0, sI 0, sI 1, sI 0, sI 0, sI 0, sI 0, sI 0, sI 0, sI 0, sI 1] [(kR b), (kI 0), (kR sus), (kI 0), (kR su)]) := fun t k => K97 t (st98 t (by
    refine XS.iload X98.here hx rfl (hD 216 rfl) rfl ?_
    refine XS.aloadN X98.here hx rfl (hD 217 rfl) rfl rfl ?_
    exact k))
  obtain ⟨T100, X100, e100, st100⟩ := getR X98 hx hZ hown (hw _ (mi 112 rfl)) e98 (W94.fld (i := 1) rfl (j := 14) rfl rfl) (g := K99.g) rfl rfl (hD 218 rfl)
  obtain ⟨T101, h101, L101, X101, e101, N101, W101q, st101⟩ := cpW X100 hx hZ hown (hw _ (mi 117 rfl)) (hw _ (mi 120 rfl)) (hw _ (mi 118 rfl)) (hw _ (mi 119 rfl)) e100 W94 N94 (i := 21) (j := 14) rfl rfl rfl (sp := (0 : Int32)) (dp := (0 : Int32)) (nn := (1 : Int32)) (s' := 0) (d' := 0) (k' := 1) (by decide) (by decide) (by decide) (by decide) (by decide) (by decide) (by decide) (by decide) (g := (mkF m 422 #[sR r, sR b, sR no, sI (-1), sI 0, sI 0, sI 1, sI 0, sI 0, sI 0, sI 0, sI 0, sI 0, sI 0, sI 1] [(kI 1), (kI 0), (kR sus), (kI 0), (kR su)])) rfl (by rw [hml]; rfl) (rest := []) rfl (hD 219 rfl) (by decide) (W0 := 0) (by show 2 * 0 + _ ≤ _; exact Nat.le_of_eq rfl) (by decide)
  have K102 : Rc K0 T101 (mkF m 426 #[sR r, sR b, sR no, sI (-1), sI 0, sI 0, sI 1, sI 0, sI 0, sI 0, sI 0, sI 0, sI 0, sI 0, sI 1] [(kR b)]) := fun t k => K99 t (st100 t (st101 t (XS.aloadN X101.here hx rfl (hD 220 rfl) rfl rfl k)))
  obtain ⟨T103, X103, e103, st103⟩ := getR X101 hx hZ hown (hw _ (mi 106 rfl)) e101 (W101q.fld (i := 1) rfl (j := 0) rfl rfl) (g := K102.g) rfl rfl (hD 221 rfl)
  have K104 : Rc K0 T103 (mkF m 454 #[sR r, sR b, sR no, sI (-1), sI 0, sI 0, sI 1, sI 0, sI 0, sI 0, sI 0, sI 0, sI 0, sI 0, sI 1] [(kR r), (kI 0), (kR no)]) := fun t k => K102 t (st103 t (by
    refine XS.ifnullYes X103.here hx rfl (pc0 := 429) (pc' := 451) rfl (hD 222 rfl) rfl (by decide) (by decide) ?_
    refine XS.aloadN X103.here hx rfl (hD 223 rfl) rfl rfl ?_
    refine XS.iconst X103.here hx rfl (hD 224 rfl) ?_
    refine XS.aloadN X103.here hx rfl (hD 225 rfl) rfl rfl ?_
    exact k))
  obtain ⟨T105, X105, e105, st105⟩ := getF X103 hx hZ hown (host := "") (Or.inl (hw _ (mi 18 rfl))) Via.refl e103 (W101q.fld (i := 0) rfl (j := 1) rfl rfl) (g := K104.g) rfl rfl (hD 226 rfl)
  have K106 : Rc K0 T105 (mkF m 461 #[sR r, sR b, sR no, sI (-1), sI 0, sI 0, sI 1, sI 0, sI 0, sI 0, sI 0, sI 0, sI 0, sI 0, sI 1] [(kI 0), (kI 0), (kR rgs), (kI 0), (kR no)]) := fun t k => K104 t (st105 t (by
    refine XS.iload X105.here hx rfl (hD 227 rfl) rfl ?_
    refine XS.aloadN X105.here hx rfl (hD 228 rfl) rfl rfl ?_
    refine lenW X105 hx hZ e105 W101q (i := 23) rfl (fun _ q => q) (z := (0 : Int32)) (by decide) (g := (mkF m 460 #[sR r, sR b, sR no, sI (-1), sI 0, sI 0, sI 1, sI 0, sI 0, sI 0, sI 0, sI 0, sI 0, sI 0, sI 1] [(kR no), (kI 0), (kR rgs), (kI 0), (kR no)])) rfl rfl (hD 229 rfl) _ ?_
    exact k))
  obtain ⟨T107, h107, L107, X107, e107, N107, W107q, st107⟩ := cpW X105 hx hZ hown (hw _ (mi 117 rfl)) (hw _ (mi 120 rfl)) (hw _ (mi 118 rfl)) (hw _ (mi 119 rfl)) e105 W101q N101 (i := 23) (j := 3) rfl rfl rfl (sp := (0 : Int32)) (dp := (0 : Int32)) (nn := (0 : Int32)) (s' := 0) (d' := 0) (k' := 0) (by decide) (by decide) (by decide) (by decide) (by decide) (by decide) (by decide) (by decide) (g := K106.g) rfl (by rw [hml]; rfl) (rest := []) rfl (hD 230 rfl) (by decide) (W0 := 0) (by show 2 * 0 + _ ≤ _; exact Nat.le_of_eq rfl) (by decide)
  have K108 : Rc K0 T107 (mkF m 465 #[sR r, sR b, sR no, sI (-1), sI 0, sI 0, sI 1, sI 0, sI 0, sI 0, sI 0, sI 0, sI 0, sI 0, sI 1] [(kR r)]) := fun t k => K106 t (st107 t (XS.aloadN X107.here hx rfl (hD 231 rfl) rfl rfl k))
  obtain ⟨T109, X109, e109, st109⟩ := getF X107 hx hZ hown (host := "") (Or.inl (hw _ (mi 20 rfl))) Via.refl e107 (W107q.fld (i := 0) rfl (j := 2) rfl rfl) (g := K108.g) rfl rfl (hD 232 rfl)
  have K110 : Rc K0 T109 (mkF m 471 #[sR r, sR b, sR no, sI (-1), sI 0, sI 0, sI 1, sI 0, sI 0, sI 0, sI 0, sI 0, sI 0, sI 0, sI 1] [(kI (-1)), (kI 0), (kR ns)]) := fun t k => K108 t (st109 t (by
    refine XS.iload X109.here hx rfl (hD 233 rfl) rfl ?_
    refine XS.iloadN X109.here hx rfl (hD 234 rfl) rfl ?_
    exact k))
  obtain ⟨T111, h111, L111, X111, e111, N111, W111q, st111⟩ := iasW X109 hx hZ e109 W107q N107 (i := 4) (a := ns) rfl (j := (0 : Int32)) (x := (-1 : Int32)) (k := 0) (by decide) (by decide) (by decide) (g := K110.g) rfl rfl (hD 235 rfl)
  have K112 : Rc K0 T111 (mkF m 473 #[sR r, sR b, sR no, sI (-1), sI 0, sI 0, sI 1, sI 0, sI 0, sI 0, sI 0, sI 0, sI 0, sI 0, sI 1] [(kR r)]) := fun t k => K110 t (st111 t (XS.aloadN X111.here hx rfl (hD 236 rfl) rfl rfl k))
  obtain ⟨T113, X113, e113, st113⟩ := getF X111 hx hZ hown (host := "") (Or.inl (hw _ (mi 26 rfl))) Via.refl e111 (W111q.fld (i := 0) rfl (j := 5) rfl rfl) (g := K112.g) rfl rfl (hD 237 rfl)
  have K114 : Rc K0 T113 (mkF m 479 #[sR r, sR b, sR no, sI (-1), sI 0, sI 0, sI 1, sI 0, sI 0, sI 0, sI 0, sI 0, sI 0, sI 0, sI 1] [(kR b), (kI 0), (kR kl)]) := fun t k => K112 t (st113 t (by
    refine XS.iload X113.here hx rfl (hD 238 rfl) rfl ?_
    refine XS.aloadN X113.here hx rfl (hD 239 rfl) rfl rfl ?_
    exact k))
  obtain ⟨T115, X115, e115, st115⟩ := getR X113 hx hZ hown (hw _ (mi 106 rfl)) e113 (W111q.fld (i := 1) rfl (j := 0) rfl rfl) (g := K114.g) rfl rfl (hD 240 rfl)
  have K116 : Rc K0 T115 (mkF m 494 #[sR r, sR b, sR no, sI (-1), sI 0, sI 0, sI 1, sI 0, sI 0, sI 0, sI 0, sI 0, sI 0, sI 0, sI 1] [(kI (-1)), (kI 0), (kR kl)]) := fun t k => K114 t (st115 t (by
    refine XS.ifnonnullNo X115.here hx rfl (hD 241 rfl) rfl ?_
    refine XS.iconst X115.here hx rfl (hD 242 rfl) ?_
    refine XS.goto X115.here hx rfl (pc0 := 486) (pc' := 494) rfl (hD 243 rfl) (by decide) (by decide) ?_
    exact k))
  obtain ⟨T117, h117, L117, X117, e117, N117, W117q, st117⟩ := iasW X115 hx hZ e115 W111q N111 (i := 7) (a := kl) rfl (j := (0 : Int32)) (x := (-1 : Int32)) (k := 0) (by decide) (by decide) (by decide) (g := K116.g) rfl rfl (hD 244 rfl)
  have W117 : Wo n0 h117 ((r, oR Z [(kR ks), (kR rgs), (kR ns), (kR fch), (kR fk), (kR kl), (kR frg), (kR fac), (kR fcm), (kR ftr), (kR acs), (kR cms), (kR sus), (kR prb), (kI 0), .null, (kI 0), .null, .null, .null, .null, .null, .null, (kI 0), (kI 0)]) :: (b, oB Z [.null, (kI 0), (kR vv), (kI (Int32.ofNat u)), (kR fa), (kR ac), (kR fc), (kR cm), (kR ft), (kR su), (kR pr), (kI 1), (kI 0), (kI 0), (kI 1), .null]) :: (ks, Ar Z .int 0 g_ks) :: (rgs, Ar Z .int 0 (cpy f8 g_rgs 0 0 0)) :: (ns, Ar Z .int 16 (upd g_ns 0 (kI (-1)))) :: (fch, Ar Z .int 17 g_fch) :: (fk, Ar Z .int 17 g_fk) :: (kl, Ar Z .int 16 (upd g_kl 0 (kI (-1)))) :: (frg, Ar Z .int 17 g_frg) :: (fac, Ar Z .int 17 (upd (upd g_fac 0 (kI 0)) 1 (kI 0))) :: (fcm, Ar Z .int 17 (upd (upd g_fcm 0 (kI 0)) 1 (kI 0))) :: (ftr, Ar Z .int 17 (upd (upd g_ftr 0 (kI 0)) 1 (kI 1))) :: (acs, Ar Z .int 16 (cpy f4 g_acs 0 0 0)) :: (cms, Ar Z .int 16 (cpy f5 g_cms 0 0 0)) :: (sus, Ar Z .int 64 (cpy f6 g_sus 0 0 1)) :: (prb, Ar Z .double 64 g_prb) :: (fa, Ar Z .int 2 f1) :: (fc, Ar Z .int 2 f2) :: (ft, Ar Z .int 2 f3) :: (ac, Ar Z .int 2 f4) :: (cm, Ar Z .int 2 f5) :: (su, Ar Z .int 4 f6) :: (pr, Ar Z .double 4 f7) :: (no, Ar Z .int 0 f8) :: (vv, Ar Z .double 4 g_vv) :: Rr) := W117q
  have K118 : Rc K0 T117 (mkF m 496 #[sR r, sR b, sR no, sI (-1), sI 0, sI 0, sI 1, sI 0, sI 0, sI 0, sI 0, sI 0, sI 0, sI 0, sI 1] [(kR r)]) := fun t k => K116 t (st117 t (XS.aloadN X117.here hx rfl (hD 245 rfl) rfl rfl k))
  obtain ⟨T119, X119, e119, st119⟩ := getF X117 hx hZ hown (host := "") (Or.inl (hw _ (mi 22 rfl))) Via.refl e117 (W117.fld (i := 0) rfl (j := 3) rfl rfl) (g := K118.g) rfl rfl (hD 246 rfl)
  have K120 : Rc K0 T119 (mkF m 508 #[sR r, sR b, sR no, sI (-1), sI 0, sI 0, sI 1, sI 0, sI 0, sI 0, sI 0, sI 0, sI 0, sI 0, sI 1] [(kI 1), (kI 1), (kR fch)]) := fun t k => K118 t (st119 t (by
    refine XS.iload X119.here hx rfl (hD 247 rfl) rfl ?_
    refine XS.iconst X119.here hx rfl (hD 248 rfl) ?_
    refine XS.iadd X119.here hx rfl (hD 249 rfl) rfl ?_
    refine XS.iload X119.here hx rfl (hD 250 rfl) rfl ?_
    refine XS.iload X119.here hx rfl (hD 251 rfl) rfl ?_
    refine XS.iadd X119.here hx rfl (hD 252 rfl) rfl ?_
    exact k))
  obtain ⟨T121, h121, L121, X121, e121, N121, W121q, st121⟩ := iasW X119 hx hZ e119 W117 N117 (i := 5) (a := fch) rfl (j := (1 : Int32)) (x := (1 : Int32)) (k := 1) (by decide) (by decide) (by decide) (g := K120.g) rfl rfl (hD 253 rfl)
  have K122 : Rc K0 T121 (mkF m 510 #[sR r, sR b, sR no, sI (-1), sI 0, sI 0, sI 1, sI 0, sI 0, sI 0, sI 0, sI 0, sI 0, sI 0, sI 1] [(kR r)]) := fun t k => K120 t (st121 t (XS.aloadN X121.here hx rfl (hD 254 rfl) rfl rfl k))
  obtain ⟨T123, X123, e123, st123⟩ := getF X121 hx hZ hown (host := "") (Or.inl (hw _ (mi 24 rfl))) Via.refl e121 (W121q.fld (i := 0) rfl (j := 4) rfl rfl) (g := K122.g) rfl rfl (hD 255 rfl)
  have K124 : Rc K0 T123 (mkF m 519 #[sR r, sR b, sR no, sI (-1), sI 0, sI 0, sI 1, sI 0, sI 0, sI 0, sI 0, sI 0, sI 0, sI 0, sI 1] [(kI 0), (kI 1), (kR fk)]) := fun t k => K122 t (st123 t (by
    refine XS.iload X123.here hx rfl (hD 256 rfl) rfl ?_
    refine XS.iconst X123.here hx rfl (hD 257 rfl) ?_
    refine XS.iadd X123.here hx rfl (hD 258 rfl) rfl ?_
    refine XS.iload X123.here hx rfl (hD 259 rfl) rfl ?_
    exact k))
  obtain ⟨T125, h125, L125, X125, e125, N125, W125q, st125⟩ := iasW X123 hx hZ e123 W121q N121 (i := 6) (a := fk) rfl (j := (1 : Int32)) (x := (0 : Int32)) (k := 1) (by decide) (by decide) (by decide) (g := K124.g) rfl rfl (hD 260 rfl)
  have K126 : Rc K0 T125 (mkF m 521 #[sR r, sR b, sR no, sI (-1), sI 0, sI 0, sI 1, sI 0, sI 0, sI 0, sI 0, sI 0, sI 0, sI 0, sI 1] [(kR r)]) := fun t k => K124 t (st125 t (XS.aloadN X125.here hx rfl (hD 261 rfl) rfl rfl k))
  obtain ⟨T127, X127, e127, st127⟩ := getF X125 hx hZ hown (host := "") (Or.inl (hw _ (mi 28 rfl))) Via.refl e125 (W125q.fld (i := 0) rfl (j := 6) rfl rfl) (g := K126.g) rfl rfl (hD 262 rfl)
  have K128 : Rc K0 T127 (mkF m 533 #[sR r, sR b, sR no, sI (-1), sI 0, sI 0, sI 1, sI 0, sI 0, sI 0, sI 0, sI 0, sI 0, sI 0, sI 1] [(kI 0), (kI 1), (kR frg)]) := fun t k => K126 t (st127 t (by
    refine XS.iload X127.here hx rfl (hD 263 rfl) rfl ?_
    refine XS.iconst X127.here hx rfl (hD 264 rfl) ?_
    refine XS.iadd X127.here hx rfl (hD 265 rfl) rfl ?_
    refine XS.iload X127.here hx rfl (hD 266 rfl) rfl ?_
    refine XS.aloadN X127.here hx rfl (hD 267 rfl) rfl rfl ?_
    refine lenW X127 hx hZ e127 W125q (i := 23) rfl (fun _ q => q) (z := (0 : Int32)) (by decide) (g := (mkF m 531 #[sR r, sR b, sR no, sI (-1), sI 0, sI 0, sI 1, sI 0, sI 0, sI 0, sI 0, sI 0, sI 0, sI 0, sI 1] [(kR no), (kI 0), (kI 1), (kR frg)])) rfl rfl (hD 268 rfl) _ ?_
    refine XS.iadd X127.here hx rfl (hD 269 rfl) rfl ?_
    exact k))
  obtain ⟨T129, h129, L129, X129, e129, N129, W129q, st129⟩ := iasW X127 hx hZ e127 W125q N125 (i := 8) (a := frg) rfl (j := (1 : Int32)) (x := (0 : Int32)) (k := 1) (by decide) (by decide) (by decide) (g := K128.g) rfl rfl (hD 270 rfl)
  have K130 : Rc K0 T129 (mkF m 536 #[sR r, sR b, sR no, sI (-1), sI 0, sI 0, sI 1, sI 0, sI 0, sI 0, sI 0, sI 0, sI 0, sI 0, sI 1] [(kR r), (kR r)]) := fun t k => K128 t (st129 t (by
    refine XS.aloadN X129.here hx rfl (hD 271 rfl) rfl rfl ?_
    refine XS.dup X129.here hx rfl (hD 272 rfl) rfl rfl ?_
    exact k))
  obtain ⟨T131, X131, e131, st131⟩ := getF X129 hx hZ hown (host := "") (Or.inl (hw _ (mi 103 rfl))) Via.refl e129 (W129q.fld (i := 0) rfl (j := 14) rfl rfl) (g := K130.g) rfl rfl (hD 273 rfl)
  have K132 : Rc K0 T131 (mkF m 541 #[sR r, sR b, sR no, sI (-1), sI 0, sI 0, sI 1, sI 0, sI 0, sI 0, sI 0, sI 0, sI 0, sI 0, sI 1] [(kI 1), (kR r)]) := fun t k => K130 t (st131 t (by
    refine XS.iconst X131.here hx rfl (hD 274 rfl) ?_
    refine XS.iadd X131.here hx rfl (hD 275 rfl) rfl ?_
    exact k))
  obtain ⟨T133, h133, L133, X133, e133, N133, W133q, st133⟩ := putW X131 hx hZ hown (host := "") (Or.inl (hw _ (mi 103 rfl))) e131 W129q N129 (own_dR hw) (Or.inl (hw _ (mi 104 rfl))) (hw _ (mi 8 rfl)) (ty := .int) (by decide +kernel) (i := 0) (a := r) rfl (j := 14) rfl rfl (v := (.int (1 : Int32))) rfl rfl (g := K132.g) rfl rfl (hD 276 rfl)
  have W133 : Wo n0 h133 ((r, oR Z [(kR ks), (kR rgs), (kR ns), (kR fch), (kR fk), (kR kl), (kR frg), (kR fac), (kR fcm), (kR ftr), (kR acs), (kR cms), (kR sus), (kR prb), (kI 1), .null, (kI 0), .null, .null, .null, .null, .null, .null, (kI 0), (kI 0)]) :: (b, oB Z [.null, (kI 0), (kR vv), (kI (Int32.ofNat u)), (kR fa), (kR ac), (kR fc), (kR cm), (kR ft), (kR su), (kR pr), (kI 1), (kI 0), (kI 0), (kI 1), .null]) :: (ks, Ar Z .int 0 g_ks) :: (rgs, Ar Z .int 0 (cpy f8 g_rgs 0 0 0)) :: (ns, Ar Z .int 16 (upd g_ns 0 (kI (-1)))) :: (fch, Ar Z .int 17 (upd g_fch 1 (kI 1))) :: (fk, Ar Z .int 17 (upd g_fk 1 (kI 0))) :: (kl, Ar Z .int 16 (upd g_kl 0 (kI (-1)))) :: (frg, Ar Z .int 17 (upd g_frg 1 (kI 0))) :: (fac, Ar Z .int 17 (upd (upd g_fac 0 (kI 0)) 1 (kI 0))) :: (fcm, Ar Z .int 17 (upd (upd g_fcm 0 (kI 0)) 1 (kI 0))) :: (ftr, Ar Z .int 17 (upd (upd g_ftr 0 (kI 0)) 1 (kI 1))) :: (acs, Ar Z .int 16 (cpy f4 g_acs 0 0 0)) :: (cms, Ar Z .int 16 (cpy f5 g_cms 0 0 0)) :: (sus, Ar Z .int 64 (cpy f6 g_sus 0 0 1)) :: (prb, Ar Z .double 64 g_prb) :: (fa, Ar Z .int 2 f1) :: (fc, Ar Z .int 2 f2) :: (ft, Ar Z .int 2 f3) :: (ac, Ar Z .int 2 f4) :: (cm, Ar Z .int 2 f5) :: (su, Ar Z .int 4 f6) :: (pr, Ar Z .double 4 f7) :: (no, Ar Z .int 0 f8) :: (vv, Ar Z .double 4 g_vv) :: Rr) := W133q
  have K134 : Rc K0 T133 (mkF m 584 #[sR r, sR b, sR no, sI (-1), sI 0, sI 0, sI 1, sI 0, sI 0, sI 0, sI 0, sI 0, sI 0, sI 0, sI 1] [(kR r)]) := fun t k => K132 t (st133 t (by
    refine XS.iload X133.here hx rfl (hD 277 rfl) rfl ?_
    refine XS.ifYes X133.here hx rfl (pc0 := 546) (pc' := 583) rfl (hD 278 rfl) rfl (by decide) (by decide) (by decide) ?_
    refine XS.aloadN X133.here hx rfl (hD 297 rfl) rfl rfl ?_
    exact k))
  obtain ⟨T135, X135, e135, st135⟩ := getF X133 hx hZ hown (host := "") (Or.inl (hw _ (mi 107 rfl))) Via.refl e133 (W133.fld (i := 0) rfl (j := 15) rfl rfl) (g := K134.g) rfl rfl (hD 298 rfl)
  have K136 : Rc K0 T135 (mkF m 591 #[sR r, sR b, sR no, sI (-1), sI 0, sI 0, sI 1, sI 0, sI 0, sI 0, sI 0, sI 0, sI 0, sI 0, sI 1] [(kR r)]) := fun t k => K134 t (st135 t (by
    refine XS.ifnonnullNo X135.here hx rfl (hD 299 rfl) rfl ?_
    refine XS.aloadN X135.here hx rfl (hD 300 rfl) rfl rfl ?_
    exact k))
  have W137 : Wo n0 h133 ((r, oR Z [(kR ks), (kR rgs), (kR ns), (kR fch), (kR fk), (kR kl), (kR frg), (kR fac), (kR fcm), (kR ftr), (kR acs), (kR cms), (kR sus), (kR prb), (kI 1), .null, (kI 0), .null, .null, .null, .null, .null, .null, (kI 0), (kI 0)]) :: (prb, Ar Z .double 64 g_prb) :: (b, oB Z [.null, (kI 0), (kR vv), (kI (Int32.ofNat u)), (kR fa), (kR ac), (kR fc), (kR cm), (kR ft), (kR su), (kR pr), (kI 1), (kI 0), (kI 0), (kI 1), .null]) :: (ks, Ar Z .int 0 g_ks) :: (rgs, Ar Z .int 0 (cpy f8 g_rgs 0 0 0)) :: (ns, Ar Z .int 16 (upd g_ns 0 (kI (-1)))) :: (fch, Ar Z .int 17 (upd g_fch 1 (kI 1))) :: (fk, Ar Z .int 17 (upd g_fk 1 (kI 0))) :: (kl, Ar Z .int 16 (upd g_kl 0 (kI (-1)))) :: (frg, Ar Z .int 17 (upd g_frg 1 (kI 0))) :: (fac, Ar Z .int 17 (upd (upd g_fac 0 (kI 0)) 1 (kI 0))) :: (fcm, Ar Z .int 17 (upd (upd g_fcm 0 (kI 0)) 1 (kI 0))) :: (ftr, Ar Z .int 17 (upd (upd g_ftr 0 (kI 0)) 1 (kI 1))) :: (acs, Ar Z .int 16 (cpy f4 g_acs 0 0 0)) :: (cms, Ar Z .int 16 (cpy f5 g_cms 0 0 0)) :: (sus, Ar Z .int 64 (cpy f6 g_sus 0 0 1)) :: (fa, Ar Z .int 2 f1) :: (fc, Ar Z .int 2 f2) :: (ft, Ar Z .int 2 f3) :: (ac, Ar Z .int 2 f4) :: (cm, Ar Z .int 2 f5) :: (su, Ar Z .int 4 f6) :: (pr, Ar Z .double 4 f7) :: (no, Ar Z .int 0 f8) :: (vv, Ar Z .double 4 g_vv) :: Rr) := Wo.pick W133 [0, 15, 1, 2, 3, 4, 5, 6, 7, 8, 9, 10, 11, 12, 13, 14, 16, 17, 18, 19, 20, 21, 22, 23, 24] 25 (by decide +kernel) rfl
  obtain ⟨cq138, q138, q138'⟩ := (W137.exa (i := 0) rfl).cell
  obtain ⟨_, _, ⟨T138, L138, k138, n138⟩, -, X138, ⟨Lc138, hQ138, l138, y138, z138⟩, st138⟩ := Jvm.OwnKit.privB X135 hx (y := y_sr) hown (mvT hZ (hw _ (mi 123 rfl))) (mvT hZ (hw _ (mi 124 rfl))) (mvT hZ (hw _ (mi 8 rfl))) (Cond.privateMethod_at (mvP hZ (hw _ (mi 125 rfl)) (args := #[]))) (mvT hZ (hw _ (mi 126 rfl))) (by decide) (backOf (W := 0) (rmSR0 l Z a0 hw [] r ks rgs ns fch fk kl frg fac fcm ftr acs cms sus prb (1 : Int32) g_prb ((b, oB Z [.null, (kI 0), (kR vv), (kI (Int32.ofNat u)), (kR fa), (kR ac), (kR fc), (kR cm), (kR ft), (kR su), (kR pr), (kI 1), (kI 0), (kI 0), (kI 1), .null]) :: (ks, Ar Z .int 0 g_ks) :: (rgs, Ar Z .int 0 (cpy f8 g_rgs 0 0 0)) :: (ns, Ar Z .int 16 (upd g_ns 0 (kI (-1)))) :: (fch, Ar Z .int 17 (upd g_fch 1 (kI 1))) :: (fk, Ar Z .int 17 (upd g_fk 1 (kI 0))) :: (kl, Ar Z .int 16 (upd g_kl 0 (kI (-1)))) :: (frg, Ar Z .int 17 (upd g_frg 1 (kI 0))) :: (fac, Ar Z .int 17 (upd (upd g_fac 0 (kI 0)) 1 (kI 0))) :: (fcm, Ar Z .int 17 (upd (upd g_fcm 0 (kI 0)) 1 (kI 0))) :: (ftr, Ar Z .int 17 (upd (upd g_ftr 0 (kI 0)) 1 (kI 1))) :: (acs, Ar Z .int 16 (cpy f4 g_acs 0 0 0)) :: (cms, Ar Z .int 16 (cpy f5 g_cms 0 0 0)) :: (sus, Ar Z .int 64 (cpy f6 g_sus 0 0 1)) :: (fa, Ar Z .int 2 f1) :: (fc, Ar Z .int 2 f2) :: (ft, Ar Z .int 2 f3) :: (ac, Ar Z .int 2 f4) :: (cm, Ar Z .int 2 f5) :: (su, Ar Z .int 4 f6) :: (pr, Ar Z .double 4 f7) :: (no, Ar Z .int 0 f8) :: (vv, Ar Z .double 4 g_vv) :: Rr) h133 n0 W137) hZ (hw _ (mi 126 rfl)) (hw _ (mi 9 rfl)) (by decide) (by decide)) (g := K136.g) rfl (by rw [hml]; rfl) (Steps.refl _) (a := r) (by rw [e135]; exact q138) q138' (argsL := []) (rest := []) (lenOf pd_sr rfl) rfl (by show 2 * 0 + _ ≤ _; exact Nat.le_of_eq rfl) (hD 301 rfl) (fun _ _ => ⟨rfl, e135, (by decide : 0 + 8 ≤ _), (by decide : 0 + 92 ≤ _)⟩)
  dsimp only [Pt.U, Pt.locs, Pt.cells, Pt.slots] at X138 l138 y138 z138 st138 hQ138
  subst l138 y138 z138
  obtain ⟨a36_138, a26_138, a21_138, a18_138, a15_138, a12_138, a9_138, a6_138, rfl, N138q, W138⟩ := hQ138
  have N138 := Fr.app N133 N138q
  have K139 : Rc K0 T138 (mkF m 596 #[sR r, sR b, sR no, sI (-1), sI 0, sI 0, sI 1, sI 0, sI 0, sI 0, sI 0, sI 0, sI 0, sI 0, sI 1] [(kR r), (kR r)]) := fun t k => K136 t (st138.trans (by
    refine XS.aloadN X138.here hx rfl (hD 302 rfl) rfl rfl ?_
    refine XS.aloadN X138.here hx rfl (hD 303 rfl) rfl rfl ?_
    exact k))
  obtain ⟨T140, X140, e140, st140⟩ := getF X138 hx hZ hown (host := "") (Or.inl (hw _ (mi 107 rfl))) Via.refl (rfl : T138.heap = T138.heap) (W138.fld (i := 8) rfl (j := 15) rfl rfl) (g := K139.g) rfl rfl (hD 304 rfl)
  have K141 : Rc K0 T140 (mkF m 600 #[sR r, sR b, sR no, sI (-1), sI 0, sI 0, sI 1, sI 0, sI 0, sI 0, sI 0, sI 0, sI 0, sI 0, sI 1] [(kR r), (kR a6_138), (kR r)]) := fun t k => K139 t (st140 t (XS.aloadN X140.here hx rfl (hD 305 rfl) rfl rfl k))
  obtain ⟨T142, X142, e142, st142⟩ := getF X140 hx hZ hown (host := "") (Or.inl (hw _ (mi 103 rfl))) Via.refl e140 (W138.fld (i := 8) rfl (j := 14) rfl rfl) (g := K141.g) rfl rfl (hD 306 rfl)
  have W143 : Wo n0 T138.heap ((a6_138, Ar Z .int 4 zI) :: (a36_138, Ar Z .double 64 zD) :: (a26_138, Pg Z .double 4 (upd (upd zN 0 (kR prb)) 1 (kR a36_138))) :: (a21_138, Ar Z .int 4 zI) :: (a18_138, Ar Z .int 4 zI) :: (a15_138, Ar Z .int 4 zI) :: (a12_138, Ar Z .int 4 zI) :: (a9_138, Ar Z .int 4 zI) :: (r, oR Z [(kR ks), (kR rgs), (kR ns), (kR fch), (kR fk), (kR kl), (kR frg), (kR fac), (kR fcm), (kR ftr), (kR acs), (kR cms), (kR sus), (kR prb), (kI 1), (kR a6_138), (kI 0), (kR a9_138), (kR a12_138), (kR a15_138), (kR a18_138), (kR a21_138), (kR a26_138), (kI 2), (kI 0)]) :: (prb, Ar Z .double 64 g_prb) :: (b, oB Z [.null, (kI 0), (kR vv), (kI (Int32.ofNat u)), (kR fa), (kR ac), (kR fc), (kR cm), (kR ft), (kR su), (kR pr), (kI 1), (kI 0), (kI 0), (kI 1), .null]) :: (ks, Ar Z .int 0 g_ks) :: (rgs, Ar Z .int 0 (cpy f8 g_rgs 0 0 0)) :: (ns, Ar Z .int 16 (upd g_ns 0 (kI (-1)))) :: (fch, Ar Z .int 17 (upd g_fch 1 (kI 1))) :: (fk, Ar Z .int 17 (upd g_fk 1 (kI 0))) :: (kl, Ar Z .int 16 (upd g_kl 0 (kI (-1)))) :: (frg, Ar Z .int 17 (upd g_frg 1 (kI 0))) :: (fac, Ar Z .int 17 (upd (upd g_fac 0 (kI 0)) 1 (kI 0))) :: (fcm, Ar Z .int 17 (upd (upd g_fcm 0 (kI 0)) 1 (kI 0))) :: (ftr, Ar Z .int 17 (upd (upd g_ftr 0 (kI 0)) 1 (kI 1))) :: (acs, Ar Z .int 16 (cpy f4 g_acs 0 0 0)) :: (cms, Ar Z .int 16 (cpy f5 g_cms 0 0 0)) :: (sus, Ar Z .int 64 (cpy f6 g_sus 0 0 1)) :: (fa, Ar Z .int 2 f1) :: (fc, Ar Z .int 2 f2) :: (ft, Ar Z .int 2 f3) :: (ac, Ar Z .int 2 f4) :: (cm, Ar Z .int 2 f5) :: (su, Ar Z .int 4 f6) :: (pr, Ar Z .double 4 f7) :: (no, Ar Z .int 0 f8) :: (vv, Ar Z .double 4 g_vv) :: Rr) := Wo.pick W138 [7, 0, 1, 2, 3, 4, 5, 6, 8, 9, 10, 11, 12, 13, 14, 15, 16, 17, 18, 19, 20, 21, 22, 23, 24, 25, 26, 27, 28, 29, 30, 31, 32] 33 (by decide +kernel) rfl
  obtain ⟨_, _, ⟨T144, L144, k144, n144⟩, -, X144, ⟨Lc144, hQ144, l144, y144, z144⟩, st144⟩ := Jvm.LawKit.callS X142 hx (y := y_rm) hown (mvT hZ (hw _ (mi 172 rfl))) (mvT hZ (hw _ (mi 173 rfl))) (mvT hZ (hw _ (mi 9 rfl))) (mvT hZ (hw _ (mi 174 rfl))) (by decide) (backOf (W := 1) (rmRM1 l Z a0 hw [] a6_138 zI ((a36_138, Ar Z .double 64 zD) :: (a26_138, Pg Z .double 4 (upd (upd zN 0 (kR prb)) 1 (kR a36_138))) :: (a21_138, Ar Z .int 4 zI) :: (a18_138, Ar Z .int 4 zI) :: (a15_138, Ar Z .int 4 zI) :: (a12_138, Ar Z .int 4 zI) :: (a9_138, Ar Z .int 4 zI) :: (r, oR Z [(kR ks), (kR rgs), (kR ns), (kR fch), (kR fk), (kR kl), (kR frg), (kR fac), (kR fcm), (kR ftr), (kR acs), (kR cms), (kR sus), (kR prb), (kI 1), (kR a6_138), (kI 0), (kR a9_138), (kR a12_138), (kR a15_138), (kR a18_138), (kR a21_138), (kR a26_138), (kI 2), (kI 0)]) :: (prb, Ar Z .double 64 g_prb) :: (b, oB Z [.null, (kI 0), (kR vv), (kI (Int32.ofNat u)), (kR fa), (kR ac), (kR fc), (kR cm), (kR ft), (kR su), (kR pr), (kI 1), (kI 0), (kI 0), (kI 1), .null]) :: (ks, Ar Z .int 0 g_ks) :: (rgs, Ar Z .int 0 (cpy f8 g_rgs 0 0 0)) :: (ns, Ar Z .int 16 (upd g_ns 0 (kI (-1)))) :: (fch, Ar Z .int 17 (upd g_fch 1 (kI 1))) :: (fk, Ar Z .int 17 (upd g_fk 1 (kI 0))) :: (kl, Ar Z .int 16 (upd g_kl 0 (kI (-1)))) :: (frg, Ar Z .int 17 (upd g_frg 1 (kI 0))) :: (fac, Ar Z .int 17 (upd (upd g_fac 0 (kI 0)) 1 (kI 0))) :: (fcm, Ar Z .int 17 (upd (upd g_fcm 0 (kI 0)) 1 (kI 0))) :: (ftr, Ar Z .int 17 (upd (upd g_ftr 0 (kI 0)) 1 (kI 1))) :: (acs, Ar Z .int 16 (cpy f4 g_acs 0 0 0)) :: (cms, Ar Z .int 16 (cpy f5 g_cms 0 0 0)) :: (sus, Ar Z .int 64 (cpy f6 g_sus 0 0 1)) :: (fa, Ar Z .int 2 f1) :: (fc, Ar Z .int 2 f2) :: (ft, Ar Z .int 2 f3) :: (ac, Ar Z .int 2 f4) :: (cm, Ar Z .int 2 f5) :: (su, Ar Z .int 4 f6) :: (pr, Ar Z .double 4 f7) :: (no, Ar Z .int 0 f8) :: (vv, Ar Z .double 4 g_vv) :: Rr) T138.heap n0 W143) hZ (hw _ (mi 174 rfl)) (hw _ (mi 9 rfl)) (by decide) (by decide)) (g := (mkF m 603 #[sR r, sR b, sR no, sI (-1), sI 0, sI 0, sI 1, sI 0, sI 0, sI 0, sI 0, sI 0, sI 0, sI 0, sI 1] [(kI 1), (kR a6_138), (kR r)])) rfl (by rw [hml]; rfl) (argsL := [(.ref a6_138), (.int (1 : Int32))]) (rest := [(.ref r)]) (lenOf pd_rm rfl) rfl (by show 2 * 0 + _ ≤ _; exact Nat.le_of_eq rfl) (hD 307 rfl) (fun _ _ => ⟨rfl, e142, (by decide : 8 + 0 ≤ _), (by decide : 92 + 0 ≤ _)⟩)
  dsimp only [Pt.U, Pt.locs, Pt.cells, Pt.slots] at X144 l144 y144 z144 st144 hQ144
  subst l144 y144 z144
  obtain ⟨rfl, N144q, W144⟩ := hQ144
  have N144 := Fr.app N138 N144q
  obtain ⟨T145, h145, L145, X145, e145, N145, W145q, st145⟩ := putW X144 hx hZ hown (host := "") (Or.inl (hw _ (mi 107 rfl))) (rfl : T144.heap = T144.heap) W144 N144 (own_dR hw) (Or.inl (hw _ (mi 108 rfl))) (hw _ (mi 8 rfl)) (ty := (.array .int)) (by decide +kernel) (i := 8) (a := r) rfl (j := 15) rfl rfl (v := (.ref a6_138)) rfl rfl (g := (mkF m 606 #[sR r, sR b, sR no, sI (-1), sI 0, sI 0, sI 1, sI 0, sI 0, sI 0, sI 0, sI 0, sI 0, sI 0, sI 1] [(kR a6_138), (kR r)])) rfl rfl (hD 308 rfl)
  have K146 : Rc K0 T145 (mkF m 609 #[sR r, sR b, sR no, sI (-1), sI 0, sI 0, sI 1, sI 0, sI 0, sI 0, sI 0, sI 0, sI 0, sI 0, sI 1] []) := fun t k => K141 t (st142 t (st144 t (st145 t (k))))
  have K147 : Rc K0 T145 (mkF m 610 #[sR r, sR b, sR no, sI (-1), sI 0, sI 0, sI 1, sI 0, sI 0, sI 0, sI 0, sI 0, sI 0, sI 0, sI 1] [(kR r)]) := fun t k => K146 t (XS.aloadN X145.here hx rfl (hD 309 rfl) rfl rfl k)
  obtain ⟨T148, X148, e148, st148⟩ := getF X145 hx hZ hown (host := "") (Or.inl (hw _ (mi 107 rfl))) Via.refl e145 (W145q.fld (i := 8) rfl (j := 15) rfl rfl) (g := K147.g) rfl rfl (hD 310 rfl)
  have K149 : Rc K0 T148 (mkF m 616 #[sR r, sR b, sR no, sI (-1), sI 0, sI 0, sI 1, sI 0, sI 0, sI 0, sI 0, sI 0, sI 0, sI 0, sI 1] [(kI (-1)), (kI 0), (kR a6_138)]) := fun t k => K147 t (st148 t (by
    refine XS.iload X148.here hx rfl (hD 311 rfl) rfl ?_
    refine XS.iconst X148.here hx rfl (hD 312 rfl) ?_
    exact k))
  obtain ⟨T150, h150, L150, X150, e150, N150, W150q, st150⟩ := iasW X148 hx hZ e148 W145q N145 (i := 0) (a := a6_138) rfl (j := (0 : Int32)) (x := (-1 : Int32)) (k := 0) (by decide) (by decide) (by decide) (g := K149.g) rfl rfl (hD 313 rfl)
  have K151 : Rc K0 T150 (mkF m 621 #[sR r, sR b, sR no, sI (-1), sI 0, sI 0, sI 1, sI 0, sI 0, sI 0, sI 0, sI 0, sI 0, sI 0, sI 1] [(kR b), (kI 0), (kR r)]) := fun t k => K149 t (st150 t (by
    refine XS.aloadN X150.here hx rfl (hD 314 rfl) rfl rfl ?_
    refine XS.iload X150.here hx rfl (hD 315 rfl) rfl ?_
    refine XS.aloadN X150.here hx rfl (hD 316 rfl) rfl rfl ?_
    exact k))
  obtain ⟨T152, X152, e152, st152⟩ := getR X150 hx hZ hown (hw _ (mi 175 rfl)) e150 (W150q.fld (i := 10) rfl (j := 2) rfl rfl) (g := K151.g) rfl rfl (hD 317 rfl)
  have K153 : Rc K0 T152 (mkF m 625 #[sR r, sR b, sR no, sI (-1), sI 0, sI 0, sI 1, sI 0, sI 0, sI 0, sI 0, sI 0, sI 0, sI 0, sI 1] [(kR b), (kR vv), (kI 0), (kR r)]) := fun t k => K151 t (st152 t (XS.aloadN X152.here hx rfl (hD 318 rfl) rfl rfl k))
  obtain ⟨T154, X154, e154, st154⟩ := getR X152 hx hZ hown (hw _ (mi 109 rfl)) e152 (W150q.fld (i := 10) rfl (j := 3) rfl rfl) (g := K153.g) rfl rfl (hD 319 rfl)
  have K155 : Rc K0 T154 (mkF m 629 #[sR r, sR b, sR no, sI (-1), sI 0, sI 0, sI 1, sI 0, sI 0, sI 0, sI 0, sI 0, sI 0, sI 0, sI 1] [(kR b), (kI (Int32.ofNat u)), (kR vv), (kI 0), (kR r)]) := fun t k => K153 t (st154 t (XS.aloadN X154.here hx rfl (hD 320 rfl) rfl rfl k))
  obtain ⟨T156, X156, e156, st156⟩ := getR X154 hx hZ hown (hw _ (mi 176 rfl)) e154 (W150q.fld (i := 10) rfl (j := 10) rfl rfl) (g := K155.g) rfl rfl (hD 321 rfl)
  have W157 : Wo n0 h150 ((r, oR Z [(kR ks), (kR rgs), (kR ns), (kR fch), (kR fk), (kR kl), (kR frg), (kR fac), (kR fcm), (kR ftr), (kR acs), (kR cms), (kR sus), (kR prb), (kI 1), (kR a6_138), (kI 0), (kR a9_138), (kR a12_138), (kR a15_138), (kR a18_138), (kR a21_138), (kR a26_138), (kI 2), (kI 0)]) :: (ftr, Ar Z .int 17 (upd (upd g_ftr 0 (kI 0)) 1 (kI 1))) :: (fch, Ar Z .int 17 (upd g_fch 1 (kI 1))) :: (a26_138, Pg Z .double 4 (upd (upd zN 0 (kR prb)) 1 (kR a36_138))) :: (a36_138, Ar Z .double 64 zD) :: (a6_138, Ar Z .int 4 (upd zI 0 (kI (-1)))) :: (a9_138, Ar Z .int 4 zI) :: (a12_138, Ar Z .int 4 zI) :: (a15_138, Ar Z .int 4 zI) :: (a18_138, Ar Z .int 4 zI) :: (a21_138, Ar Z .int 4 zI) :: (vv, Ar Z .double 4 g_vv) :: (pr, Ar Z .double 4 f7) :: (prb, Ar Z .double 64 g_prb) :: (b, oB Z [.null, (kI 0), (kR vv), (kI (Int32.ofNat u)), (kR fa), (kR ac), (kR fc), (kR cm), (kR ft), (kR su), (kR pr), (kI 1), (kI 0), (kI 0), (kI 1), .null]) :: (ks, Ar Z .int 0 g_ks) :: (rgs, Ar Z .int 0 (cpy f8 g_rgs 0 0 0)) :: (ns, Ar Z .int 16 (upd g_ns 0 (kI (-1)))) :: (fk, Ar Z .int 17 (upd g_fk 1 (kI 0))) :: (kl, Ar Z .int 16 (upd g_kl 0 (kI (-1)))) :: (frg, Ar Z .int 17 (upd g_frg 1 (kI 0))) :: (fac, Ar Z .int 17 (upd (upd g_fac 0 (kI 0)) 1 (kI 0))) :: (fcm, Ar Z .int 17 (upd (upd g_fcm 0 (kI 0)) 1 (kI 0))) :: (acs, Ar Z .int 16 (cpy f4 g_acs 0 0 0)) :: (cms, Ar Z .int 16 (cpy f5 g_cms 0 0 0)) :: (sus, Ar Z .int 64 (cpy f6 g_sus 0 0 1)) :: (fa, Ar Z .int 2 f1) :: (fc, Ar Z .int 2 f2) :: (ft, Ar Z .int 2 f3) :: (ac, Ar Z .int 2 f4) :: (cm, Ar Z .int 2 f5) :: (su, Ar Z .int 4 f6) :: (no, Ar Z .int 0 f8) :: Rr) := Wo.pick W150q [8, 20, 14, 2, 1, 0, 7, 6, 5, 4, 3, 32, 30, 9, 10, 11, 12, 13, 15, 16, 17, 18, 19, 21, 22, 23, 24, 25, 26, 27, 28, 29, 31] 33 (by decide +kernel) rfl
  obtain ⟨cq158, q158, q158'⟩ := (W157.exa (i := 0) rfl).cell
  obtain ⟨_, _, ⟨T158, L158, k158, n158⟩, -, X158, ⟨Lc158, hQ158, l158, y158, z158⟩, st158⟩ := Jvm.OwnKit.privB X156 hx (y := y_pl) hown (mvT hZ (hw _ (mi 177 rfl))) (mvT hZ (hw _ (mi 178 rfl))) (mvT hZ (hw _ (mi 8 rfl))) (Cond.privateMethod_at (mvP hZ (hw _ (mi 179 rfl)) (args := #[]))) (mvT hZ (hw _ (mi 180 rfl))) (by decide) (backOf (W := 0) (rmPL00 l Z a0 hw [] r ks rgs ns fch fk kl frg fac fcm ftr acs cms sus prb a6_138 a9_138 a12_138 a15_138 a18_138 a21_138 a26_138 a36_138 vv pr u (upd (upd g_ftr 0 (kI 0)) 1 (kI 1)) (upd g_fch 1 (kI 1)) (upd (upd zN 0 (kR prb)) 1 (kR a36_138)) zD (upd zI 0 (kI (-1))) zI zI zI zI zI g_vv f7 ((prb, Ar Z .double 64 g_prb) :: (b, oB Z [.null, (kI 0), (kR vv), (kI (Int32.ofNat u)), (kR fa), (kR ac), (kR fc), (kR cm), (kR ft), (kR su), (kR pr), (kI 1), (kI 0), (kI 0), (kI 1), .null]) :: (ks, Ar Z .int 0 g_ks) :: (rgs, Ar Z .int 0 (cpy f8 g_rgs 0 0 0)) :: (ns, Ar Z .int 16 (upd g_ns 0 (kI (-1)))) :: (fk, Ar Z .int 17 (upd g_fk 1 (kI 0))) :: (kl, Ar Z .int 16 (upd g_kl 0 (kI (-1)))) :: (frg, Ar Z .int 17 (upd g_frg 1 (kI 0))) :: (fac, Ar Z .int 17 (upd (upd g_fac 0 (kI 0)) 1 (kI 0))) :: (fcm, Ar Z .int 17 (upd (upd g_fcm 0 (kI 0)) 1 (kI 0))) :: (acs, Ar Z .int 16 (cpy f4 g_acs 0 0 0)) :: (cms, Ar Z .int 16 (cpy f5 g_cms 0 0 0)) :: (sus, Ar Z .int 64 (cpy f6 g_sus 0 0 1)) :: (fa, Ar Z .int 2 f1) :: (fc, Ar Z .int 2 f2) :: (ft, Ar Z .int 2 f3) :: (ac, Ar Z .int 2 f4) :: (cm, Ar Z .int 2 f5) :: (su, Ar Z .int 4 f6) :: (no, Ar Z .int 0 f8) :: Rr) h150 n0 W157 (by omega) (by omega) rfl rfl h_fch rfl rfl rfl) hZ (hw _ (mi 180 rfl)) (hw _ (mi 9 rfl)) (by decide) (by decide)) (g := (mkF m 632 #[sR r, sR b, sR no, sI (-1), sI 0, sI 0, sI 1, sI 0, sI 0, sI 0, sI 0, sI 0, sI 0, sI 0, sI 1] [(kR pr), (kI (Int32.ofNat u)), (kR vv), (kI 0), (kR r)])) rfl (by rw [hml]; rfl) (Steps.refl _) (a := r) (by rw [e156]; exact q158) q158' (argsL := [(.int (0 : Int32)), (.ref vv), (.int (Int32.ofNat u)), (.ref pr)]) (rest := []) (lenOf pd_pl rfl) rfl (by show 2 * 0 + _ ≤ _; exact Nat.le_of_eq rfl) (hD 322 rfl) (fun _ _ => ⟨rfl, e156, (by decide : 8 + 0 ≤ _), (by decide : 92 + 0 ≤ _)⟩)
  dsimp only [Pt.U, Pt.locs, Pt.cells, Pt.slots] at X158 l158 y158 z158 st158 hQ158
  subst l158 y158 z158
  obtain ⟨rfl, N158q, W158⟩ := hQ158
  have N158 := Fr.app N150 N158q
  have K159 : Rc K0 T158 (mkF m 639 #[sR r, sR b, sR no, sI (-1), sI 0, sI 0, sI 1, sI 0, sI 0, sI 0, sI 0, sI 0, sI 0, sI 0, sI 0] [(kI 0)]) := fun t k => K155 t (st156 t (st158.trans (by
    refine XS.istore X158.here hx rfl (hD 323 rfl) rfl (l' := #[sR r, sR b, sR no, sI (-1), sI 0, sI 0, sI 1, sI 0, sI 0, sI 0, sI 0, sI 0, sI 0, sI 0, sI 0]) rfl ?_
    refine XS.iload X158.here hx rfl (hD 324 rfl) rfl ?_
    exact k)))
  obtain ⟨fs, hr, hrun, hended, hWm, hsame⟩ := X158.leave (v := some (.int (0 : Int32))) (fun h => by rw [Bd.returns] at h; cases h)
  refine ⟨_, _, pre0 _ (K159 _ (retI X158 hx Bd.returns (hD 325 rfl) hr)), hrun, hended, _, _, rfl, ?_, ⟨_, rfl⟩, hWm, hsame.mono (by decide) (by decide)⟩
  show QrmADV0 Z r ks rgs ns fch fk kl frg fac fcm ftr acs cms sus prb b fa ac fc cm ft su pr no vv u g_ks g_rgs g_ns g_fch g_fk g_kl g_frg g_fac g_fcm g_ftr g_acs g_cms g_sus g_prb f1 f2 f3 f4 f5 f6 f7 f8 g_vv Rr n0 _ T158.heap _
  exact ⟨a26_138, a36_138, a6_138, a9_138, a12_138, a15_138, a18_138, a21_138, rfl, N158, W158⟩
theorem ef_rmADV1 (m : MethodId) (r ks rgs ns fch fk kl frg fac fcm ftr acs cms sus prb : Addr) (b fa ac fc cm ft su pr : Addr) (no : Addr) (vv : Addr) (u : Nat) (g_ks g_rgs g_ns g_fch g_fk g_kl g_frg g_fac g_fcm g_ftr g_acs g_cms g_sus g_prb : Nat → Value) (f1 f2 f3 f4 f5 f6 f7 f8 : Nat → Value) (g_vv : Nat → Value) : entryFrame m #[(.ref r), (.ref b), (.ref no), (.int (-1 : Int32))] 15 = mkF m 0 #[.val (.ref r), .val (.ref b), .val (.ref no), .val (.int (-1 : Int32)), .unset, .unset, .unset, .unset, .unset, .unset, .unset, .unset, .unset, .unset, .unset] [] := by first | (simp [entryFrame, mkF, argsToLocals, Value.category]; done) | rfl
def QrmADV1 (Z : State) (r ks rgs ns fch fk kl frg fac fcm ftr acs cms sus prb : Addr) (b fa ac fc cm ft su pr : Addr) (no : Addr) (vv : Addr) (u : Nat) (g_ks g_rgs g_ns g_fch g_fk g_kl g_frg g_fac g_fcm g_ftr g_acs g_cms g_sus g_prb : Nat → Value) (f1 f2 f3 f4 f5 f6 f7 f8 : Nat → Value) (g_vv : Nat → Value) (Rr : List (Addr × (Cell → Prop))) (n0 : Nat) (v : Option Value) (h : Heap) (L : List Loc) : Prop := ∃ a40_138 a50_138 a6_138 a9_138 a12_138 a15_138 a18_138 a21_138, v = some (.int (1 : Int32)) ∧ Fr n0 L ∧ Wo n0 h ((r, oR Z [(kR ks), (kR rgs), (kR ns), (kR fch), (kR fk), (kR kl), (kR frg), (kR fac), (kR fcm), (kR ftr), (kR acs), (kR cms), (kR sus), (kR prb), (kI 2), (kR a6_138), (kI 2), (kR a9_138), (kR a12_138), (kR a15_138), (kR a18_138), (kR a21_138), (kR a40_138), (kI 2), (kI (Int32.ofNat (u + 1)))]) :: (ftr, Ar Z .int 17 (upd (upd g_ftr 1 (kI 1)) 2 (kI 2))) :: (fch, Ar Z .int 17 (upd g_fch 2 (kI 2))) :: (a40_138, Pg Z .double 4 (upd (upd zN 0 (kR prb)) 1 (kR a50_138))) :: (a50_138, Ar Z .double 64 (cpy f7 (cpy g_vv zD 0 0 u) 0 u 1)) :: (a6_138, Ar Z .int 4 (upd (upd (upd zI 0 (kI 0)) 1 (kI (-1))) 1 (kI 1))) :: (a9_138, Ar Z .int 4 (upd (upd zI 0 (kI 0)) 1 (kI 1))) :: (a12_138, Ar Z .int 4 (upd (upd zI 0 (kI (-1))) 1 (kI (-1)))) :: (a15_138, Ar Z .int 4 (upd zI 1 (kI 1))) :: (a18_138, Ar Z .int 4 (upd zI 1 (kI ((Int32.ofNat u) - (1 : Int32))))) :: (a21_138, Ar Z .int 4 (upd zI 1 (kI (Int32.ofNat u)))) :: (vv, Ar Z .double 4 g_vv) :: (pr, Ar Z .double 4 f7) :: (prb, Ar Z .double 64 g_prb) :: (b, oB Z [.null, (kI 0), (kR vv), (kI (Int32.ofNat u)), (kR fa), (kR ac), (kR fc), (kR cm), (kR ft), (kR su), (kR pr), (kI 1), (kI 0), (kI 0), (kI 1), .null]) :: (ks, Ar Z .int 0 g_ks) :: (rgs, Ar Z .int 0 (cpy f8 g_rgs 0 0 0)) :: (ns, Ar Z .int 16 (upd g_ns 1 (kI (-1)))) :: (fk, Ar Z .int 17 (upd g_fk 2 (kI 0))) :: (kl, Ar Z .int 16 (upd g_kl 1 (kI (-1)))) :: (frg, Ar Z .int 17 (upd g_frg 2 (kI 0))) :: (fac, Ar Z .int 17 (upd (upd g_fac 1 (kI 0)) 2 (kI 0))) :: (fcm, Ar Z .int 17 (upd (upd g_fcm 1 (kI 0)) 2 (kI 0))) :: (acs, Ar Z .int 16 (cpy f4 g_acs 0 0 0)) :: (cms, Ar Z .int 16 (cpy f5 g_cms 0 0 0)) :: (sus, Ar Z .int 64 (cpy f6 g_sus 0 1 1)) :: (fa, Ar Z .int 2 f1) :: (fc, Ar Z .int 2 f2) :: (ft, Ar Z .int 2 f3) :: (ac, Ar Z .int 2 f4) :: (cm, Ar Z .int 2 f5) :: (su, Ar Z .int 4 f6) :: (no, Ar Z .int 0 f8) :: Rr)
set_option maxRecDepth 65536 in
set_option maxHeartbeats 40000000 in
theorem rmADV1 (l : Launch) (Z : State) (a0 : Array Value) (hw : ∀ d ∈ tables_1, d.before a0 Z = true) (ws : List Jvm.Cond) (r ks rgs ns fch fk kl frg fac fcm ftr acs cms sus prb : Addr) (b fa ac fc cm ft su pr : Addr) (no : Addr) (vv : Addr) (u : Nat) (g_ks g_rgs g_ns g_fch g_fk g_kl g_frg g_fac g_fcm g_ftr g_acs g_cms g_sus g_prb : Nat → Value) (f1 f2 f3 f4 f5 f6 f7 f8 : Nat → Value) (g_vv : Nat → Value) (Rr : List (Addr × (Cell → Prop))) (h0 : Heap) (n0 : Nat) (W0 : Wo n0 h0 ((r, oR Z [(kR ks), (kR rgs), (kR ns), (kR fch), (kR fk), (kR kl), (kR frg), (kR fac), (kR fcm), (kR ftr), (kR acs), (kR cms), (kR sus), (kR prb), (kI 1), .null, (kI 1), .null, .null, .null, .null, .null, .null, (kI 0), (kI 0)]) :: (b, oB Z [.null, (kI 0), (kR vv), (kI (Int32.ofNat u)), (kR fa), (kR ac), (kR fc), (kR cm), (kR ft), (kR su), (kR pr), (kI 1), (kI 0), (kI 0), (kI 1), .null]) :: (ks, Ar Z .int 0 g_ks) :: (rgs, Ar Z .int 0 g_rgs) :: (ns, Ar Z .int 16 g_ns) :: (fch, Ar Z .int 17 g_fch) :: (fk, Ar Z .int 17 g_fk) :: (kl, Ar Z .int 16 g_kl) :: (frg, Ar Z .int 17 g_frg) :: (fac, Ar Z .int 17 g_fac) :: (fcm, Ar Z .int 17 g_fcm) :: (ftr, Ar Z .int 17 g_ftr) :: (acs, Ar Z .int 16 g_acs) :: (cms, Ar Z .int 16 g_cms) :: (sus, Ar Z .int 64 g_sus) :: (prb, Ar Z .double 64 g_prb) :: (fa, Ar Z .int 2 f1) :: (fc, Ar Z .int 2 f2) :: (ft, Ar Z .int 2 f3) :: (ac, Ar Z .int 2 f4) :: (cm, Ar Z .int 2 f5) :: (su, Ar Z .int 4 f6) :: (pr, Ar Z .double 4 f7) :: (no, Ar Z .int 0 f8) :: (vv, Ar Z .double 4 g_vv) :: Rr)) (hu1 : 1 ≤ u) (hu4 : u ≤ 4) (h_fch : g_fch 1 = (.int (1 : Int32))) (h_fk : g_fk 1 = (.int (0 : Int32))) (h_frg : g_frg 1 = (.int (0 : Int32))) (h_fac : g_fac 1 = (.int (0 : Int32))) (h_fcm : g_fcm 1 = (.int (0 : Int32))) (h_ftr : g_ftr 1 = (.int (1 : Int32))) (h_f1 : f1 0 = .int 0) (h_f2 : f2 0 = .int 0) (h_f3 : f3 0 = .int 0) :
    MetFree l y_add (head1 (Jvm.Cond.code y_add prog_87_method_2_code 15 (some .int) :: ws) ({ frames := 5, cells := 8, slots := 92, locals := 74 } : Room)) (fun aa U => aa = #[(.ref r), (.ref b), (.ref no), (.int (-1 : Int32))] ∧ Z.Warmed39 U.vm ∧ U.heap = h0) (fun _ _ _ _ _ => True) (fun _ U ou U' => ∃ v L, ou = .returned v ∧ QrmADV1 Z r ks rgs ns fch fk kl frg fac fcm ftr acs cms sus prb b fa ac fc cm ft su pr no vv u g_ks g_rgs g_ns g_fch g_fk g_kl g_frg g_fac g_fcm g_ftr g_acs g_cms g_sus g_prb f1 f2 f3 f4 f5 f6 f7 f8 g_vv Rr n0 v U'.heap L ∧ FrameEnd U ou U' L ({ frames := 5, cells := 8, slots := 92, locals := 74 } : Room).cells ({ frames := 5, cells := 8, slots := 92, locals := 74 } : Room).slots) := by
  refine MetFree.of_bodySF (plainFor_of_name pn_Rows) hisR ?_
  intro p e s m args below meth c s₁ Bd hml0 hP hK
  obtain ⟨rfl, hZ, hh⟩ := hP
  have hx := Bd.exec
  have hby := Bd.bytes
  have hml : c.maxLocals = 15 := hml0
  have hD : ∀ (k : Nat) {pc : Nat} {i : Instr} {n : Nat}, Ld_add[k]? = some (pc, i, n) → decode c.code pc = .ok (i, n) := by intro k pc i n h; exact hb hby (d_add (pc, i, n) (mi k h))
  have hown : s.vm.findClass "com/example/sambre/sambre/engine/Rows" = some m.cls := findClass_of_methodNamed Bd.named
  have hnm := (name_of_methodNamed Bd.named Bd.method).1
  have X0 : Stand p l e ({ frames := 5, cells := 8, slots := 92, locals := 74 } : Room) s m #[(.ref r), (.ref b), (.ref no), (.int (-1 : Int32))] below meth c s₁ [] 0 0 := Stand.of_body Bd
  have e0 : s₁.heap = h0 := by rw [← hh, Bd.state]; rfl
  have N0 := Fr.nil n0
  obtain ⟨F0, hF0⟩ : ∃ F, F = mkF m 0 #[.val (.ref r), .val (.ref b), .val (.ref no), .val (.int (-1 : Int32)), .unset, .unset, .unset, .unset, .unset, .unset, .unset, .unset, .unset, .unset, .unset] [] := ⟨_, rfl⟩
  have pre0 : ∀ t, Steps p.tables e below (s₁.setTop F0) t → Steps p.tables e below (s₁.setTop (entryFrame m #[(.ref r), (.ref b), (.ref no), (.int (-1 : Int32))] 15)) t := fun t k => castTop ((ef_rmADV1 m r ks rgs ns fch fk kl frg fac fcm ftr acs cms sus prb b fa ac fc cm ft su pr no vv u g_ks g_rgs g_ns g_fch g_fk g_kl g_frg g_fac g_fcm g_ftr g_acs g_cms g_sus g_prb f1 f2 f3 f4 f5 f6 f7 f8 g_vv).trans hF0.symm) k
  have K0 : Rch p e below s₁ F0 s₁ (mkF m 0 #[.val (.ref r), .val (.ref b), .val (.ref no), .val (.int (-1 : Int32)), .unset, .unset, .unset, .unset, .unset, .unset, .unset, .unset, .unset, .unset, .unset] []) := fun t k => castTop hF0 k
  have K1 : Rc K0 s₁ (mkF m 1 #[sR r, sR b, sR no, sI (-1), sU, sU, sU, sU, sU, sU, sU, sU, sU, sU, sU] [(kR r)]) := fun t k => K0 t (XS.aloadN X0.here hx rfl (hD 0 rfl) rfl rfl k)
  obtain ⟨T2, X2, e2, st2⟩ := getF X0 hx hZ hown (host := "") (Or.inl (hw _ (mi 103 rfl))) Via.refl e0 (W0.fld (i := 0) rfl (j := 14) rfl rfl) (g := K1.g) rfl rfl (hD 1 rfl)
  have K3 : Rc K0 T2 (mkF m 7 #[sR r, sR b, sR no, sI (-1), sI 1, sU, sU, sU, sU, sU, sU, sU, sU, sU, sU] [(kR r)]) := fun t k => K1 t (st2 t (by
    refine XS.istore X2.here hx rfl (hD 2 rfl) rfl (l' := #[sR r, sR b, sR no, sI (-1), sI 1, sU, sU, sU, sU, sU, sU, sU, sU, sU, sU]) rfl ?_
    refine XS.aloadN X2.here hx rfl (hD 3 rfl) rfl rfl ?_
    exact k))
  obtain ⟨T4, X4, e4, st4⟩ := getF X2 hx hZ hown (host := "") (Or.inl (hw _ (mi 22 rfl))) Via.refl e2 (W0.fld (i := 0) rfl (j := 3) rfl rfl) (g := K3.g) rfl rfl (hD 4 rfl)
  have K5 : Rc K0 T4 (mkF m 16 #[sR r, sR b, sR no, sI (-1), sI 1, sI 1, sU, sU, sU, sU, sU, sU, sU, sU, sU] [(kR b)]) := fun t k => K3 t (st4 t (by
    refine XS.iload X4.here hx rfl (hD 5 rfl) rfl ?_
    refine ialW X4 hx hZ e4 W0 (i := 5) rfl (j := (1 : Int32)) (k := 1) (by decide) (by decide) (by decide) (v := (.int (1 : Int32))) h_fch (g := (mkF m 12 #[sR r, sR b, sR no, sI (-1), sI 1, sU, sU, sU, sU, sU, sU, sU, sU, sU, sU] [(kI 1), (kR fch)])) rfl rfl (hD 6 rfl) _ ?_
    refine XS.istore X4.here hx rfl (hD 7 rfl) rfl (l' := #[sR r, sR b, sR no, sI (-1), sI 1, sI 1, sU, sU, sU, sU, sU, sU, sU, sU, sU]) rfl ?_
    refine XS.aloadN X4.here hx rfl (hD 8 rfl) rfl rfl ?_
    exact k))
  obtain ⟨T6, X6, e6, st6⟩ := getR X4 hx hZ hown (hw _ (mi 105 rfl)) e4 (W0.fld (i := 1) rfl (j := 11) rfl rfl) (g := K5.g) rfl rfl (hD 9 rfl)
  have K7 : Rc K0 T6 (mkF m 22 #[sR r, sR b, sR no, sI (-1), sI 1, sI 1, sI 1, sU, sU, sU, sU, sU, sU, sU, sU] [(kR r)]) := fun t k => K5 t (st6 t (by
    refine XS.istore X6.here hx rfl (hD 10 rfl) rfl (l' := #[sR r, sR b, sR no, sI (-1), sI 1, sI 1, sI 1, sU, sU, sU, sU, sU, sU, sU, sU]) rfl ?_
    refine XS.aloadN X6.here hx rfl (hD 11 rfl) rfl rfl ?_
    exact k))
  obtain ⟨T8, X8, e8, st8⟩ := getF X6 hx hZ hown (host := "") (Or.inl (hw _ (mi 30 rfl))) Via.refl e6 (W0.fld (i := 0) rfl (j := 7) rfl rfl) (g := K7.g) rfl rfl (hD 12 rfl)
  have K9 : Rc K0 T8 (mkF m 31 #[sR r, sR b, sR no, sI (-1), sI 1, sI 1, sI 1, sI 0, sU, sU, sU, sU, sU, sU, sU] [(kR r)]) := fun t k => K7 t (st8 t (by
    refine XS.iload X8.here hx rfl (hD 13 rfl) rfl ?_
    refine ialW X8 hx hZ e8 W0 (i := 9) rfl (j := (1 : Int32)) (k := 1) (by decide) (by decide) (by decide) (v := (.int (0 : Int32))) h_fac (g := (mkF m 27 #[sR r, sR b, sR no, sI (-1), sI 1, sI 1, sI 1, sU, sU, sU, sU, sU, sU, sU, sU] [(kI 1), (kR fac)])) rfl rfl (hD 14 rfl) _ ?_
    refine XS.istore X8.here hx rfl (hD 15 rfl) rfl (l' := #[sR r, sR b, sR no, sI (-1), sI 1, sI 1, sI 1, sI 0, sU, sU, sU, sU, sU, sU, sU]) rfl ?_
    refine XS.aloadN X8.here hx rfl (hD 16 rfl) rfl rfl ?_
    exact k))
  obtain ⟨T10, X10, e10, st10⟩ := getF X8 hx hZ hown (host := "") (Or.inl (hw _ (mi 32 rfl))) Via.refl e8 (W0.fld (i := 0) rfl (j := 8) rfl rfl) (g := K9.g) rfl rfl (hD 17 rfl)
  have K11 : Rc K0 T10 (mkF m 40 #[sR r, sR b, sR no, sI (-1), sI 1, sI 1, sI 1, sI 0, sI 0, sU, sU, sU, sU, sU, sU] [(kR r)]) := fun t k => K9 t (st10 t (by
    refine XS.iload X10.here hx rfl (hD 18 rfl) rfl ?_
    refine ialW X10 hx hZ e10 W0 (i := 10) rfl (j := (1 : Int32)) (k := 1) (by decide) (by decide) (by decide) (v := (.int (0 : Int32))) h_fcm (g := (mkF m 36 #[sR r, sR b, sR no, sI (-1), sI 1, sI 1, sI 1, sI 0, sU, sU, sU, sU, sU, sU, sU] [(kI 1), (kR fcm)])) rfl rfl (hD 19 rfl) _ ?_
    refine XS.istore X10.here hx rfl (hD 20 rfl) rfl (l' := #[sR r, sR b, sR no, sI (-1), sI 1, sI 1, sI 1, sI 0, sI 0, sU, sU, sU, sU, sU, sU]) rfl ?_
    refine XS.aloadN X10.here hx rfl (hD 21 rfl) rfl rfl ?_
    exact k))
  obtain ⟨T12, X12, e12, st12⟩ := getF X10 hx hZ hown (host := "") (Or.inl (hw _ (mi 34 rfl))) Via.refl e10 (W0.fld (i := 0) rfl (j := 9) rfl rfl) (g := K11.g) rfl rfl (hD 22 rfl)
  have K13 : Rc K0 T12 (mkF m 49 #[sR r, sR b, sR no, sI (-1), sI 1, sI 1, sI 1, sI 0, sI 0, sI 1, sU, sU, sU, sU, sU] [(kR r)]) := fun t k => K11 t (st12 t (by
    refine XS.iload X12.here hx rfl (hD 23 rfl) rfl ?_
    refine ialW X12 hx hZ e12 W0 (i := 11) rfl (j := (1 : Int32)) (k := 1) (by decide) (by decide) (by decide) (v := (.int (1 : Int32))) h_ftr (g := (mkF m 45 #[sR r, sR b, sR no, sI (-1), sI 1, sI 1, sI 1, sI 0, sI 0, sU, sU, sU, sU, sU, sU] [(kI 1), (kR ftr)])) rfl rfl (hD 24 rfl) _ ?_
    refine XS.istore X12.here hx rfl (hD 25 rfl) rfl (l' := #[sR r, sR b, sR no, sI (-1), sI 1, sI 1, sI 1, sI 0, sI 0, sI 1, sU, sU, sU, sU, sU]) rfl ?_
    refine XS.aloadN X12.here hx rfl (hD 26 rfl) rfl rfl ?_
    exact k))
  obtain ⟨T14, X14, e14, st14⟩ := getF X12 hx hZ hown (host := "") (Or.inl (hw _ (mi 24 rfl))) Via.refl e12 (W0.fld (i := 0) rfl (j := 4) rfl rfl) (g := K13.g) rfl rfl (hD 27 rfl)
  have K15 : Rc K0 T14 (mkF m 60 #[sR r, sR b, sR no, sI (-1), sI 1, sI 1, sI 1, sI 0, sI 0, sI 1, sI 0, sU, sU, sU, sU] [(kR b), (kI 0)]) := fun t k => K13 t (st14 t (by
    refine XS.iload X14.here hx rfl (hD 28 rfl) rfl ?_
    refine ialW X14 hx hZ e14 W0 (i := 6) rfl (j := (1 : Int32)) (k := 1) (by decide) (by decide) (by decide) (v := (.int (0 : Int32))) h_fk (g := (mkF m 54 #[sR r, sR b, sR no, sI (-1), sI 1, sI 1, sI 1, sI 0, sI 0, sI 1, sU, sU, sU, sU, sU] [(kI 1), (kR fk)])) rfl rfl (hD 29 rfl) _ ?_
    refine XS.istore X14.here hx rfl (hD 30 rfl) rfl (l' := #[sR r, sR b, sR no, sI (-1), sI 1, sI 1, sI 1, sI 0, sI 0, sI 1, sI 0, sU, sU, sU, sU]) rfl ?_
    refine XS.iload X14.here hx rfl (hD 31 rfl) rfl ?_
    refine XS.aloadN X14.here hx rfl (hD 32 rfl) rfl rfl ?_
    exact k))
  obtain ⟨T16, X16, e16, st16⟩ := getR X14 hx hZ hown (hw _ (mi 106 rfl)) e14 (W0.fld (i := 1) rfl (j := 0) rfl rfl) (g := K15.g) rfl rfl (hD 33 rfl)
  have K17 : Rc K0 T16 (mkF m 78 #[sR r, sR b, sR no, sI (-1), sI 1, sI 1, sI 1, sI 0, sI 0, sI 1, sI 0, sI 0, sU, sU, sU] [(kR r)]) := fun t k => K15 t (st16 t (by
    refine XS.ifnonnullNo X16.here hx rfl (hD 34 rfl) rfl ?_
    refine XS.iconst X16.here hx rfl (hD 35 rfl) ?_
    refine XS.goto X16.here hx rfl (pc0 := 67) (pc' := 74) rfl (hD 36 rfl) (by decide) (by decide) ?_
    refine XS.iadd X16.here hx rfl (hD 37 rfl) rfl ?_
    refine XS.istore X16.here hx rfl (hD 38 rfl) rfl (l' := #[sR r, sR b, sR no, sI (-1), sI 1, sI 1, sI 1, sI 0, sI 0, sI 1, sI 0, sI 0, sU, sU, sU]) rfl ?_
    refine XS.aloadN X16.here hx rfl (hD 39 rfl) rfl rfl ?_
    exact k))
  obtain ⟨T18, X18, e18, st18⟩ := getF X16 hx hZ hown (host := "") (Or.inl (hw _ (mi 28 rfl))) Via.refl e16 (W0.fld (i := 0) rfl (j := 6) rfl rfl) (g := K17.g) rfl rfl (hD 40 rfl)
  have K19 : Rc K0 T18 (mkF m 87 #[sR r, sR b, sR no, sI (-1), sI 1, sI 1, sI 1, sI 0, sI 0, sI 1, sI 0, sI 0, sI 0, sU, sU] [(kR r)]) := fun t k => K17 t (st18 t (by
    refine XS.iload X18.here hx rfl (hD 41 rfl) rfl ?_
    refine ialW X18 hx hZ e18 W0 (i := 8) rfl (j := (1 : Int32)) (k := 1) (by decide) (by decide) (by decide) (v := (.int (0 : Int32))) h_frg (g := (mkF m 83 #[sR r, sR b, sR no, sI (-1), sI 1, sI 1, sI 1, sI 0, sI 0, sI 1, sI 0, sI 0, sU, sU, sU] [(kI 1), (kR frg)])) rfl rfl (hD 42 rfl) _ ?_
    refine XS.istore X18.here hx rfl (hD 43 rfl) rfl (l' := #[sR r, sR b, sR no, sI (-1), sI 1, sI 1, sI 1, sI 0, sI 0, sI 1, sI 0, sI 0, sI 0, sU, sU]) rfl ?_
    refine XS.aloadN X18.here hx rfl (hD 44 rfl) rfl rfl ?_
    exact k))
  obtain ⟨T20, X20, e20, st20⟩ := getF X18 hx hZ hown (host := "") (Or.inl (hw _ (mi 107 rfl))) Via.refl e18 (W0.fld (i := 0) rfl (j := 15) rfl rfl) (g := K19.g) rfl rfl (hD 45 rfl)
  have K21 : Rc K0 T20 (mkF m 94 #[sR r, sR b, sR no, sI (-1), sI 1, sI 1, sI 1, sI 0, sI 0, sI 1, sI 0, sI 0, sI 0, sU, sU] [(kR b)]) := fun t k => K19 t (st20 t (by
    refine XS.ifnonnullNo X20.here hx rfl (hD 46 rfl) rfl ?_
    refine XS.aloadN X20.here hx rfl (hD 47 rfl) rfl rfl ?_
    exact k))
  obtain ⟨T22, X22, e22, st22⟩ := getR X20 hx hZ hown (hw _ (mi 109 rfl)) e20 (W0.fld (i := 1) rfl (j := 3) rfl rfl) (g := K21.g) rfl rfl (hD 48 rfl)
  have K23 : Rc K0 T22 (mkF m 110 #[sR r, sR b, sR no, sI (-1), sI 1, sI 1, sI 1, sI 0, sI 0, sI 1, sI 0, sI 0, sI 0, sI 0, sU] [(kR r), (kI 1)]) := fun t k => K21 t (st22 t (by
    refine XS.ifYes X22.here hx rfl (pc0 := 97) (pc' := 104) rfl (hD 49 rfl) rfl ((if0 _ _).trans (feq (own_ne (a := u) (b := 0) (by omega) (by omega) (by omega))).2) (by decide) (by decide) ?_
    refine XS.iconst X22.here hx rfl (hD 52 rfl) ?_
    refine XS.istore X22.here hx rfl (hD 53 rfl) rfl (l' := #[sR r, sR b, sR no, sI (-1), sI 1, sI 1, sI 1, sI 0, sI 0, sI 1, sI 0, sI 0, sI 0, sI 0, sU]) rfl ?_
    refine XS.iload X22.here hx rfl (hD 54 rfl) rfl ?_
    refine XS.aloadN X22.here hx rfl (hD 55 rfl) rfl rfl ?_
    exact k))
  obtain ⟨T24, X24, e24, st24⟩ := getF X22 hx hZ hown (host := "") (Or.inl (hw _ (mi 20 rfl))) Via.refl e22 (W0.fld (i := 0) rfl (j := 2) rfl rfl) (g := K23.g) rfl rfl (hD 56 rfl)
  have K25 : Rc K0 T24 (mkF m 122 #[sR r, sR b, sR no, sI (-1), sI 1, sI 1, sI 1, sI 0, sI 0, sI 1, sI 0, sI 0, sI 0, sI 0, sU] [(kR r), (kI 2)]) := fun t k => K23 t (st24 t (by
    refine lenW X24 hx hZ e24 W0 (i := 4) rfl (fun _ q => q) (z := (16 : Int32)) (by decide) (g := (mkF m 113 #[sR r, sR b, sR no, sI (-1), sI 1, sI 1, sI 1, sI 0, sI 0, sI 1, sI 0, sI 0, sI 0, sI 0, sU] [(kR ns), (kI 1)])) rfl rfl (hD 57 rfl) _ ?_
    refine XS.icmpNo X24.here hx rfl (hD 58 rfl) rfl (by decide) ?_
    refine XS.iload X24.here hx rfl (hD 59 rfl) rfl ?_
    refine XS.iconst X24.here hx rfl (hD 60 rfl) ?_
    refine XS.iadd X24.here hx rfl (hD 61 rfl) rfl ?_
    refine XS.aloadN X24.here hx rfl (hD 62 rfl) rfl rfl ?_
    exact k))
  obtain ⟨T26, X26, e26, st26⟩ := getF X24 hx hZ hown (host := "") (Or.inl (hw _ (mi 22 rfl))) Via.refl e24 (W0.fld (i := 0) rfl (j := 3) rfl rfl) (g := K25.g) rfl rfl (hD 63 rfl)
  have K27 : Rc K0 T26 (mkF m 135 #[sR r, sR b, sR no, sI (-1), sI 1, sI 1, sI 1, sI 0, sI 0, sI 1, sI 0, sI 0, sI 0, sI 0, sU] [(kR r), (kI 2)]) := fun t k => K25 t (st26 t (by
    refine lenW X26 hx hZ e26 W0 (i := 5) rfl (fun _ q => q) (z := (17 : Int32)) (by decide) (g := (mkF m 125 #[sR r, sR b, sR no, sI (-1), sI 1, sI 1, sI 1, sI 0, sI 0, sI 1, sI 0, sI 0, sI 0, sI 0, sU] [(kR fch), (kI 2)])) rfl rfl (hD 64 rfl) _ ?_
    refine XS.icmpNo X26.here hx rfl (hD 65 rfl) rfl (by decide) ?_
    refine XS.iload X26.here hx rfl (hD 66 rfl) rfl ?_
    refine XS.iload X26.here hx rfl (hD 67 rfl) rfl ?_
    refine XS.iadd X26.here hx rfl (hD 68 rfl) rfl ?_
    refine XS.aloadN X26.here hx rfl (hD 69 rfl) rfl rfl ?_
    exact k))
  obtain ⟨T28, X28, e28, st28⟩ := getF X26 hx hZ hown (host := "") (Or.inl (hw _ (mi 30 rfl))) Via.refl e26 (W0.fld (i := 0) rfl (j := 7) rfl rfl) (g := K27.g) rfl rfl (hD 70 rfl)
  have K29 : Rc K0 T28 (mkF m 145 #[sR r, sR b, sR no, sI (-1), sI 1, sI 1, sI 1, sI 0, sI 0, sI 1, sI 0, sI 0, sI 0, sI 0, sU] [(kR b), (kI 0)]) := fun t k => K27 t (st28 t (by
    refine lenW X28 hx hZ e28 W0 (i := 9) rfl (fun _ q => q) (z := (17 : Int32)) (by decide) (g := (mkF m 138 #[sR r, sR b, sR no, sI (-1), sI 1, sI 1, sI 1, sI 0, sI 0, sI 1, sI 0, sI 0, sI 0, sI 0, sU] [(kR fac), (kI 2)])) rfl rfl (hD 71 rfl) _ ?_
    refine XS.icmpNo X28.here hx rfl (hD 72 rfl) rfl (by decide) ?_
    refine XS.iload X28.here hx rfl (hD 73 rfl) rfl ?_
    refine XS.aloadN X28.here hx rfl (hD 74 rfl) rfl rfl ?_
    exact k))
  obtain ⟨T30, X30, e30, st30⟩ := getR X28 hx hZ hown (hw _ (mi 110 rfl)) e28 (W0.fld (i := 1) rfl (j := 12) rfl rfl) (g := K29.g) rfl rfl (hD 75 rfl)
  have K31 : Rc K0 T30 (mkF m 150 #[sR r, sR b, sR no, sI (-1), sI 1, sI 1, sI 1, sI 0, sI 0, sI 1, sI 0, sI 0, sI 0, sI 0, sU] [(kR r), (kI 0)]) := fun t k => K29 t (st30 t (by
    refine XS.iadd X30.here hx rfl (hD 76 rfl) rfl ?_
    refine XS.aloadN X30.here hx rfl (hD 77 rfl) rfl rfl ?_
    exact k))
  obtain ⟨T32, X32, e32, st32⟩ := getF X30 hx hZ hown (host := "") (Or.inl (hw _ (mi 36 rfl))) Via.refl e30 (W0.fld (i := 0) rfl (j := 10) rfl rfl) (g := K31.g) rfl rfl (hD 78 rfl)
  have K33 : Rc K0 T32 (mkF m 160 #[sR r, sR b, sR no, sI (-1), sI 1, sI 1, sI 1, sI 0, sI 0, sI 1, sI 0, sI 0, sI 0, sI 0, sU] [(kR b), (kI 0)]) := fun t k => K31 t (st32 t (by
    refine lenW X32 hx hZ e32 W0 (i := 12) rfl (fun _ q => q) (z := (16 : Int32)) (by decide) (g := (mkF m 153 #[sR r, sR b, sR no, sI (-1), sI 1, sI 1, sI 1, sI 0, sI 0, sI 1, sI 0, sI 0, sI 0, sI 0, sU] [(kR acs), (kI 0)])) rfl rfl (hD 79 rfl) _ ?_
    refine XS.icmpNo X32.here hx rfl (hD 80 rfl) rfl (by decide) ?_
    refine XS.iload X32.here hx rfl (hD 81 rfl) rfl ?_
    refine XS.aloadN X32.here hx rfl (hD 82 rfl) rfl rfl ?_
    exact k))
  obtain ⟨T34, X34, e34, st34⟩ := getR X32 hx hZ hown (hw _ (mi 111 rfl)) e32 (W0.fld (i := 1) rfl (j := 13) rfl rfl) (g := K33.g) rfl rfl (hD 83 rfl)
  have K35 : Rc K0 T34 (mkF m 165 #[sR r, sR b, sR no, sI (-1), sI 1, sI 1, sI 1, sI 0, sI 0, sI 1, sI 0, sI 0, sI 0, sI 0, sU] [(kR r), (kI 0)]) := fun t k => K33 t (st34 t (by
    refine XS.iadd X34.here hx rfl (hD 84 rfl) rfl ?_
    refine XS.aloadN X34.here hx rfl (hD 85 rfl) rfl rfl ?_
    exact k))
  obtain ⟨T36, X36, e36, st36⟩ := getF X34 hx hZ hown (host := "") (Or.inl (hw _ (mi 38 rfl))) Via.refl e34 (W0.fld (i := 0) rfl (j := 11) rfl rfl) (g := K35.g) rfl rfl (hD 86 rfl)
  have K37 : Rc K0 T36 (mkF m 175 #[sR r, sR b, sR no, sI (-1), sI 1, sI 1, sI 1, sI 0, sI 0, sI 1, sI 0, sI 0, sI 0, sI 0, sU] [(kR b), (kI 1)]) := fun t k => K35 t (st36 t (by
    refine lenW X36 hx hZ e36 W0 (i := 13) rfl (fun _ q => q) (z := (16 : Int32)) (by decide) (g := (mkF m 168 #[sR r, sR b, sR no, sI (-1), sI 1, sI 1, sI 1, sI 0, sI 0, sI 1, sI 0, sI 0, sI 0, sI 0, sU] [(kR cms), (kI 0)])) rfl rfl (hD 87 rfl) _ ?_
    refine XS.icmpNo X36.here hx rfl (hD 88 rfl) rfl (by decide) ?_
    refine XS.iload X36.here hx rfl (hD 89 rfl) rfl ?_
    refine XS.aloadN X36.here hx rfl (hD 90 rfl) rfl rfl ?_
    exact k))
  obtain ⟨T38, X38, e38, st38⟩ := getR X36 hx hZ hown (hw _ (mi 112 rfl)) e36 (W0.fld (i := 1) rfl (j := 14) rfl rfl) (g := K37.g) rfl rfl (hD 91 rfl)
  have K39 : Rc K0 T38 (mkF m 180 #[sR r, sR b, sR no, sI (-1), sI 1, sI 1, sI 1, sI 0, sI 0, sI 1, sI 0, sI 0, sI 0, sI 0, sU] [(kR r), (kI 2)]) := fun t k => K37 t (st38 t (by
    refine XS.iadd X38.here hx rfl (hD 92 rfl) rfl ?_
    refine XS.aloadN X38.here hx rfl (hD 93 rfl) rfl rfl ?_
    exact k))
  obtain ⟨T40, X40, e40, st40⟩ := getF X38 hx hZ hown (host := "") (Or.inl (hw _ (mi 40 rfl))) Via.refl e38 (W0.fld (i := 0) rfl (j := 12) rfl rfl) (g := K39.g) rfl rfl (hD 94 rfl)
  have K41 : Rc K0 T40 (mkF m 210 #[sR r, sR b, sR no, sI (-1), sI 1, sI 1, sI 1, sI 0, sI 0, sI 1, sI 0, sI 0, sI 0, sI 0, sU] [(kR r), (kI 0)]) := fun t k => K39 t (st40 t (by
    refine lenW X40 hx hZ e40 W0 (i := 14) rfl (fun _ q => q) (z := (64 : Int32)) (by decide) (g := (mkF m 183 #[sR r, sR b, sR no, sI (-1), sI 1, sI 1, sI 1, sI 0, sI 0, sI 1, sI 0, sI 0, sI 0, sI 0, sU] [(kR sus), (kI 2)])) rfl rfl (hD 95 rfl) _ ?_
    refine XS.icmpNo X40.here hx rfl (hD 96 rfl) rfl (by decide) ?_
    refine XS.iload X40.here hx rfl (hD 97 rfl) rfl ?_
    refine XS.ifYes X40.here hx rfl (pc0 := 189) (pc' := 207) rfl (hD 98 rfl) rfl (by decide) (by decide) (by decide) ?_
    refine XS.iload X40.here hx rfl (hD 107 rfl) rfl ?_
    refine XS.aloadN X40.here hx rfl (hD 108 rfl) rfl rfl ?_
    exact k))
  obtain ⟨T42, X42, e42, st42⟩ := getF X40 hx hZ hown (host := "") (Or.inl (hw _ (mi 16 rfl))) Via.refl e40 (W0.fld (i := 0) rfl (j := 0) rfl rfl) (g := K41.g) rfl rfl (hD 109 rfl)
  have K43 : Rc K0 T42 (mkF m 223 #[sR r, sR b, sR no, sI (-1), sI 1, sI 1, sI 1, sI 0, sI 0, sI 1, sI 0, sI 0, sI 0, sI 0, sU] [(kR r), (kI 0)]) := fun t k => K41 t (st42 t (by
    refine lenW X42 hx hZ e42 W0 (i := 2) rfl (fun _ q => q) (z := (0 : Int32)) (by decide) (g := (mkF m 213 #[sR r, sR b, sR no, sI (-1), sI 1, sI 1, sI 1, sI 0, sI 0, sI 1, sI 0, sI 0, sI 0, sI 0, sU] [(kR ks), (kI 0)])) rfl rfl (hD 110 rfl) _ ?_
    refine XS.icmpNo X42.here hx rfl (hD 111 rfl) rfl (by decide) ?_
    refine XS.iload X42.here hx rfl (hD 112 rfl) rfl ?_
    refine XS.aloadN X42.here hx rfl (hD 113 rfl) rfl rfl ?_
    refine lenW X42 hx hZ e42 W0 (i := 23) rfl (fun _ q => q) (z := (0 : Int32)) (by decide) (g := (mkF m 220 #[sR r, sR b, sR no, sI (-1), sI 1, sI 1, sI 1, sI 0, sI 0, sI 1, sI 0, sI 0, sI 0, sI 0, sU] [(kR no), (kI 0)])) rfl rfl (hD 114 rfl) _ ?_
    refine XS.iadd X42.here hx rfl (hD 115 rfl) rfl ?_
    refine XS.aloadN X42.here hx rfl (hD 116 rfl) rfl rfl ?_
    exact k))
  obtain ⟨T44, X44, e44, st44⟩ := getF X42 hx hZ hown (host := "") (Or.inl (hw _ (mi 18 rfl))) Via.refl e42 (W0.fld (i := 0) rfl (j := 1) rfl rfl) (g := K43.g) rfl rfl (hD 117 rfl)
  have K45 : Rc K0 T44 (mkF m 255 #[sR r, sR b, sR no, sI (-1), sI 1, sI 1, sI 1, sI 0, sI 0, sI 1, sI 0, sI 0, sI 0, sI 0, sI 0] [(kR r)]) := fun t k => K43 t (st44 t (by
    refine lenW X44 hx hZ e44 W0 (i := 3) rfl (fun _ q => q) (z := (0 : Int32)) (by decide) (g := (mkF m 226 #[sR r, sR b, sR no, sI (-1), sI 1, sI 1, sI 1, sI 0, sI 0, sI 1, sI 0, sI 0, sI 0, sI 0, sU] [(kR rgs), (kI 0)])) rfl rfl (hD 118 rfl) _ ?_
    refine XS.icmpYes X44.here hx rfl (pc0 := 227) (pc' := 244) rfl (hD 119 rfl) rfl (by decide) (by decide) (by decide) ?_
    refine XS.iconst X44.here hx rfl (hD 120 rfl) ?_
    refine XS.istore X44.here hx rfl (hD 121 rfl) rfl (l' := #[sR r, sR b, sR no, sI (-1), sI 1, sI 1, sI 1, sI 0, sI 0, sI 1, sI 0, sI 0, sI 0, sI 0, sI 0]) rfl ?_
    refine XS.iload X44.here hx rfl (hD 122 rfl) rfl ?_
    refine XS.iload X44.here hx rfl (hD 123 rfl) rfl ?_
    refine XS.icmpNo X44.here hx rfl (hD 124 rfl) rfl (by decide) ?_
    refine XS.aloadN X44.here hx rfl (hD 125 rfl) rfl rfl ?_
    exact k))
  obtain ⟨T46, X46, e46, st46⟩ := getF X44 hx hZ hown (host := "") (Or.inl (hw _ (mi 30 rfl))) Via.refl e44 (W0.fld (i := 0) rfl (j := 7) rfl rfl) (g := K45.g) rfl rfl (hD 126 rfl)
  have K47 : Rc K0 T46 (mkF m 266 #[sR r, sR b, sR no, sI (-1), sI 1, sI 1, sI 1, sI 0, sI 0, sI 1, sI 0, sI 0, sI 0, sI 0, sI 0] [(kR b), (kI 0), (kI 1), (kR fac)]) := fun t k => K45 t (st46 t (by
    refine XS.iload X46.here hx rfl (hD 127 rfl) rfl ?_
    refine XS.iload X46.here hx rfl (hD 128 rfl) rfl ?_
    refine XS.iadd X46.here hx rfl (hD 129 rfl) rfl ?_
    refine XS.iload X46.here hx rfl (hD 130 rfl) rfl ?_
    refine XS.aloadN X46.here hx rfl (hD 131 rfl) rfl rfl ?_
    exact k))
  obtain ⟨T48, X48, e48, st48⟩ := getR X46 hx hZ hown (hw _ (mi 113 rfl)) e46 (W0.fld (i := 1) rfl (j := 4) rfl rfl) (g := K47.g) rfl rfl (hD 132 rfl)
  have K49 : Rc K0 T48 (mkF m 273 #[sR r, sR b, sR no, sI (-1), sI 1, sI 1, sI 1, sI 0, sI 0, sI 1, sI 0, sI 0, sI 0, sI 0, sI 0] [(kI 0), (kI 1), (kR fac)]) := fun t k => K47 t (st48 t (by
    refine XS.iload X48.here hx rfl (hD 133 rfl) rfl ?_
    refine ialW X48 hx hZ e48 W0 (i := 16) rfl (j := (0 : Int32)) (k := 0) (by decide) (by decide) (by decide) (v := (.int (0 : Int32))) h_f1 (g := (mkF m 271 #[sR r, sR b, sR no, sI (-1), sI 1, sI 1, sI 1, sI 0, sI 0, sI 1, sI 0, sI 0, sI 0, sI 0, sI 0] [(kI 0), (kR fa), (kI 0), (kI 1), (kR fac)])) rfl rfl (hD 134 rfl) _ ?_
    refine XS.iadd X48.here hx rfl (hD 135 rfl) rfl ?_
    exact k))
  obtain ⟨T50, h50, L50, X50, e50, N50, W50q, st50⟩ := iasW X48 hx hZ e48 W0 N0 (i := 9) (a := fac) rfl (j := (1 : Int32)) (x := (0 : Int32)) (k := 1) (by decide) (by decide) (by decide) (g := K49.g) rfl rfl (hD 136 rfl)
  have K51 : Rc K0 T50 (mkF m 275 #[sR r, sR b, sR no, sI (-1), sI 1, sI 1, sI 1, sI 0, sI 0, sI 1, sI 0, sI 0, sI 0, sI 0, sI 0] [(kR r)]) := fun t k => K49 t (st50 t (XS.aloadN X50.here hx rfl (hD 137 rfl) rfl rfl k))
  obtain ⟨T52, X52, e52, st52⟩ := getF X50 hx hZ hown (host := "") (Or.inl (hw _ (mi 32 rfl))) Via.refl e50 (W50q.fld (i := 0) rfl (j := 8) rfl rfl) (g := K51.g) rfl rfl (hD 138 rfl)
  have K53 : Rc K0 T52 (mkF m 286 #[sR r, sR b, sR no, sI (-1), sI 1, sI 1, sI 1, sI 0, sI 0, sI 1, sI 0, sI 0, sI 0, sI 0, sI 0] [(kR b), (kI 0), (kI 1), (kR fcm)]) := fun t k => K51 t (st52 t (by
    refine XS.iload X52.here hx rfl (hD 139 rfl) rfl ?_
    refine XS.iload X52.here hx rfl (hD 140 rfl) rfl ?_
    refine XS.iadd X52.here hx rfl (hD 141 rfl) rfl ?_
    refine XS.iload X52.here hx rfl (hD 142 rfl) rfl ?_
    refine XS.aloadN X52.here hx rfl (hD 143 rfl) rfl rfl ?_
    exact k))
  obtain ⟨T54, X54, e54, st54⟩ := getR X52 hx hZ hown (hw _ (mi 114 rfl)) e52 (W50q.fld (i := 1) rfl (j := 6) rfl rfl) (g := K53.g) rfl rfl (hD 144 rfl)
  have K55 : Rc K0 T54 (mkF m 293 #[sR r, sR b, sR no, sI (-1), sI 1, sI 1, sI 1, sI 0, sI 0, sI 1, sI 0, sI 0, sI 0, sI 0, sI 0] [(kI 0), (kI 1), (kR fcm)]) := fun t k => K53 t (st54 t (by
    refine XS.iload X54.here hx rfl (hD 145 rfl) rfl ?_
    refine ialW X54 hx hZ e54 W50q (i := 17) rfl (j := (0 : Int32)) (k := 0) (by decide) (by decide) (by decide) (v := (.int (0 : Int32))) h_f2 (g := (mkF m 291 #[sR r, sR b, sR no, sI (-1), sI 1, sI 1, sI 1, sI 0, sI 0, sI 1, sI 0, sI 0, sI 0, sI 0, sI 0] [(kI 0), (kR fc), (kI 0), (kI 1), (kR fcm)])) rfl rfl (hD 146 rfl) _ ?_
    refine XS.iadd X54.here hx rfl (hD 147 rfl) rfl ?_
    exact k))
  obtain ⟨T56, h56, L56, X56, e56, N56, W56q, st56⟩ := iasW X54 hx hZ e54 W50q N50 (i := 10) (a := fcm) rfl (j := (1 : Int32)) (x := (0 : Int32)) (k := 1) (by decide) (by decide) (by decide) (g := K55.g) rfl rfl (hD 148 rfl)
  have K57 : Rc K0 T56 (mkF m 295 #[sR r, sR b, sR no, sI (-1), sI 1, sI 1, sI 1, sI 0, sI 0, sI 1, sI 0, sI 0, sI 0, sI 0, sI 0] [(kR r)]) := fun t k => K55 t (st56 t (XS.aloadN X56.here hx rfl (hD 149 rfl) rfl rfl k))
  obtain ⟨T58, X58, e58, st58⟩ := getF X56 hx hZ hown (host := "") (Or.inl (hw _ (mi 34 rfl))) Via.refl e56 (W56q.fld (i := 0) rfl (j := 9) rfl rfl) (g := K57.g) rfl rfl (hD 150 rfl)
  have K59 : Rc K0 T58 (mkF m 306 #[sR r, sR b, sR no, sI (-1), sI 1, sI 1, sI 1, sI 0, sI 0, sI 1, sI 0, sI 0, sI 0, sI 0, sI 0] [(kR b), (kI 1), (kI 1), (kR ftr)]) := fun t k => K57 t (st58 t (by
    refine XS.iload X58.here hx rfl (hD 151 rfl) rfl ?_
    refine XS.iload X58.here hx rfl (hD 152 rfl) rfl ?_
    refine XS.iadd X58.here hx rfl (hD 153 rfl) rfl ?_
    refine XS.iload X58.here hx rfl (hD 154 rfl) rfl ?_
    refine XS.aloadN X58.here hx rfl (hD 155 rfl) rfl rfl ?_
    exact k))
  obtain ⟨T60, X60, e60, st60⟩ := getR X58 hx hZ hown (hw _ (mi 115 rfl)) e58 (W56q.fld (i := 1) rfl (j := 8) rfl rfl) (g := K59.g) rfl rfl (hD 156 rfl)
  have K61 : Rc K0 T60 (mkF m 313 #[sR r, sR b, sR no, sI (-1), sI 1, sI 1, sI 1, sI 0, sI 0, sI 1, sI 0, sI 0, sI 0, sI 0, sI 0] [(kI 1), (kI 1), (kR ftr)]) := fun t k => K59 t (st60 t (by
    refine XS.iload X60.here hx rfl (hD 157 rfl) rfl ?_
    refine ialW X60 hx hZ e60 W56q (i := 18) rfl (j := (0 : Int32)) (k := 0) (by decide) (by decide) (by decide) (v := (.int (0 : Int32))) h_f3 (g := (mkF m 311 #[sR r, sR b, sR no, sI (-1), sI 1, sI 1, sI 1, sI 0, sI 0, sI 1, sI 0, sI 0, sI 0, sI 0, sI 0] [(kI 0), (kR ft), (kI 1), (kI 1), (kR ftr)])) rfl rfl (hD 158 rfl) _ ?_
    refine XS.iadd X60.here hx rfl (hD 159 rfl) rfl ?_
    exact k))
  obtain ⟨T62, h62, L62, X62, e62, N62, W62q, st62⟩ := iasW X60 hx hZ e60 W56q N56 (i := 11) (a := ftr) rfl (j := (1 : Int32)) (x := (1 : Int32)) (k := 1) (by decide) (by decide) (by decide) (g := K61.g) rfl rfl (hD 160 rfl)
  have K63 : Rc K0 T62 (mkF m 321 #[sR r, sR b, sR no, sI (-1), sI 1, sI 1, sI 1, sI 0, sI 0, sI 1, sI 0, sI 0, sI 0, sI 0, sI 1] [(kR r)]) := fun t k => K61 t (st62 t (by
    refine XS.iinc X62.here hx rfl (hD 161 rfl) rfl (l' := #[sR r, sR b, sR no, sI (-1), sI 1, sI 1, sI 1, sI 0, sI 0, sI 1, sI 0, sI 0, sI 0, sI 0, sI 1]) rfl ?_
    refine XS.goto X62.here hx rfl (pc0 := 317) (pc' := 247) rfl (hD 162 rfl) (by decide) (by decide) ?_
    refine XS.iload X62.here hx rfl (hD 122 rfl) rfl ?_
    refine XS.iload X62.here hx rfl (hD 123 rfl) rfl ?_
    refine XS.icmpYes X62.here hx rfl (pc0 := 251) (pc' := 320) rfl (hD 124 rfl) rfl (by decide) (by decide) (by decide) ?_
    refine XS.aloadN X62.here hx rfl (hD 163 rfl) rfl rfl ?_
    exact k))
  obtain ⟨T64, X64, e64, st64⟩ := getF X62 hx hZ hown (host := "") (Or.inl (hw _ (mi 30 rfl))) Via.refl e62 (W62q.fld (i := 0) rfl (j := 7) rfl rfl) (g := K63.g) rfl rfl (hD 164 rfl)
  have K65 : Rc K0 T64 (mkF m 332 #[sR r, sR b, sR no, sI (-1), sI 1, sI 1, sI 1, sI 0, sI 0, sI 1, sI 0, sI 0, sI 0, sI 0, sI 1] [(kR b), (kI 0), (kI 2), (kR fac)]) := fun t k => K63 t (st64 t (by
    refine XS.iload X64.here hx rfl (hD 165 rfl) rfl ?_
    refine XS.iload X64.here hx rfl (hD 166 rfl) rfl ?_
    refine XS.iadd X64.here hx rfl (hD 167 rfl) rfl ?_
    refine XS.iload X64.here hx rfl (hD 168 rfl) rfl ?_
    refine XS.aloadN X64.here hx rfl (hD 169 rfl) rfl rfl ?_
    exact k))
  obtain ⟨T66, X66, e66, st66⟩ := getR X64 hx hZ hown (hw _ (mi 110 rfl)) e64 (W62q.fld (i := 1) rfl (j := 12) rfl rfl) (g := K65.g) rfl rfl (hD 170 rfl)
  have K67 : Rc K0 T66 (mkF m 336 #[sR r, sR b, sR no, sI (-1), sI 1, sI 1, sI 1, sI 0, sI 0, sI 1, sI 0, sI 0, sI 0, sI 0, sI 1] [(kI 0), (kI 2), (kR fac)]) := fun t k => K65 t (st66 t (XS.iadd X66.here hx rfl (hD 171 rfl) rfl k))
  obtain ⟨T68, h68, L68, X68, e68, N68, W68q, st68⟩ := iasW X66 hx hZ e66 W62q N62 (i := 9) (a := fac) rfl (j := (2 : Int32)) (x := (0 : Int32)) (k := 2) (by decide) (by decide) (by decide) (g := K67.g) rfl rfl (hD 172 rfl)
  have W68 : Wo n0 h68 ((r, oR Z [(kR ks), (kR rgs), (kR ns), (kR fch), (kR fk), (kR kl), (kR frg), (kR fac), (kR fcm), (kR ftr), (kR acs), (kR cms), (kR sus), (kR prb), (kI 1), .null, (kI 1), .null, .null, .null, .null, .null, .null, (kI 0), (kI 0)]) :: (b, oB Z [.null, (kI 0), (kR vv), (kI (Int32.ofNat u)), (kR fa), (kR ac), (kR fc), (kR cm), (kR ft), (kR su), (kR pr), (kI 1), (kI 0), (kI 0), (kI 1), .null]) :: (ks, Ar Z .int 0 g_ks) :: (rgs, Ar Z .int 0 g_rgs) :: (ns, Ar Z .int 16 g_ns) :: (fch, Ar Z .int 17 g_fch) :: (fk, Ar Z .int 17 g_fk) :: (kl, Ar Z .int 16 g_kl) :: (frg, Ar Z .int 17 g_frg) :: (fac, Ar Z .int 17 (upd (upd g_fac 1 (kI 0)) 2 (kI 0))) :: (fcm, Ar Z .int 17 (upd g_fcm 1 (kI 0))) :: (ftr, Ar Z .int 17 (upd g_ftr 1 (kI 1))) :: (acs, Ar Z .int 16 g_acs) :: (cms, Ar Z .int 16 g_cms) :: (sus, Ar Z .int 64 g_sus) :: (prb, Ar Z .double 64 g_prb) :: (fa, Ar Z .int 2 f1) :: (fc, Ar Z .int 2 f2) :: (ft, Ar Z .int 2 f3) :: (ac, Ar Z .int 2 f4) :: (cm, Ar Z .int 2 f5) :: (su, Ar Z .int 4 f6) :: (pr, Ar Z .double 4 f7) :: (no, Ar Z .int 0 f8) :: (vv, Ar Z .double 4 g_vv) :: Rr) := W68q
  have K69 : Rc K0 T68 (mkF m 338 #[sR r, sR b, sR no, sI (-1), sI 1, sI 1, sI 1, sI 0, sI 0, sI 1, sI 0, sI 0, sI 0, sI 0, sI 1] [(kR r)]) := fun t k => K67 t (st68 t (XS.aloadN X68.here hx rfl (hD 173 rfl) rfl rfl k))
  obtain ⟨T70, X70, e70, st70⟩ := getF X68 hx hZ hown (host := "") (Or.inl (hw _ (mi 32 rfl))) Via.refl e68 (W68.fld (i := 0) rfl (j := 8) rfl rfl) (g := K69.g) rfl rfl (hD 174 rfl)
  have K71 : Rc K0 T70 (mkF m 349 #[sR r, sR b, sR no, sI (-1), sI 1, sI 1, sI 1, sI 0, sI 0, sI 1, sI 0, sI 0, sI 0, sI 0, sI 1] [(kR b), (kI 0), (kI 2), (kR fcm)]) := fun t k => K69 t (st70 t (by
    refine XS.iload X70.here hx rfl (hD 175 rfl) rfl ?_
    refine XS.iload X70.here hx rfl (hD 176 rfl) rfl ?_
    refine XS.iadd X70.here hx rfl (hD 177 rfl) rfl ?_
    refine XS.iload X70.here hx rfl (hD 178 rfl) rfl ?_
    refine XS.aloadN X70.here hx rfl (hD 179 rfl) rfl rfl ?_
    exact k))
  obtain ⟨T72, X72, e72, st72⟩ := getR X70 hx hZ hown (hw _ (mi 111 rfl)) e70 (W68.fld (i := 1) rfl (j := 13) rfl rfl) (g := K71.g) rfl rfl (hD 180 rfl)
  have K73 : Rc K0 T72 (mkF m 353 #[sR r, sR b, sR no, sI (-1), sI 1, sI 1, sI 1, sI 0, sI 0, sI 1, sI 0, sI 0, sI 0, sI 0, sI 1] [(kI 0), (kI 2), (kR fcm)]) := fun t k => K71 t (st72 t (XS.iadd X72.here hx rfl (hD 181 rfl) rfl k))
  obtain ⟨T74, h74, L74, X74, e74, N74, W74q, st74⟩ := iasW X72 hx hZ e72 W68 N68 (i := 10) (a := fcm) rfl (j := (2 : Int32)) (x := (0 : Int32)) (k := 2) (by decide) (by decide) (by decide) (g := K73.g) rfl rfl (hD 182 rfl)
  have K75 : Rc K0 T74 (mkF m 355 #[sR r, sR b, sR no, sI (-1), sI 1, sI 1, sI 1, sI 0, sI 0, sI 1, sI 0, sI 0, sI 0, sI 0, sI 1] [(kR r)]) := fun t k => K73 t (st74 t (XS.aloadN X74.here hx rfl (hD 183 rfl) rfl rfl k))
  obtain ⟨T76, X76, e76, st76⟩ := getF X74 hx hZ hown (host := "") (Or.inl (hw _ (mi 34 rfl))) Via.refl e74 (W74q.fld (i := 0) rfl (j := 9) rfl rfl) (g := K75.g) rfl rfl (hD 184 rfl)
  have K77 : Rc K0 T76 (mkF m 366 #[sR r, sR b, sR no, sI (-1), sI 1, sI 1, sI 1, sI 0, sI 0, sI 1, sI 0, sI 0, sI 0, sI 0, sI 1] [(kR b), (kI 1), (kI 2), (kR ftr)]) := fun t k => K75 t (st76 t (by
    refine XS.iload X76.here hx rfl (hD 185 rfl) rfl ?_
    refine XS.iload X76.here hx rfl (hD 186 rfl) rfl ?_
    refine XS.iadd X76.here hx rfl (hD 187 rfl) rfl ?_
    refine XS.iload X76.here hx rfl (hD 188 rfl) rfl ?_
    refine XS.aloadN X76.here hx rfl (hD 189 rfl) rfl rfl ?_
    exact k))
  obtain ⟨T78, X78, e78, st78⟩ := getR X76 hx hZ hown (hw _ (mi 112 rfl)) e76 (W74q.fld (i := 1) rfl (j := 14) rfl rfl) (g := K77.g) rfl rfl (hD 190 rfl)
  have K79 : Rc K0 T78 (mkF m 370 #[sR r, sR b, sR no, sI (-1), sI 1, sI 1, sI 1, sI 0, sI 0, sI 1, sI 0, sI 0, sI 0, sI 0, sI 1] [(kI 2), (kI 2), (kR ftr)]) := fun t k => K77 t (st78 t (XS.iadd X78.here hx rfl (hD 191 rfl) rfl k))
  obtain ⟨T80, h80, L80, X80, e80, N80, W80q, st80⟩ := iasW X78 hx hZ e78 W74q N74 (i := 11) (a := ftr) rfl (j := (2 : Int32)) (x := (2 : Int32)) (k := 2) (by decide) (by decide) (by decide) (g := K79.g) rfl rfl (hD 192 rfl)
  have K81 : Rc K0 T80 (mkF m 372 #[sR r, sR b, sR no, sI (-1), sI 1, sI 1, sI 1, sI 0, sI 0, sI 1, sI 0, sI 0, sI 0, sI 0, sI 1] [(kR b)]) := fun t k => K79 t (st80 t (XS.aloadN X80.here hx rfl (hD 193 rfl) rfl rfl k))
  obtain ⟨T82, X82, e82, st82⟩ := getR X80 hx hZ hown (hw _ (mi 116 rfl)) e80 (W80q.fld (i := 1) rfl (j := 5) rfl rfl) (g := K81.g) rfl rfl (hD 194 rfl)
  have K83 : Rc K0 T82 (mkF m 377 #[sR r, sR b, sR no, sI (-1), sI 1, sI 1, sI 1, sI 0, sI 0, sI 1, sI 0, sI 0, sI 0, sI 0, sI 1] [(kR r), (kI 0), (kR ac)]) := fun t k => K81 t (st82 t (by
    refine XS.iconst X82.here hx rfl (hD 195 rfl) ?_
    refine XS.aloadN X82.here hx rfl (hD 196 rfl) rfl rfl ?_
    exact k))
  obtain ⟨T84, X84, e84, st84⟩ := getF X82 hx hZ hown (host := "") (Or.inl (hw _ (mi 36 rfl))) Via.refl e82 (W80q.fld (i := 0) rfl (j := 10) rfl rfl) (g := K83.g) rfl rfl (hD 197 rfl)
  have K85 : Rc K0 T84 (mkF m 383 #[sR r, sR b, sR no, sI (-1), sI 1, sI 1, sI 1, sI 0, sI 0, sI 1, sI 0, sI 0, sI 0, sI 0, sI 1] [(kR b), (kI 0), (kR acs), (kI 0), (kR ac)]) := fun t k => K83 t (st84 t (by
    refine XS.iload X84.here hx rfl (hD 198 rfl) rfl ?_
    refine XS.aloadN X84.here hx rfl (hD 199 rfl) rfl rfl ?_
    exact k))
  obtain ⟨T86, X86, e86, st86⟩ := getR X84 hx hZ hown (hw _ (mi 110 rfl)) e84 (W80q.fld (i := 1) rfl (j := 12) rfl rfl) (g := K85.g) rfl rfl (hD 200 rfl)
  obtain ⟨T87, h87, L87, X87, e87, N87, W87q, st87⟩ := cpW X86 hx hZ hown (hw _ (mi 117 rfl)) (hw _ (mi 120 rfl)) (hw _ (mi 118 rfl)) (hw _ (mi 119 rfl)) e86 W80q N80 (i := 19) (j := 12) rfl rfl rfl (sp := (0 : Int32)) (dp := (0 : Int32)) (nn := (0 : Int32)) (s' := 0) (d' := 0) (k' := 0) (by decide) (by decide) (by decide) (by decide) (by decide) (by decide) (by decide) (by decide) (g := (mkF m 386 #[sR r, sR b, sR no, sI (-1), sI 1, sI 1, sI 1, sI 0, sI 0, sI 1, sI 0, sI 0, sI 0, sI 0, sI 1] [(kI 0), (kI 0), (kR acs), (kI 0), (kR ac)])) rfl (by rw [hml]; rfl) (rest := []) rfl (hD 201 rfl) (by decide) (W0 := 0) (by show 2 * 0 + _ ≤ _; exact Nat.le_of_eq rfl) (by decide)
  have K88 : Rc K0 T87 (mkF m 390 #[sR r, sR b, sR no, sI (-1), sI 1, sI 1, sI 1, sI 0, sI 0, sI 1, sI 0, sI 0, sI 0, sI 0, sI 1] [(kR b)]) := fun t k => K85 t (st86 t (st87 t (XS.aloadN X87.here hx rfl (hD 202 rfl) rfl rfl k)))
  obtain ⟨T89, X89, e89, st89⟩ := getR X87 hx hZ hown (hw _ (mi 121 rfl)) e87 (W87q.fld (i := 1) rfl (j := 7) rfl rfl) (g := K88.g) rfl rfl (hD 203 rfl)
  have K90 : Rc K0 T89 (mkF m 395 #[sR r, sR b, sR no, sI (-1), sI 1, sI 1, sI 1, sI 0, sI 0, sI 1, sI 0, sI 0, sI 0, sI 0, sI 1] [(kR r), (kI 0), (kR cm)]) := fun t k => K88 t (st89 t (by
    refine XS.iconst X89.here hx rfl (hD 204 rfl) ?_
    refine XS.aloadN X89.here hx rfl (hD 205 rfl) rfl rfl ?_
    exact k))
  obtain ⟨T91, X91, e91, st91⟩ := getF X89 hx hZ hown (host := "") (Or.inl (hw _ (mi 38 rfl))) Via.refl e89 (W87q.fld (i := 0) rfl (j := 11) rfl rfl) (g := K90.g) rfl rfl (hD 206 rfl)
  have K92 : Rc K0 T91 (mkF m 401 #[sR r, sR b, sR no, sI (-1), sI 1, sI 1, sI 1, sI 0, sI 0, sI 1, sI 0, sI 0, sI 0, sI 0, sI 1] [(kR b), (kI 0), (kR cms), (kI 0), (kR cm)]) := fun t k => K90 t (st91 t (by
    refine XS.iload X91.here hx rfl (hD 207 rfl) rfl ?_
    refine XS.aloadN X91.here hx rfl (hD 208 rfl) rfl rfl ?_
    exact k))
  obtain ⟨T93, X93, e93, st93⟩ := getR X91 hx hZ hown (hw _ (mi 111 rfl)) e91 (W87q.fld (i := 1) rfl (j := 13) rfl rfl) (g := K92.g) rfl rfl (hD 209 rfl)
  obtain ⟨T94, h94, L94, X94, e94, N94, W94q, st94⟩ := cpW X93 hx hZ hown (hw _ (mi 117 rfl)) (hw _ (mi 120 rfl)) (hw _ (mi 118 rfl)) (hw _ (mi 119 rfl)) e93 W87q N87 (i := 20) (j := 13) rfl rfl rfl (sp := (0 : Int32)) (dp := (0 : Int32)) (nn := (0 : Int32)) (s' := 0) (d' := 0) (k' := 0) (by decide) (by decide) (by decide) (by decide) (by decide) (by decide) (by decide) (by decide) (g := (mkF m 404 #[sR r, sR b, sR no, sI (-1), sI 1, sI 1, sI 1, sI 0, sI 0, sI 1, sI 0, sI 0, sI 0, sI 0, sI 1] [(kI 0), (kI 0), (kR cms), (kI 0), (kR cm)])) rfl (by rw [hml]; rfl) (rest := []) rfl (hD 210 rfl) (by decide) (W0 := 0) (by show 2 * 0 + _ ≤ _; exact Nat.le_of_eq rfl) (by decide)
  have W94 : Wo n0 h94 ((r, oR Z [(kR ks), (kR rgs), (kR ns), (kR fch), (kR fk), (kR kl), (kR frg), (kR fac), (kR fcm), (kR ftr), (kR acs), (kR cms), (kR sus), (kR prb), (kI 1), .null, (kI 1), .null, .null, .null, .null, .null, .null, (kI 0), (kI 0)]) :: (b, oB Z [.null, (kI 0), (kR vv), (kI (Int32.ofNat u)), (kR fa), (kR ac), (kR fc), (kR cm), (kR ft), (kR su), (kR pr), (kI 1), (kI 0), (kI 0), (kI 1), .null]) :: (ks, Ar Z .int 0 g_ks) :: (rgs, Ar Z .int 0 g_rgs) :: (ns, Ar Z .int 16 g_ns) :: (fch, Ar Z .int 17 g_fch) :: (fk, Ar Z .int 17 g_fk) :: (kl, Ar Z .int 16 g_kl) :: (frg, Ar Z .int 17 g_frg) :: (fac, Ar Z .int 17 (upd (upd g_fac 1 (kI 0)) 2 (kI 0))) :: (fcm, Ar Z .int 17 (upd (upd g_fcm 1 (kI 0)) 2 (kI 0))) :: (ftr, Ar Z .int 17 (upd (upd g_ftr 1 (kI 1)) 2 (kI 2))) :: (acs, Ar Z .int 16 (cpy f4 g_acs 0 0 0)) :: (cms, Ar Z .int 16 (cpy f5 g_cms 0 0 0)) :: (sus, Ar Z .int 64 g_sus) :: (prb, Ar Z .double 64 g_prb) :: (fa, Ar Z .int 2 f1) :: (fc, Ar Z .int 2 f2) :: (ft, Ar Z .int 2 f3) :: (ac, Ar Z .int 2 f4) :: (cm, Ar Z .int 2 f5) :: (su, Ar Z .int 4 f6) :: (pr, Ar Z .double 4 f7) :: (no, Ar Z .int 0 f8) :: (vv, Ar Z .double 4 g_vv) :: Rr) := W94q
  have K95 : Rc K0 T94 (mkF m 408 #[sR r, sR b, sR no, sI (-1), sI 1, sI 1, sI 1, sI 0, sI 0, sI 1, sI 0, sI 0, sI 0, sI 0, sI 1] [(kR b)]) := fun t k => K92 t (st93 t (st94 t (XS.aloadN X94.here hx rfl (hD 211 rfl) rfl rfl k)))
  obtain ⟨T96, X96, e96, st96⟩ := getR X94 hx hZ hown (hw _ (mi 122 rfl)) e94 (W94.fld (i := 1) rfl (j := 9) rfl rfl) (g := K95.g) rfl rfl (hD 212 rfl)
  have K97 : Rc K0 T96 (mkF m 413 #[sR r, sR b, sR no, sI (-1), sI 1, sI 1, sI 1, sI 0, sI 0, sI 1, sI 0, sI 0, sI 0, sI 0, sI 1] [(kR r), (kI 0), (kR su)]) := fun t k => K95 t (st96 t (by
    refine XS.iconst X96.here hx rfl (hD 213 rfl) ?_
    refine XS.aloadN X96.here hx rfl (hD 214 rfl) rfl rfl ?_
    exact k))
  obtain ⟨T98, X98, e98, st98⟩ := getF X96 hx hZ hown (host := "") (Or.inl (hw _ (mi 40 rfl))) Via.refl e96 (W94.fld (i := 0) rfl (j := 12) rfl rfl) (g := K97.g) rfl rfl (hD 215 rfl)
  have K99 : Rc K0 T98 (mkF m 419 #[sR r, sR b, sR no, sI (-1), sI 1, sI 1, sI 1, sI 0, sI 0, sI 1, sI 0, sI 0, sI 0, sI 0, sI 1] [(kR b), (kI 1), (kR sus), (kI 0), (kR su)]) := fun t k => K97 t (st98 t (by
    refine XS.iload X98.here hx rfl (hD 216 rfl) rfl ?_
    refine XS.aloadN X98.here hx rfl (hD 217 rfl) rfl rfl ?_
    exact k))
  obtain ⟨T100, X100, e100, st100⟩ := getR X98 hx hZ hown (hw _ (mi 112 rfl)) e98 (W94.fld (i := 1) rfl (j := 14) rfl rfl) (g := K99.g) rfl rfl (hD 218 rfl)
  obtain ⟨T101, h101, L101, X101, e101, N101, W101q, st101⟩ := cpW X100 hx hZ hown (hw _ (mi 117 rfl)) (hw _ (mi 120 rfl)) (hw _ (mi 118 rfl)) (hw _ (mi 119 rfl)) e100 W94 N94 (i := 21) (j := 14) rfl rfl rfl (sp := (0 : Int32)) (dp := (1 : Int32)) (nn := (1 : Int32)) (s' := 0) (d' := 1) (k' := 1) (by decide) (by decide) (by decide) (by decide) (by decide) (by decide) (by decide) (by decide) (g := (mkF m 422 #[sR r, sR b, sR no, sI (-1), sI 1, sI 1, sI 1, sI 0, sI 0, sI 1, sI 0, sI 0, sI 0, sI 0, sI 1] [(kI 1), (kI 1), (kR sus), (kI 0), (kR su)])) rfl (by rw [hml]; rfl) (rest := []) rfl (hD 219 rfl) (by decide) (W0 := 0) (by show 2 * 0 + _ ≤ _; exact Nat.le_of_eq rfl) (by decide)
  have K102 : Rc K0 T101 (mkF m 426 #[sR r, sR b, sR no, sI (-1), sI 1, sI 1, sI 1, sI 0, sI 0, sI 1, sI 0, sI 0, sI 0, sI 0, sI 1] [(kR b)]) := fun t k => K99 t (st100 t (st101 t (XS.aloadN X101.here hx rfl (hD 220 rfl) rfl rfl k)))
  obtain ⟨T103, X103, e103, st103⟩ := getR X101 hx hZ hown (hw _ (mi 106 rfl)) e101 (W101q.fld (i := 1) rfl (j := 0) rfl rfl) (g := K102.g) rfl rfl (hD 221 rfl)
  have K104 : Rc K0 T103 (mkF m 454 #[sR r, sR b, sR no, sI (-1), sI 1, sI 1, sI 1, sI 0, sI 0, sI 1, sI 0, sI 0, sI 0, sI 0, sI 1] [(kR r), (kI 0), (kR no)]) := fun t k => K102 t (st103 t (by
    refine XS.ifnullYes X103.here hx rfl (pc0 := 429) (pc' := 451) rfl (hD 222 rfl) rfl (by decide) (by decide) ?_
    refine XS.aloadN X103.here hx rfl (hD 223 rfl) rfl rfl ?_
    refine XS.iconst X103.here hx rfl (hD 224 rfl) ?_
    refine XS.aloadN X103.here hx rfl (hD 225 rfl) rfl rfl ?_
    exact k))
  obtain ⟨T105, X105, e105, st105⟩ := getF X103 hx hZ hown (host := "") (Or.inl (hw _ (mi 18 rfl))) Via.refl e103 (W101q.fld (i := 0) rfl (j := 1) rfl rfl) (g := K104.g) rfl rfl (hD 226 rfl)
  have K106 : Rc K0 T105 (mkF m 461 #[sR r, sR b, sR no, sI (-1), sI 1, sI 1, sI 1, sI 0, sI 0, sI 1, sI 0, sI 0, sI 0, sI 0, sI 1] [(kI 0), (kI 0), (kR rgs), (kI 0), (kR no)]) := fun t k => K104 t (st105 t (by
    refine XS.iload X105.here hx rfl (hD 227 rfl) rfl ?_
    refine XS.aloadN X105.here hx rfl (hD 228 rfl) rfl rfl ?_
    refine lenW X105 hx hZ e105 W101q (i := 23) rfl (fun _ q => q) (z := (0 : Int32)) (by decide) (g := (mkF m 460 #[sR r, sR b, sR no, sI (-1), sI 1, sI 1, sI 1, sI 0, sI 0, sI 1, sI 0, sI 0, sI 0, sI 0, sI 1] [(kR no), (kI 0), (kR rgs), (kI 0), (kR no)])) rfl rfl (hD 229 rfl) _ ?_
    exact k))
  obtain ⟨T107, h107, L107, X107, e107, N107, W107q, st107⟩ := cpW X105 hx hZ hown (hw _ (mi 117 rfl)) (hw _ (mi 120 rfl)) (hw _ (mi 118 rfl)) (hw _ (mi 119 rfl)) e105 W101q N101 (i := 23) (j := 3) rfl rfl rfl (sp := (0 : Int32)) (dp := (0 : Int32)) (nn := (0 : Int32)) (s' := 0) (d' := 0) (k' := 0) (by decide) (by decide) (by decide) (by decide) (by decide) (by decide) (by decide) (by decide) (g := K106.g) rfl (by rw [hml]; rfl) (rest := []) rfl (hD 230 rfl) (by decide) (W0 := 0) (by show 2 * 0 + _ ≤ _; exact Nat.le_of_eq rfl) (by decide)
  have K108 : Rc K0 T107 (mkF m 465 #[sR r, sR b, sR no, sI (-1), sI 1, sI 1, sI 1, sI 0, sI 0, sI 1, sI 0, sI 0, sI 0, sI 0, sI 1] [(kR r)]) := fun t k => K106 t (st107 t (XS.aloadN X107.here hx rfl (hD 231 rfl) rfl rfl k))
  obtain ⟨T109, X109, e109, st109⟩ := getF X107 hx hZ hown (host := "") (Or.inl (hw _ (mi 20 rfl))) Via.refl e107 (W107q.fld (i := 0) rfl (j := 2) rfl rfl) (g := K108.g) rfl rfl (hD 232 rfl)
  have K110 : Rc K0 T109 (mkF m 471 #[sR r, sR b, sR no, sI (-1), sI 1, sI 1, sI 1, sI 0, sI 0, sI 1, sI 0, sI 0, sI 0, sI 0, sI 1] [(kI (-1)), (kI 1), (kR ns)]) := fun t k => K108 t (st109 t (by
    refine XS.iload X109.here hx rfl (hD 233 rfl) rfl ?_
    refine XS.iloadN X109.here hx rfl (hD 234 rfl) rfl ?_
    exact k))
  obtain ⟨T111, h111, L111, X111, e111, N111, W111q, st111⟩ := iasW X109 hx hZ e109 W107q N107 (i := 4) (a := ns) rfl (j := (1 : Int32)) (x := (-1 : Int32)) (k := 1) (by decide) (by decide) (by decide) (g := K110.g) rfl rfl (hD 235 rfl)
  have K112 : Rc K0 T111 (mkF m 473 #[sR r, sR b, sR no, sI (-1), sI 1, sI 1, sI 1, sI 0, sI 0, sI 1, sI 0, sI 0, sI 0, sI 0, sI 1] [(kR r)]) := fun t k => K110 t (st111 t (XS.aloadN X111.here hx rfl (hD 236 rfl) rfl rfl k))
  obtain ⟨T113, X113, e113, st113⟩ := getF X111 hx hZ hown (host := "") (Or.inl (hw _ (mi 26 rfl))) Via.refl e111 (W111q.fld (i := 0) rfl (j := 5) rfl rfl) (g := K112.g) rfl rfl (hD 237 rfl)
  have K114 : Rc K0 T113 (mkF m 479 #[sR r, sR b, sR no, sI (-1), sI 1, sI 1, sI 1, sI 0, sI 0, sI 1, sI 0, sI 0, sI 0, sI 0, sI 1] [(kR b), (kI 1), (kR kl)]) := fun t k => K112 t (st113 t (by
    refine XS.iload X113.here hx rfl (hD 238 rfl) rfl ?_
    refine XS.aloadN X113.here hx rfl (hD 239 rfl) rfl rfl ?_
    exact k))
  obtain ⟨T115, X115, e115, st115⟩ := getR X113 hx hZ hown (hw _ (mi 106 rfl)) e113 (W111q.fld (i := 1) rfl (j := 0) rfl rfl) (g := K114.g) rfl rfl (hD 240 rfl)
  have K116 : Rc K0 T115 (mkF m 494 #[sR r, sR b, sR no, sI (-1), sI 1, sI 1, sI 1, sI 0, sI 0, sI 1, sI 0, sI 0, sI 0, sI 0, sI 1] [(kI (-1)), (kI 1), (kR kl)]) := fun t k => K114 t (st115 t (by
    refine XS.ifnonnullNo X115.here hx rfl (hD 241 rfl) rfl ?_
    refine XS.iconst X115.here hx rfl (hD 242 rfl) ?_
    refine XS.goto X115.here hx rfl (pc0 := 486) (pc' := 494) rfl (hD 243 rfl) (by decide) (by decide) ?_
    exact k))
  obtain ⟨T117, h117, L117, X117, e117, N117, W117q, st117⟩ := iasW X115 hx hZ e115 W111q N111 (i := 7) (a := kl) rfl (j := (1 : Int32)) (x := (-1 : Int32)) (k := 1) (by decide) (by decide) (by decide) (g := K116.g) rfl rfl (hD 244 rfl)
  have W117 : Wo n0 h117 ((r, oR Z [(kR ks), (kR rgs), (kR ns), (kR fch), (kR fk), (kR kl), (kR frg), (kR fac), (kR fcm), (kR ftr), (kR acs), (kR cms), (kR sus), (kR prb), (kI 1), .null, (kI 1), .null, .null, .null, .null, .null, .null, (kI 0), (kI 0)]) :: (b, oB Z [.null, (kI 0), (kR vv), (kI (Int32.ofNat u)), (kR fa), (kR ac), (kR fc), (kR cm), (kR ft), (kR su), (kR pr), (kI 1), (kI 0), (kI 0), (kI 1), .null]) :: (ks, Ar Z .int 0 g_ks) :: (rgs, Ar Z .int 0 (cpy f8 g_rgs 0 0 0)) :: (ns, Ar Z .int 16 (upd g_ns 1 (kI (-1)))) :: (fch, Ar Z .int 17 g_fch) :: (fk, Ar Z .int 17 g_fk) :: (kl, Ar Z .int 16 (upd g_kl 1 (kI (-1)))) :: (frg, Ar Z .int 17 g_frg) :: (fac, Ar Z .int 17 (upd (upd g_fac 1 (kI 0)) 2 (kI 0))) :: (fcm, Ar Z .int 17 (upd (upd g_fcm 1 (kI 0)) 2 (kI 0))) :: (ftr, Ar Z .int 17 (upd (upd g_ftr 1 (kI 1)) 2 (kI 2))) :: (acs, Ar Z .int 16 (cpy f4 g_acs 0 0 0)) :: (cms, Ar Z .int 16 (cpy f5 g_cms 0 0 0)) :: (sus, Ar Z .int 64 (cpy f6 g_sus 0 1 1)) :: (prb, Ar Z .double 64 g_prb) :: (fa, Ar Z .int 2 f1) :: (fc, Ar Z .int 2 f2) :: (ft, Ar Z .int 2 f3) :: (ac, Ar Z .int 2 f4) :: (cm, Ar Z .int 2 f5) :: (su, Ar Z .int 4 f6) :: (pr, Ar Z .double 4 f7) :: (no, Ar Z .int 0 f8) :: (vv, Ar Z .double 4 g_vv) :: Rr) := W117q
  have K118 : Rc K0 T117 (mkF m 496 #[sR r, sR b, sR no, sI (-1), sI 1, sI 1, sI 1, sI 0, sI 0, sI 1, sI 0, sI 0, sI 0, sI 0, sI 1] [(kR r)]) := fun t k => K116 t (st117 t (XS.aloadN X117.here hx rfl (hD 245 rfl) rfl rfl k))
  obtain ⟨T119, X119, e119, st119⟩ := getF X117 hx hZ hown (host := "") (Or.inl (hw _ (mi 22 rfl))) Via.refl e117 (W117.fld (i := 0) rfl (j := 3) rfl rfl) (g := K118.g) rfl rfl (hD 246 rfl)
  have K120 : Rc K0 T119 (mkF m 508 #[sR r, sR b, sR no, sI (-1), sI 1, sI 1, sI 1, sI 0, sI 0, sI 1, sI 0, sI 0, sI 0, sI 0, sI 1] [(kI 2), (kI 2), (kR fch)]) := fun t k => K118 t (st119 t (by
    refine XS.iload X119.here hx rfl (hD 247 rfl) rfl ?_
    refine XS.iconst X119.here hx rfl (hD 248 rfl) ?_
    refine XS.iadd X119.here hx rfl (hD 249 rfl) rfl ?_
    refine XS.iload X119.here hx rfl (hD 250 rfl) rfl ?_
    refine XS.iload X119.here hx rfl (hD 251 rfl) rfl ?_
    refine XS.iadd X119.here hx rfl (hD 252 rfl) rfl ?_
    exact k))
  obtain ⟨T121, h121, L121, X121, e121, N121, W121q, st121⟩ := iasW X119 hx hZ e119 W117 N117 (i := 5) (a := fch) rfl (j := (2 : Int32)) (x := (2 : Int32)) (k := 2) (by decide) (by decide) (by decide) (g := K120.g) rfl rfl (hD 253 rfl)
  have K122 : Rc K0 T121 (mkF m 510 #[sR r, sR b, sR no, sI (-1), sI 1, sI 1, sI 1, sI 0, sI 0, sI 1, sI 0, sI 0, sI 0, sI 0, sI 1] [(kR r)]) := fun t k => K120 t (st121 t (XS.aloadN X121.here hx rfl (hD 254 rfl) rfl rfl k))
  obtain ⟨T123, X123, e123, st123⟩ := getF X121 hx hZ hown (host := "") (Or.inl (hw _ (mi 24 rfl))) Via.refl e121 (W121q.fld (i := 0) rfl (j := 4) rfl rfl) (g := K122.g) rfl rfl (hD 255 rfl)
  have K124 : Rc K0 T123 (mkF m 519 #[sR r, sR b, sR no, sI (-1), sI 1, sI 1, sI 1, sI 0, sI 0, sI 1, sI 0, sI 0, sI 0, sI 0, sI 1] [(kI 0), (kI 2), (kR fk)]) := fun t k => K122 t (st123 t (by
    refine XS.iload X123.here hx rfl (hD 256 rfl) rfl ?_
    refine XS.iconst X123.here hx rfl (hD 257 rfl) ?_
    refine XS.iadd X123.here hx rfl (hD 258 rfl) rfl ?_
    refine XS.iload X123.here hx rfl (hD 259 rfl) rfl ?_
    exact k))
  obtain ⟨T125, h125, L125, X125, e125, N125, W125q, st125⟩ := iasW X123 hx hZ e123 W121q N121 (i := 6) (a := fk) rfl (j := (2 : Int32)) (x := (0 : Int32)) (k := 2) (by decide) (by decide) (by decide) (g := K124.g) rfl rfl (hD 260 rfl)
  have K126 : Rc K0 T125 (mkF m 521 #[sR r, sR b, sR no, sI (-1), sI 1, sI 1, sI 1, sI 0, sI 0, sI 1, sI 0, sI 0, sI 0, sI 0, sI 1] [(kR r)]) := fun t k => K124 t (st125 t (XS.aloadN X125.here hx rfl (hD 261 rfl) rfl rfl k))
  obtain ⟨T127, X127, e127, st127⟩ := getF X125 hx hZ hown (host := "") (Or.inl (hw _ (mi 28 rfl))) Via.refl e125 (W125q.fld (i := 0) rfl (j := 6) rfl rfl) (g := K126.g) rfl rfl (hD 262 rfl)
  have K128 : Rc K0 T127 (mkF m 533 #[sR r, sR b, sR no, sI (-1), sI 1, sI 1, sI 1, sI 0, sI 0, sI 1, sI 0, sI 0, sI 0, sI 0, sI 1] [(kI 0), (kI 2), (kR frg)]) := fun t k => K126 t (st127 t (by
    refine XS.iload X127.here hx rfl (hD 263 rfl) rfl ?_
    refine XS.iconst X127.here hx rfl (hD 264 rfl) ?_
    refine XS.iadd X127.here hx rfl (hD 265 rfl) rfl ?_
    refine XS.iload X127.here hx rfl (hD 266 rfl) rfl ?_
    refine XS.aloadN X127.here hx rfl (hD 267 rfl) rfl rfl ?_
    refine lenW X127 hx hZ e127 W125q (i := 23) rfl (fun _ q => q) (z := (0 : Int32)) (by decide) (g := (mkF m 531 #[sR r, sR b, sR no, sI (-1), sI 1, sI 1, sI 1, sI 0, sI 0, sI 1, sI 0, sI 0, sI 0, sI 0, sI 1] [(kR no), (kI 0), (kI 2), (kR frg)])) rfl rfl (hD 268 rfl) _ ?_
    refine XS.iadd X127.here hx rfl (hD 269 rfl) rfl ?_
    exact k))
  obtain ⟨T129, h129, L129, X129, e129, N129, W129q, st129⟩ := iasW X127 hx hZ e127 W125q N125 (i := 8) (a := frg) rfl (j := (2 : Int32)) (x := (0 : Int32)) (k := 2) (by decide) (by decide) (by decide) (g := K128.g) rfl rfl (hD 270 rfl)
  have K130 : Rc K0 T129 (mkF m 536 #[sR r, sR b, sR no, sI (-1), sI 1, sI 1, sI 1, sI 0, sI 0, sI 1, sI 0, sI 0, sI 0, sI 0, sI 1] [(kR r), (kR r)]) := fun t k => K128 t (st129 t (by
    refine XS.aloadN X129.here hx rfl (hD 271 rfl) rfl rfl ?_
    refine XS.dup X129.here hx rfl (hD 272 rfl) rfl rfl ?_
    exact k))
  obtain ⟨T131, X131, e131, st131⟩ := getF X129 hx hZ hown (host := "") (Or.inl (hw _ (mi 103 rfl))) Via.refl e129 (W129q.fld (i := 0) rfl (j := 14) rfl rfl) (g := K130.g) rfl rfl (hD 273 rfl)
  have K132 : Rc K0 T131 (mkF m 541 #[sR r, sR b, sR no, sI (-1), sI 1, sI 1, sI 1, sI 0, sI 0, sI 1, sI 0, sI 0, sI 0, sI 0, sI 1] [(kI 2), (kR r)]) := fun t k => K130 t (st131 t (by
    refine XS.iconst X131.here hx rfl (hD 274 rfl) ?_
    refine XS.iadd X131.here hx rfl (hD 275 rfl) rfl ?_
    exact k))
  obtain ⟨T133, h133, L133, X133, e133, N133, W133q, st133⟩ := putW X131 hx hZ hown (host := "") (Or.inl (hw _ (mi 103 rfl))) e131 W129q N129 (own_dR hw) (Or.inl (hw _ (mi 104 rfl))) (hw _ (mi 8 rfl)) (ty := .int) (by decide +kernel) (i := 0) (a := r) rfl (j := 14) rfl rfl (v := (.int (2 : Int32))) rfl rfl (g := K132.g) rfl rfl (hD 276 rfl)
  have W133 : Wo n0 h133 ((r, oR Z [(kR ks), (kR rgs), (kR ns), (kR fch), (kR fk), (kR kl), (kR frg), (kR fac), (kR fcm), (kR ftr), (kR acs), (kR cms), (kR sus), (kR prb), (kI 2), .null, (kI 1), .null, .null, .null, .null, .null, .null, (kI 0), (kI 0)]) :: (b, oB Z [.null, (kI 0), (kR vv), (kI (Int32.ofNat u)), (kR fa), (kR ac), (kR fc), (kR cm), (kR ft), (kR su), (kR pr), (kI 1), (kI 0), (kI 0), (kI 1), .null]) :: (ks, Ar Z .int 0 g_ks) :: (rgs, Ar Z .int 0 (cpy f8 g_rgs 0 0 0)) :: (ns, Ar Z .int 16 (upd g_ns 1 (kI (-1)))) :: (fch, Ar Z .int 17 (upd g_fch 2 (kI 2))) :: (fk, Ar Z .int 17 (upd g_fk 2 (kI 0))) :: (kl, Ar Z .int 16 (upd g_kl 1 (kI (-1)))) :: (frg, Ar Z .int 17 (upd g_frg 2 (kI 0))) :: (fac, Ar Z .int 17 (upd (upd g_fac 1 (kI 0)) 2 (kI 0))) :: (fcm, Ar Z .int 17 (upd (upd g_fcm 1 (kI 0)) 2 (kI 0))) :: (ftr, Ar Z .int 17 (upd (upd g_ftr 1 (kI 1)) 2 (kI 2))) :: (acs, Ar Z .int 16 (cpy f4 g_acs 0 0 0)) :: (cms, Ar Z .int 16 (cpy f5 g_cms 0 0 0)) :: (sus, Ar Z .int 64 (cpy f6 g_sus 0 1 1)) :: (prb, Ar Z .double 64 g_prb) :: (fa, Ar Z .int 2 f1) :: (fc, Ar Z .int 2 f2) :: (ft, Ar Z .int 2 f3) :: (ac, Ar Z .int 2 f4) :: (cm, Ar Z .int 2 f5) :: (su, Ar Z .int 4 f6) :: (pr, Ar Z .double 4 f7) :: (no, Ar Z .int 0 f8) :: (vv, Ar Z .double 4 g_vv) :: Rr) := W133q
  have K134 : Rc K0 T133 (mkF m 584 #[sR r, sR b, sR no, sI (-1), sI 1, sI 1, sI 1, sI 0, sI 0, sI 1, sI 0, sI 0, sI 0, sI 0, sI 1] [(kR r)]) := fun t k => K132 t (st133 t (by
    refine XS.iload X133.here hx rfl (hD 277 rfl) rfl ?_
    refine XS.ifYes X133.here hx rfl (pc0 := 546) (pc' := 583) rfl (hD 278 rfl) rfl (by decide) (by decide) (by decide) ?_
    refine XS.aloadN X133.here hx rfl (hD 297 rfl) rfl rfl ?_
    exact k))
  obtain ⟨T135, X135, e135, st135⟩ := getF X133 hx hZ hown (host := "") (Or.inl (hw _ (mi 107 rfl))) Via.refl e133 (W133.fld (i := 0) rfl (j := 15) rfl rfl) (g := K134.g) rfl rfl (hD 298 rfl)
  have K136 : Rc K0 T135 (mkF m 591 #[sR r, sR b, sR no, sI (-1), sI 1, sI 1, sI 1, sI 0, sI 0, sI 1, sI 0, sI 0, sI 0, sI 0, sI 1] [(kR r)]) := fun t k => K134 t (st135 t (by
    refine XS.ifnonnullNo X135.here hx rfl (hD 299 rfl) rfl ?_
    refine XS.aloadN X135.here hx rfl (hD 300 rfl) rfl rfl ?_
    exact k))
  have W137 : Wo n0 h133 ((r, oR Z [(kR ks), (kR rgs), (kR ns), (kR fch), (kR fk), (kR kl), (kR frg), (kR fac), (kR fcm), (kR ftr), (kR acs), (kR cms), (kR sus), (kR prb), (kI 2), .null, (kI 1), .null, .null, .null, .null, .null, .null, (kI 0), (kI 0)]) :: (prb, Ar Z .double 64 g_prb) :: (b, oB Z [.null, (kI 0), (kR vv), (kI (Int32.ofNat u)), (kR fa), (kR ac), (kR fc), (kR cm), (kR ft), (kR su), (kR pr), (kI 1), (kI 0), (kI 0), (kI 1), .null]) :: (ks, Ar Z .int 0 g_ks) :: (rgs, Ar Z .int 0 (cpy f8 g_rgs 0 0 0)) :: (ns, Ar Z .int 16 (upd g_ns 1 (kI (-1)))) :: (fch, Ar Z .int 17 (upd g_fch 2 (kI 2))) :: (fk, Ar Z .int 17 (upd g_fk 2 (kI 0))) :: (kl, Ar Z .int 16 (upd g_kl 1 (kI (-1)))) :: (frg, Ar Z .int 17 (upd g_frg 2 (kI 0))) :: (fac, Ar Z .int 17 (upd (upd g_fac 1 (kI 0)) 2 (kI 0))) :: (fcm, Ar Z .int 17 (upd (upd g_fcm 1 (kI 0)) 2 (kI 0))) :: (ftr, Ar Z .int 17 (upd (upd g_ftr 1 (kI 1)) 2 (kI 2))) :: (acs, Ar Z .int 16 (cpy f4 g_acs 0 0 0)) :: (cms, Ar Z .int 16 (cpy f5 g_cms 0 0 0)) :: (sus, Ar Z .int 64 (cpy f6 g_sus 0 1 1)) :: (fa, Ar Z .int 2 f1) :: (fc, Ar Z .int 2 f2) :: (ft, Ar Z .int 2 f3) :: (ac, Ar Z .int 2 f4) :: (cm, Ar Z .int 2 f5) :: (su, Ar Z .int 4 f6) :: (pr, Ar Z .double 4 f7) :: (no, Ar Z .int 0 f8) :: (vv, Ar Z .double 4 g_vv) :: Rr) := Wo.pick W133 [0, 15, 1, 2, 3, 4, 5, 6, 7, 8, 9, 10, 11, 12, 13, 14, 16, 17, 18, 19, 20, 21, 22, 23, 24] 25 (by decide +kernel) rfl
  obtain ⟨cq138, q138, q138'⟩ := (W137.exa (i := 0) rfl).cell
  obtain ⟨_, _, ⟨T138, L138, k138, n138⟩, -, X138, ⟨Lc138, hQ138, l138, y138, z138⟩, st138⟩ := Jvm.OwnKit.privB X135 hx (y := y_sr) hown (mvT hZ (hw _ (mi 123 rfl))) (mvT hZ (hw _ (mi 124 rfl))) (mvT hZ (hw _ (mi 8 rfl))) (Cond.privateMethod_at (mvP hZ (hw _ (mi 125 rfl)) (args := #[]))) (mvT hZ (hw _ (mi 126 rfl))) (by decide) (backOf (W := 0) (rmSR1 l Z a0 hw [] r ks rgs ns fch fk kl frg fac fcm ftr acs cms sus prb (2 : Int32) g_prb ((b, oB Z [.null, (kI 0), (kR vv), (kI (Int32.ofNat u)), (kR fa), (kR ac), (kR fc), (kR cm), (kR ft), (kR su), (kR pr), (kI 1), (kI 0), (kI 0), (kI 1), .null]) :: (ks, Ar Z .int 0 g_ks) :: (rgs, Ar Z .int 0 (cpy f8 g_rgs 0 0 0)) :: (ns, Ar Z .int 16 (upd g_ns 1 (kI (-1)))) :: (fch, Ar Z .int 17 (upd g_fch 2 (kI 2))) :: (fk, Ar Z .int 17 (upd g_fk 2 (kI 0))) :: (kl, Ar Z .int 16 (upd g_kl 1 (kI (-1)))) :: (frg, Ar Z .int 17 (upd g_frg 2 (kI 0))) :: (fac, Ar Z .int 17 (upd (upd g_fac 1 (kI 0)) 2 (kI 0))) :: (fcm, Ar Z .int 17 (upd (upd g_fcm 1 (kI 0)) 2 (kI 0))) :: (ftr, Ar Z .int 17 (upd (upd g_ftr 1 (kI 1)) 2 (kI 2))) :: (acs, Ar Z .int 16 (cpy f4 g_acs 0 0 0)) :: (cms, Ar Z .int 16 (cpy f5 g_cms 0 0 0)) :: (sus, Ar Z .int 64 (cpy f6 g_sus 0 1 1)) :: (fa, Ar Z .int 2 f1) :: (fc, Ar Z .int 2 f2) :: (ft, Ar Z .int 2 f3) :: (ac, Ar Z .int 2 f4) :: (cm, Ar Z .int 2 f5) :: (su, Ar Z .int 4 f6) :: (pr, Ar Z .double 4 f7) :: (no, Ar Z .int 0 f8) :: (vv, Ar Z .double 4 g_vv) :: Rr) h133 n0 W137) hZ (hw _ (mi 126 rfl)) (hw _ (mi 9 rfl)) (by decide) (by decide)) (g := K136.g) rfl (by rw [hml]; rfl) (Steps.refl _) (a := r) (by rw [e135]; exact q138) q138' (argsL := []) (rest := []) (lenOf pd_sr rfl) rfl (by show 2 * 0 + _ ≤ _; exact Nat.le_of_eq rfl) (hD 301 rfl) (fun _ _ => ⟨rfl, e135, (by decide : 0 + 8 ≤ _), (by decide : 0 + 92 ≤ _)⟩)
  dsimp only [Pt.U, Pt.locs, Pt.cells, Pt.slots] at X138 l138 y138 z138 st138 hQ138
  subst l138 y138 z138
  obtain ⟨a50_138, a40_138, a21_138, a18_138, a15_138, a12_138, a9_138, a6_138, rfl, N138q, W138⟩ := hQ138
  have N138 := Fr.app N133 N138q
  have K139 : Rc K0 T138 (mkF m 596 #[sR r, sR b, sR no, sI (-1), sI 1, sI 1, sI 1, sI 0, sI 0, sI 1, sI 0, sI 0, sI 0, sI 0, sI 1] [(kR r), (kR r)]) := fun t k => K136 t (st138.trans (by
    refine XS.aloadN X138.here hx rfl (hD 302 rfl) rfl rfl ?_
    refine XS.aloadN X138.here hx rfl (hD 303 rfl) rfl rfl ?_
    exact k))
  obtain ⟨T140, X140, e140, st140⟩ := getF X138 hx hZ hown (host := "") (Or.inl (hw _ (mi 107 rfl))) Via.refl (rfl : T138.heap = T138.heap) (W138.fld (i := 8) rfl (j := 15) rfl rfl) (g := K139.g) rfl rfl (hD 304 rfl)
  have K141 : Rc K0 T140 (mkF m 600 #[sR r, sR b, sR no, sI (-1), sI 1, sI 1, sI 1, sI 0, sI 0, sI 1, sI 0, sI 0, sI 0, sI 0, sI 1] [(kR r), (kR a6_138), (kR r)]) := fun t k => K139 t (st140 t (XS.aloadN X140.here hx rfl (hD 305 rfl) rfl rfl k))
  obtain ⟨T142, X142, e142, st142⟩ := getF X140 hx hZ hown (host := "") (Or.inl (hw _ (mi 103 rfl))) Via.refl e140 (W138.fld (i := 8) rfl (j := 14) rfl rfl) (g := K141.g) rfl rfl (hD 306 rfl)
  have W143 : Wo n0 T138.heap ((a6_138, Ar Z .int 4 (upd zI 0 (kI 0))) :: (a50_138, Ar Z .double 64 zD) :: (a40_138, Pg Z .double 4 (upd (upd zN 0 (kR prb)) 1 (kR a50_138))) :: (a21_138, Ar Z .int 4 zI) :: (a18_138, Ar Z .int 4 zI) :: (a15_138, Ar Z .int 4 zI) :: (a12_138, Ar Z .int 4 (upd zI 0 (kI (-1)))) :: (a9_138, Ar Z .int 4 (upd zI 0 (kI 0))) :: (r, oR Z [(kR ks), (kR rgs), (kR ns), (kR fch), (kR fk), (kR kl), (kR frg), (kR fac), (kR fcm), (kR ftr), (kR acs), (kR cms), (kR sus), (kR prb), (kI 2), (kR a6_138), (kI 1), (kR a9_138), (kR a12_138), (kR a15_138), (kR a18_138), (kR a21_138), (kR a40_138), (kI 2), (kI 0)]) :: (prb, Ar Z .double 64 g_prb) :: (b, oB Z [.null, (kI 0), (kR vv), (kI (Int32.ofNat u)), (kR fa), (kR ac), (kR fc), (kR cm), (kR ft), (kR su), (kR pr), (kI 1), (kI 0), (kI 0), (kI 1), .null]) :: (ks, Ar Z .int 0 g_ks) :: (rgs, Ar Z .int 0 (cpy f8 g_rgs 0 0 0)) :: (ns, Ar Z .int 16 (upd g_ns 1 (kI (-1)))) :: (fch, Ar Z .int 17 (upd g_fch 2 (kI 2))) :: (fk, Ar Z .int 17 (upd g_fk 2 (kI 0))) :: (kl, Ar Z .int 16 (upd g_kl 1 (kI (-1)))) :: (frg, Ar Z .int 17 (upd g_frg 2 (kI 0))) :: (fac, Ar Z .int 17 (upd (upd g_fac 1 (kI 0)) 2 (kI 0))) :: (fcm, Ar Z .int 17 (upd (upd g_fcm 1 (kI 0)) 2 (kI 0))) :: (ftr, Ar Z .int 17 (upd (upd g_ftr 1 (kI 1)) 2 (kI 2))) :: (acs, Ar Z .int 16 (cpy f4 g_acs 0 0 0)) :: (cms, Ar Z .int 16 (cpy f5 g_cms 0 0 0)) :: (sus, Ar Z .int 64 (cpy f6 g_sus 0 1 1)) :: (fa, Ar Z .int 2 f1) :: (fc, Ar Z .int 2 f2) :: (ft, Ar Z .int 2 f3) :: (ac, Ar Z .int 2 f4) :: (cm, Ar Z .int 2 f5) :: (su, Ar Z .int 4 f6) :: (pr, Ar Z .double 4 f7) :: (no, Ar Z .int 0 f8) :: (vv, Ar Z .double 4 g_vv) :: Rr) := Wo.pick W138 [7, 0, 1, 2, 3, 4, 5, 6, 8, 9, 10, 11, 12, 13, 14, 15, 16, 17, 18, 19, 20, 21, 22, 23, 24, 25, 26, 27, 28, 29, 30, 31, 32] 33 (by decide +kernel) rfl
  obtain ⟨_, _, ⟨T144, L144, k144, n144⟩, -, X144, ⟨Lc144, hQ144, l144, y144, z144⟩, st144⟩ := Jvm.LawKit.callS X142 hx (y := y_rm) hown (mvT hZ (hw _ (mi 172 rfl))) (mvT hZ (hw _ (mi 173 rfl))) (mvT hZ (hw _ (mi 9 rfl))) (mvT hZ (hw _ (mi 174 rfl))) (by decide) (backOf (W := 1) (rmRM2 l Z a0 hw [] a6_138 (upd zI 0 (kI 0)) ((a50_138, Ar Z .double 64 zD) :: (a40_138, Pg Z .double 4 (upd (upd zN 0 (kR prb)) 1 (kR a50_138))) :: (a21_138, Ar Z .int 4 zI) :: (a18_138, Ar Z .int 4 zI) :: (a15_138, Ar Z .int 4 zI) :: (a12_138, Ar Z .int 4 (upd zI 0 (kI (-1)))) :: (a9_138, Ar Z .int 4 (upd zI 0 (kI 0))) :: (r, oR Z [(kR ks), (kR rgs), (kR ns), (kR fch), (kR fk), (kR kl), (kR frg), (kR fac), (kR fcm), (kR ftr), (kR acs), (kR cms), (kR sus), (kR prb), (kI 2), (kR a6_138), (kI 1), (kR a9_138), (kR a12_138), (kR a15_138), (kR a18_138), (kR a21_138), (kR a40_138), (kI 2), (kI 0)]) :: (prb, Ar Z .double 64 g_prb) :: (b, oB Z [.null, (kI 0), (kR vv), (kI (Int32.ofNat u)), (kR fa), (kR ac), (kR fc), (kR cm), (kR ft), (kR su), (kR pr), (kI 1), (kI 0), (kI 0), (kI 1), .null]) :: (ks, Ar Z .int 0 g_ks) :: (rgs, Ar Z .int 0 (cpy f8 g_rgs 0 0 0)) :: (ns, Ar Z .int 16 (upd g_ns 1 (kI (-1)))) :: (fch, Ar Z .int 17 (upd g_fch 2 (kI 2))) :: (fk, Ar Z .int 17 (upd g_fk 2 (kI 0))) :: (kl, Ar Z .int 16 (upd g_kl 1 (kI (-1)))) :: (frg, Ar Z .int 17 (upd g_frg 2 (kI 0))) :: (fac, Ar Z .int 17 (upd (upd g_fac 1 (kI 0)) 2 (kI 0))) :: (fcm, Ar Z .int 17 (upd (upd g_fcm 1 (kI 0)) 2 (kI 0))) :: (ftr, Ar Z .int 17 (upd (upd g_ftr 1 (kI 1)) 2 (kI 2))) :: (acs, Ar Z .int 16 (cpy f4 g_acs 0 0 0)) :: (cms, Ar Z .int 16 (cpy f5 g_cms 0 0 0)) :: (sus, Ar Z .int 64 (cpy f6 g_sus 0 1 1)) :: (fa, Ar Z .int 2 f1) :: (fc, Ar Z .int 2 f2) :: (ft, Ar Z .int 2 f3) :: (ac, Ar Z .int 2 f4) :: (cm, Ar Z .int 2 f5) :: (su, Ar Z .int 4 f6) :: (pr, Ar Z .double 4 f7) :: (no, Ar Z .int 0 f8) :: (vv, Ar Z .double 4 g_vv) :: Rr) T138.heap n0 W143) hZ (hw _ (mi 174 rfl)) (hw _ (mi 9 rfl)) (by decide) (by decide)) (g := (mkF m 603 #[sR r, sR b, sR no, sI (-1), sI 1, sI 1, sI 1, sI 0, sI 0, sI 1, sI 0, sI 0, sI 0, sI 0, sI 1] [(kI 2), (kR a6_138), (kR r)])) rfl (by rw [hml]; rfl) (argsL := [(.ref a6_138), (.int (2 : Int32))]) (rest := [(.ref r)]) (lenOf pd_rm rfl) rfl (by show 2 * 0 + _ ≤ _; exact Nat.le_of_eq rfl) (hD 307 rfl) (fun _ _ => ⟨rfl, e142, (by decide : 8 + 0 ≤ _), (by decide : 92 + 0 ≤ _)⟩)
  dsimp only [Pt.U, Pt.locs, Pt.cells, Pt.slots] at X144 l144 y144 z144 st144 hQ144
  subst l144 y144 z144
  obtain ⟨rfl, N144q, W144⟩ := hQ144
  have N144 := Fr.app N138 N144q
  obtain ⟨T145, h145, L145, X145, e145, N145, W145q, st145⟩ := putW X144 hx hZ hown (host := "") (Or.inl (hw _ (mi 107 rfl))) (rfl : T144.heap = T144.heap) W144 N144 (own_dR hw) (Or.inl (hw _ (mi 108 rfl))) (hw _ (mi 8 rfl)) (ty := (.array .int)) (by decide +kernel) (i := 8) (a := r) rfl (j := 15) rfl rfl (v := (.ref a6_138)) rfl rfl (g := (mkF m 606 #[sR r, sR b, sR no, sI (-1), sI 1, sI 1, sI 1, sI 0, sI 0, sI 1, sI 0, sI 0, sI 0, sI 0, sI 1] [(kR a6_138), (kR r)])) rfl rfl (hD 308 rfl)
  have K146 : Rc K0 T145 (mkF m 609 #[sR r, sR b, sR no, sI (-1), sI 1, sI 1, sI 1, sI 0, sI 0, sI 1, sI 0, sI 0, sI 0, sI 0, sI 1] []) := fun t k => K141 t (st142 t (st144 t (st145 t (k))))
  have K147 : Rc K0 T145 (mkF m 610 #[sR r, sR b, sR no, sI (-1), sI 1, sI 1, sI 1, sI 0, sI 0, sI 1, sI 0, sI 0, sI 0, sI 0, sI 1] [(kR r)]) := fun t k => K146 t (XS.aloadN X145.here hx rfl (hD 309 rfl) rfl rfl k)
  obtain ⟨T148, X148, e148, st148⟩ := getF X145 hx hZ hown (host := "") (Or.inl (hw _ (mi 107 rfl))) Via.refl e145 (W145q.fld (i := 8) rfl (j := 15) rfl rfl) (g := K147.g) rfl rfl (hD 310 rfl)
  have K149 : Rc K0 T148 (mkF m 616 #[sR r, sR b, sR no, sI (-1), sI 1, sI 1, sI 1, sI 0, sI 0, sI 1, sI 0, sI 0, sI 0, sI 0, sI 1] [(kI (-1)), (kI 1), (kR a6_138)]) := fun t k => K147 t (st148 t (by
    refine XS.iload X148.here hx rfl (hD 311 rfl) rfl ?_
    refine XS.iconst X148.here hx rfl (hD 312 rfl) ?_
    exact k))
  obtain ⟨T150, h150, L150, X150, e150, N150, W150q, st150⟩ := iasW X148 hx hZ e148 W145q N145 (i := 0) (a := a6_138) rfl (j := (1 : Int32)) (x := (-1 : Int32)) (k := 1) (by decide) (by decide) (by decide) (g := K149.g) rfl rfl (hD 313 rfl)
  have K151 : Rc K0 T150 (mkF m 621 #[sR r, sR b, sR no, sI (-1), sI 1, sI 1, sI 1, sI 0, sI 0, sI 1, sI 0, sI 0, sI 0, sI 0, sI 1] [(kR b), (kI 1), (kR r)]) := fun t k => K149 t (st150 t (by
    refine XS.aloadN X150.here hx rfl (hD 314 rfl) rfl rfl ?_
    refine XS.iload X150.here hx rfl (hD 315 rfl) rfl ?_
    refine XS.aloadN X150.here hx rfl (hD 316 rfl) rfl rfl ?_
    exact k))
  obtain ⟨T152, X152, e152, st152⟩ := getR X150 hx hZ hown (hw _ (mi 175 rfl)) e150 (W150q.fld (i := 10) rfl (j := 2) rfl rfl) (g := K151.g) rfl rfl (hD 317 rfl)
  have K153 : Rc K0 T152 (mkF m 625 #[sR r, sR b, sR no, sI (-1), sI 1, sI 1, sI 1, sI 0, sI 0, sI 1, sI 0, sI 0, sI 0, sI 0, sI 1] [(kR b), (kR vv), (kI 1), (kR r)]) := fun t k => K151 t (st152 t (XS.aloadN X152.here hx rfl (hD 318 rfl) rfl rfl k))
  obtain ⟨T154, X154, e154, st154⟩ := getR X152 hx hZ hown (hw _ (mi 109 rfl)) e152 (W150q.fld (i := 10) rfl (j := 3) rfl rfl) (g := K153.g) rfl rfl (hD 319 rfl)
  have K155 : Rc K0 T154 (mkF m 629 #[sR r, sR b, sR no, sI (-1), sI 1, sI 1, sI 1, sI 0, sI 0, sI 1, sI 0, sI 0, sI 0, sI 0, sI 1] [(kR b), (kI (Int32.ofNat u)), (kR vv), (kI 1), (kR r)]) := fun t k => K153 t (st154 t (XS.aloadN X154.here hx rfl (hD 320 rfl) rfl rfl k))
  obtain ⟨T156, X156, e156, st156⟩ := getR X154 hx hZ hown (hw _ (mi 176 rfl)) e154 (W150q.fld (i := 10) rfl (j := 10) rfl rfl) (g := K155.g) rfl rfl (hD 321 rfl)
  have W157 : Wo n0 h150 ((r, oR Z [(kR ks), (kR rgs), (kR ns), (kR fch), (kR fk), (kR kl), (kR frg), (kR fac), (kR fcm), (kR ftr), (kR acs), (kR cms), (kR sus), (kR prb), (kI 2), (kR a6_138), (kI 1), (kR a9_138), (kR a12_138), (kR a15_138), (kR a18_138), (kR a21_138), (kR a40_138), (kI 2), (kI 0)]) :: (ftr, Ar Z .int 17 (upd (upd g_ftr 1 (kI 1)) 2 (kI 2))) :: (fch, Ar Z .int 17 (upd g_fch 2 (kI 2))) :: (a40_138, Pg Z .double 4 (upd (upd zN 0 (kR prb)) 1 (kR a50_138))) :: (a50_138, Ar Z .double 64 zD) :: (a6_138, Ar Z .int 4 (upd (upd zI 0 (kI 0)) 1 (kI (-1)))) :: (a9_138, Ar Z .int 4 (upd zI 0 (kI 0))) :: (a12_138, Ar Z .int 4 (upd zI 0 (kI (-1)))) :: (a15_138, Ar Z .int 4 zI) :: (a18_138, Ar Z .int 4 zI) :: (a21_138, Ar Z .int 4 zI) :: (vv, Ar Z .double 4 g_vv) :: (pr, Ar Z .double 4 f7) :: (prb, Ar Z .double 64 g_prb) :: (b, oB Z [.null, (kI 0), (kR vv), (kI (Int32.ofNat u)), (kR fa), (kR ac), (kR fc), (kR cm), (kR ft), (kR su), (kR pr), (kI 1), (kI 0), (kI 0), (kI 1), .null]) :: (ks, Ar Z .int 0 g_ks) :: (rgs, Ar Z .int 0 (cpy f8 g_rgs 0 0 0)) :: (ns, Ar Z .int 16 (upd g_ns 1 (kI (-1)))) :: (fk, Ar Z .int 17 (upd g_fk 2 (kI 0))) :: (kl, Ar Z .int 16 (upd g_kl 1 (kI (-1)))) :: (frg, Ar Z .int 17 (upd g_frg 2 (kI 0))) :: (fac, Ar Z .int 17 (upd (upd g_fac 1 (kI 0)) 2 (kI 0))) :: (fcm, Ar Z .int 17 (upd (upd g_fcm 1 (kI 0)) 2 (kI 0))) :: (acs, Ar Z .int 16 (cpy f4 g_acs 0 0 0)) :: (cms, Ar Z .int 16 (cpy f5 g_cms 0 0 0)) :: (sus, Ar Z .int 64 (cpy f6 g_sus 0 1 1)) :: (fa, Ar Z .int 2 f1) :: (fc, Ar Z .int 2 f2) :: (ft, Ar Z .int 2 f3) :: (ac, Ar Z .int 2 f4) :: (cm, Ar Z .int 2 f5) :: (su, Ar Z .int 4 f6) :: (no, Ar Z .int 0 f8) :: Rr) := Wo.pick W150q [8, 20, 14, 2, 1, 0, 7, 6, 5, 4, 3, 32, 30, 9, 10, 11, 12, 13, 15, 16, 17, 18, 19, 21, 22, 23, 24, 25, 26, 27, 28, 29, 31] 33 (by decide +kernel) rfl
  obtain ⟨cq158, q158, q158'⟩ := (W157.exa (i := 0) rfl).cell
  obtain ⟨_, _, ⟨T158, L158, k158, n158⟩, -, X158, ⟨Lc158, hQ158, l158, y158, z158⟩, st158⟩ := Jvm.OwnKit.privB X156 hx (y := y_pl) hown (mvT hZ (hw _ (mi 177 rfl))) (mvT hZ (hw _ (mi 178 rfl))) (mvT hZ (hw _ (mi 8 rfl))) (Cond.privateMethod_at (mvP hZ (hw _ (mi 179 rfl)) (args := #[]))) (mvT hZ (hw _ (mi 180 rfl))) (by decide) (backOf (W := 0) (rmPL11 l Z a0 hw [] r ks rgs ns fch fk kl frg fac fcm ftr acs cms sus prb a6_138 a9_138 a12_138 a15_138 a18_138 a21_138 a40_138 a50_138 vv pr u (upd (upd g_ftr 1 (kI 1)) 2 (kI 2)) (upd g_fch 2 (kI 2)) (upd (upd zN 0 (kR prb)) 1 (kR a50_138)) zD (upd (upd zI 0 (kI 0)) 1 (kI (-1))) (upd zI 0 (kI 0)) (upd zI 0 (kI (-1))) zI zI zI g_vv f7 ((prb, Ar Z .double 64 g_prb) :: (b, oB Z [.null, (kI 0), (kR vv), (kI (Int32.ofNat u)), (kR fa), (kR ac), (kR fc), (kR cm), (kR ft), (kR su), (kR pr), (kI 1), (kI 0), (kI 0), (kI 1), .null]) :: (ks, Ar Z .int 0 g_ks) :: (rgs, Ar Z .int 0 (cpy f8 g_rgs 0 0 0)) :: (ns, Ar Z .int 16 (upd g_ns 1 (kI (-1)))) :: (fk, Ar Z .int 17 (upd g_fk 2 (kI 0))) :: (kl, Ar Z .int 16 (upd g_kl 1 (kI (-1)))) :: (frg, Ar Z .int 17 (upd g_frg 2 (kI 0))) :: (fac, Ar Z .int 17 (upd (upd g_fac 1 (kI 0)) 2 (kI 0))) :: (fcm, Ar Z .int 17 (upd (upd g_fcm 1 (kI 0)) 2 (kI 0))) :: (acs, Ar Z .int 16 (cpy f4 g_acs 0 0 0)) :: (cms, Ar Z .int 16 (cpy f5 g_cms 0 0 0)) :: (sus, Ar Z .int 64 (cpy f6 g_sus 0 1 1)) :: (fa, Ar Z .int 2 f1) :: (fc, Ar Z .int 2 f2) :: (ft, Ar Z .int 2 f3) :: (ac, Ar Z .int 2 f4) :: (cm, Ar Z .int 2 f5) :: (su, Ar Z .int 4 f6) :: (no, Ar Z .int 0 f8) :: Rr) h150 n0 W157 (by omega) (by omega) rfl rfl h_fch rfl rfl rfl) hZ (hw _ (mi 180 rfl)) (hw _ (mi 9 rfl)) (by decide) (by decide)) (g := (mkF m 632 #[sR r, sR b, sR no, sI (-1), sI 1, sI 1, sI 1, sI 0, sI 0, sI 1, sI 0, sI 0, sI 0, sI 0, sI 1] [(kR pr), (kI (Int32.ofNat u)), (kR vv), (kI 1), (kR r)])) rfl (by rw [hml]; rfl) (Steps.refl _) (a := r) (by rw [e156]; exact q158) q158' (argsL := [(.int (1 : Int32)), (.ref vv), (.int (Int32.ofNat u)), (.ref pr)]) (rest := []) (lenOf pd_pl rfl) rfl (by show 2 * 0 + _ ≤ _; exact Nat.le_of_eq rfl) (hD 322 rfl) (fun _ _ => ⟨rfl, e156, (by decide : 8 + 0 ≤ _), (by decide : 92 + 0 ≤ _)⟩)
  dsimp only [Pt.U, Pt.locs, Pt.cells, Pt.slots] at X158 l158 y158 z158 st158 hQ158
  subst l158 y158 z158
  obtain ⟨rfl, N158q, W158⟩ := hQ158
  have N158 := Fr.app N150 N158q
  have K159 : Rc K0 T158 (mkF m 639 #[sR r, sR b, sR no, sI (-1), sI 1, sI 1, sI 1, sI 0, sI 0, sI 1, sI 0, sI 0, sI 0, sI 0, sI 1] [(kI 1)]) := fun t k => K155 t (st156 t (st158.trans (by
    refine XS.istore X158.here hx rfl (hD 323 rfl) rfl (l' := #[sR r, sR b, sR no, sI (-1), sI 1, sI 1, sI 1, sI 0, sI 0, sI 1, sI 0, sI 0, sI 0, sI 0, sI 1]) rfl ?_
    refine XS.iload X158.here hx rfl (hD 324 rfl) rfl ?_
    exact k)))
  obtain ⟨fs, hr, hrun, hended, hWm, hsame⟩ := X158.leave (v := some (.int (1 : Int32))) (fun h => by rw [Bd.returns] at h; cases h)
  refine ⟨_, _, pre0 _ (K159 _ (retI X158 hx Bd.returns (hD 325 rfl) hr)), hrun, hended, _, _, rfl, ?_, ⟨_, rfl⟩, hWm, hsame.mono (by decide) (by decide)⟩
  show QrmADV1 Z r ks rgs ns fch fk kl frg fac fcm ftr acs cms sus prb b fa ac fc cm ft su pr no vv u g_ks g_rgs g_ns g_fch g_fk g_kl g_frg g_fac g_fcm g_ftr g_acs g_cms g_sus g_prb f1 f2 f3 f4 f5 f6 f7 f8 g_vv Rr n0 _ T158.heap _
  exact ⟨a40_138, a50_138, a6_138, a9_138, a12_138, a15_138, a18_138, a21_138, rfl, N158, W158⟩
def own_dv : Value → UInt64
  | .double z => z
  | _ => 0
theorem own_fitsD {v : Value} (h : fits .double v = true) : v = .double (own_dv v) := by cases v <;> simp [fits] at h ⊢ <;> rfl
theorem own_arD {n0 : Nat} {h : Heap} {E : List (Addr × (Cell → Prop))} {i : Nat} {a : Addr} {Z : State} {n : Nat} {f : Nat → Value} (W : Wo n0 h E) (hi : E[i]? = some (a, Ar Z .double n f)) {k : Nat} (hk : k < n) : f k = .double (own_dv (f k)) := by
  obtain ⟨-, c, -, A⟩ := W.at hi
  exact own_fitsD (A.2.2.2.2.2 k hk).2
def own_pos (x : UInt64) : Bool := decide ((0 : Int32) < cmpValue (FP.dcmp x 0) .l)
def own_same (x y : UInt64) : Bool := decide (own_bi (own_pos x) = own_bi (own_pos y))
theorem own_nar (b : Bool) : nar .boolean (own_bi b) = own_bi b := by cases b <;> rfl
theorem own_post {x : UInt64} (h : (0 : Int32) < cmpValue (FP.dcmp x 0) .l) : own_bi (own_pos x) = 1 := by unfold own_pos; rw [decide_eq_true h]; rfl
theorem own_posf {x : UInt64} (h : ¬ ((0 : Int32) < cmpValue (FP.dcmp x 0) .l)) : own_bi (own_pos x) = 0 := by unfold own_pos; rw [decide_eq_false h]; rfl
theorem own_samet {x y : UInt64} (h : own_bi (own_pos x) = own_bi (own_pos y)) : own_bi (own_same x y) = 1 := by unfold own_same; rw [decide_eq_true h]; rfl
theorem own_samef {x y : UInt64} (h : ¬ (own_bi (own_pos x) = own_bi (own_pos y))) : own_bi (own_same x y) = 0 := by unfold own_same; rw [decide_eq_false h]; rfl
abbrev y_dd : MethodName := ⟨"com/example/sambre/sambre/engine/RowsZeroAlikePinLaw", "d", "(II)D"⟩
theorem pd_dd : parseMethodDescriptor "(II)D" = some ⟨[.int, .int], some .double⟩ := by decide +kernel
theorem pn_RowsZeroAlikePinLaw : plainName "com/example/sambre/sambre/engine/RowsZeroAlikePinLaw" = true := by first | (simp [plainName, overriddenIn]; done) | decide +kernel
def Ld_dd : List (Nat × Instr × Nat) := [(0, .iload_n 0, 1), (1, .bipush 8, 2), (3, .iload_n 1, 1), (4, .imul, 1), (5, .ishr, 1), (6, .i2b, 1), (7, .i2d, 1), (8, .dreturn, 1)]
set_option maxRecDepth 65536 in
theorem d_dd : ∀ x ∈ Ld_dd, decode method_2_code x.1 = .ok (x.2.1, x.2.2) := by decide +kernel
theorem ef_rmDD (m : MethodId) (x i : Int32) : entryFrame m #[(.int x), (.int i)] 2 = mkF m 0 #[.val (.int x), .val (.int i)] [] := by first | (simp [entryFrame, mkF, argsToLocals, Value.category]; done) | rfl
def QrmDD (Z : State) (x i : Int32) (Rr : List (Addr × (Cell → Prop))) (n0 : Nat) (v : Option Value) (h : Heap) (L : List Loc) : Prop := ∃ z : UInt64, v = some (.double z) ∧ Fr n0 L ∧ Wo n0 h Rr
set_option maxRecDepth 65536 in
set_option maxHeartbeats 40000000 in
theorem rmDD (l : Launch) (Z : State) (a0 : Array Value) (hw : ∀ d ∈ tables_1, d.before a0 Z = true) (ws : List Jvm.Cond) (x i : Int32) (Rr : List (Addr × (Cell → Prop))) (h0 : Heap) (n0 : Nat) (W0 : Wo n0 h0 (Rr)) :
    MetFree l y_dd (head1 (Jvm.Cond.code y_dd method_2_code 2 (some .double) :: ws) ({ frames := 0, cells := 0, slots := 0, locals := 0 } : Room)) (fun aa U => aa = #[(.int x), (.int i)] ∧ Z.Warmed39 U.vm ∧ U.heap = h0) (fun _ _ _ _ _ => True) (fun _ U ou U' => ∃ v L, ou = .returned v ∧ QrmDD Z x i Rr n0 v U'.heap L ∧ FrameEnd U ou U' L ({ frames := 0, cells := 0, slots := 0, locals := 0 } : Room).cells ({ frames := 0, cells := 0, slots := 0, locals := 0 } : Room).slots) := by
  refine MetFree.of_bodySF (plainFor_of_name pn_RowsZeroAlikePinLaw) hisR ?_
  intro p e s m args below meth c s₁ Bd hml0 hP hK
  obtain ⟨rfl, hZ, hh⟩ := hP
  have hx := Bd.exec
  have hby := Bd.bytes
  have hml : c.maxLocals = 2 := hml0
  have hD : ∀ (k : Nat) {pc : Nat} {i : Instr} {n : Nat}, Ld_dd[k]? = some (pc, i, n) → decode c.code pc = .ok (i, n) := by intro k pc i n h; exact hb hby (d_dd (pc, i, n) (mi k h))
  have hown : s.vm.findClass "com/example/sambre/sambre/engine/RowsZeroAlikePinLaw" = some m.cls := findClass_of_methodNamed Bd.named
  have hnm := (name_of_methodNamed Bd.named Bd.method).1
  have X0 : Stand p l e ({ frames := 0, cells := 0, slots := 0, locals := 0 } : Room) s m #[(.int x), (.int i)] below meth c s₁ [] 0 0 := Stand.of_body Bd
  have e0 : s₁.heap = h0 := by rw [← hh, Bd.state]; rfl
  have N0 := Fr.nil n0
  obtain ⟨F0, hF0⟩ : ∃ F, F = mkF m 0 #[.val (.int x), .val (.int i)] [] := ⟨_, rfl⟩
  have pre0 : ∀ t, Steps p.tables e below (s₁.setTop F0) t → Steps p.tables e below (s₁.setTop (entryFrame m #[(.int x), (.int i)] 2)) t := fun t k => castTop ((ef_rmDD m x i).trans hF0.symm) k
  have K0 : Rch p e below s₁ F0 s₁ (mkF m 0 #[.val (.int x), .val (.int i)] []) := fun t k => castTop hF0 k
  have K1 : Rc K0 s₁ (mkF m 8 #[sI x, sI i] [(kD (FP.i2d ((x >>> (((8 : Int32) * i) &&& 31))).toInt8.toInt32))]) := fun t k => K0 t (by
    refine XS.iloadN X0.here hx rfl (hD 0 rfl) rfl ?_
    refine XS.bipush X0.here hx rfl (hD 1 rfl) ?_
    refine XS.iloadN X0.here hx rfl (hD 2 rfl) rfl ?_
    refine XS.imul X0.here hx rfl (hD 3 rfl) rfl ?_
    refine XS.ishr X0.here hx rfl (hD 4 rfl) rfl ?_
    refine XS.i2b X0.here hx rfl (hD 5 rfl) rfl ?_
    refine XS.i2dS X0.here hx rfl (hD 6 rfl) rfl rfl ?_
    exact k)
  obtain ⟨fs, hr, hrun, hended, hWm, hsame⟩ := X0.leave (v := some (.double (FP.i2d ((x >>> (((8 : Int32) * i) &&& 31))).toInt8.toInt32))) (fun h => by rw [Bd.returns] at h; cases h)
  refine ⟨_, _, pre0 _ (K1 _ (Jvm.OwnKit.retD X0 hx Bd.returns (hD 7 rfl) hr)), hrun, hended, _, _, rfl, ?_, ⟨_, rfl⟩, hWm, hsame.mono (by decide) (by decide)⟩
  show QrmDD Z x i Rr n0 _ s₁.heap _
  rw [e0]
  exact ⟨_, rfl, N0, W0⟩
abbrev y_sm : MethodName := ⟨"com/example/sambre/sambre/engine/RowsZeroAlikePinLaw", "same", "(DD)Z"⟩
theorem pd_sm : parseMethodDescriptor "(DD)Z" = some ⟨[.double, .double], some .boolean⟩ := by decide +kernel
def Ld_sm : List (Nat × Instr × Nat) := [(0, .dload_n 0, 1), (1, .dconst 0, 1), (2, .dcmp .l, 1), (3, .ifCond .le 7, 3), (6, .iconst 1, 1), (7, .goto 4, 3), (10, .iconst 0, 1), (11, .dload_n 2, 1), (12, .dconst 0, 1), (13, .dcmp .l, 1), (14, .ifCond .le 7, 3), (17, .iconst 1, 1), (18, .goto 4, 3), (21, .iconst 0, 1), (22, .if_icmp .ne 7, 3), (25, .iconst 1, 1), (26, .goto 4, 3), (29, .iconst 0, 1), (30, .ireturn, 1)]
set_option maxRecDepth 65536 in
theorem d_sm : ∀ x ∈ Ld_sm, decode method_3_code x.1 = .ok (x.2.1, x.2.2) := by decide +kernel
theorem ef_rmSM (m : MethodId) (x y : UInt64) : entryFrame m #[(.double x), (.double y)] 4 = mkF m 0 #[.val (.double x), .second, .val (.double y), .second] [] := by first | (simp [entryFrame, mkF, argsToLocals, Value.category]; done) | rfl
def QrmSM (Z : State) (x y : UInt64) (Rr : List (Addr × (Cell → Prop))) (n0 : Nat) (v : Option Value) (h : Heap) (L : List Loc) : Prop := v = some (.int (own_bi (own_same x y))) ∧ Fr n0 L ∧ Wo n0 h Rr
set_option maxRecDepth 65536 in
set_option maxHeartbeats 40000000 in
theorem rmSM (l : Launch) (Z : State) (a0 : Array Value) (hw : ∀ d ∈ tables_1, d.before a0 Z = true) (ws : List Jvm.Cond) (x y : UInt64) (Rr : List (Addr × (Cell → Prop))) (h0 : Heap) (n0 : Nat) (W0 : Wo n0 h0 (Rr)) :
    MetFree l y_sm (head1 (Jvm.Cond.code y_sm method_3_code 4 (some .boolean) :: ws) ({ frames := 0, cells := 0, slots := 0, locals := 0 } : Room)) (fun aa U => aa = #[(.double x), (.double y)] ∧ Z.Warmed39 U.vm ∧ U.heap = h0) (fun _ _ _ _ _ => True) (fun _ U ou U' => ∃ v L, ou = .returned v ∧ QrmSM Z x y Rr n0 v U'.heap L ∧ FrameEnd U ou U' L ({ frames := 0, cells := 0, slots := 0, locals := 0 } : Room).cells ({ frames := 0, cells := 0, slots := 0, locals := 0 } : Room).slots) := by
  refine MetFree.of_bodySF (plainFor_of_name pn_RowsZeroAlikePinLaw) hisR ?_
  intro p e s m args below meth c s₁ Bd hml0 hP hK
  obtain ⟨rfl, hZ, hh⟩ := hP
  have hx := Bd.exec
  have hby := Bd.bytes
  have hml : c.maxLocals = 4 := hml0
  have hD : ∀ (k : Nat) {pc : Nat} {i : Instr} {n : Nat}, Ld_sm[k]? = some (pc, i, n) → decode c.code pc = .ok (i, n) := by intro k pc i n h; exact hb hby (d_sm (pc, i, n) (mi k h))
  have hown : s.vm.findClass "com/example/sambre/sambre/engine/RowsZeroAlikePinLaw" = some m.cls := findClass_of_methodNamed Bd.named
  have hnm := (name_of_methodNamed Bd.named Bd.method).1
  have X0 : Stand p l e ({ frames := 0, cells := 0, slots := 0, locals := 0 } : Room) s m #[(.double x), (.double y)] below meth c s₁ [] 0 0 := Stand.of_body Bd
  have e0 : s₁.heap = h0 := by rw [← hh, Bd.state]; rfl
  have N0 := Fr.nil n0
  obtain ⟨F0, hF0⟩ : ∃ F, F = mkF m 0 #[.val (.double x), .second, .val (.double y), .second] [] := ⟨_, rfl⟩
  have pre0 : ∀ t, Steps p.tables e below (s₁.setTop F0) t → Steps p.tables e below (s₁.setTop (entryFrame m #[(.double x), (.double y)] 4)) t := fun t k => castTop ((ef_rmSM m x y).trans hF0.symm) k
  have K0 : Rch p e below s₁ F0 s₁ (mkF m 0 #[.val (.double x), .second, .val (.double y), .second] []) := fun t k => castTop hF0 k
  have K1 : Rc K0 s₁ (mkF m 3 #[sD x, sV, sD y, sV] [(kI (cmpValue (FP.dcmp x (0 : UInt64)) .l))]) := fun t k => K0 t (by
    refine XS.dloadN X0.here hx rfl (hD 0 rfl) rfl ?_
    refine XS.dconst0 X0.here hx rfl (hD 1 rfl) rfl ?_
    refine XS.dcmpS X0.here hx rfl (hD 2 rfl) rfl rfl ?_
    exact k)
  have K2 : Rc K0 s₁ (mkF m 11 #[sD x, sV, sD y, sV] [(kI (own_bi (own_pos x)))]) := fun t k => K1 t (by
    by_cases hq : (0 : Int32) < cmpValue (FP.dcmp x 0) .l
    · rw [own_post hq] at k
      refine XS.ifNo X0.here hx rfl (hD 3 rfl) rfl ((if0 _ _).trans (tlt hq).2.2.2) ?_
      refine XS.iconst X0.here hx rfl (hD 4 rfl) ?_
      refine XS.goto X0.here hx rfl (pc0 := 7) (pc' := 11) rfl (hD 5 rfl) (by decide) (by decide) ?_
      exact k
    · rw [own_posf hq] at k
      refine XS.ifYes X0.here hx rfl (pc0 := 3) (pc' := 10) rfl (hD 3 rfl) rfl ((if0 _ _).trans (flt hq).2.2.2) (by decide) (by decide) ?_
      refine XS.iconst X0.here hx rfl (hD 6 rfl) ?_
      exact k)
  have K3 : Rc K0 s₁ (mkF m 14 #[sD x, sV, sD y, sV] [(kI (cmpValue (FP.dcmp y (0 : UInt64)) .l)), (kI (own_bi (own_pos x)))]) := fun t k => K2 t (by
    refine XS.dloadN X0.here hx rfl (hD 7 rfl) rfl ?_
    refine XS.dconst0 X0.here hx rfl (hD 8 rfl) rfl ?_
    refine XS.dcmpS X0.here hx rfl (hD 9 rfl) rfl rfl ?_
    exact k)
  have K4 : Rc K0 s₁ (mkF m 22 #[sD x, sV, sD y, sV] [(kI (own_bi (own_pos y))), (kI (own_bi (own_pos x)))]) := fun t k => K3 t (by
    by_cases hq : (0 : Int32) < cmpValue (FP.dcmp y 0) .l
    · rw [own_post hq] at k
      refine XS.ifNo X0.here hx rfl (hD 10 rfl) rfl ((if0 _ _).trans (tlt hq).2.2.2) ?_
      refine XS.iconst X0.here hx rfl (hD 11 rfl) ?_
      refine XS.goto X0.here hx rfl (pc0 := 18) (pc' := 22) rfl (hD 12 rfl) (by decide) (by decide) ?_
      exact k
    · rw [own_posf hq] at k
      refine XS.ifYes X0.here hx rfl (pc0 := 14) (pc' := 21) rfl (hD 10 rfl) rfl ((if0 _ _).trans (flt hq).2.2.2) (by decide) (by decide) ?_
      refine XS.iconst X0.here hx rfl (hD 13 rfl) ?_
      exact k)
  have K5 : Rc K0 s₁ (mkF m 30 #[sD x, sV, sD y, sV] [(kI (own_bi (own_same x y)))]) := fun t k => K4 t (by
    by_cases hq : own_bi (own_pos x) = own_bi (own_pos y)
    · rw [own_samet hq] at k
      refine XS.icmpNo X0.here hx rfl (hD 14 rfl) rfl (teq hq).2 ?_
      refine XS.iconst X0.here hx rfl (hD 15 rfl) ?_
      refine XS.goto X0.here hx rfl (pc0 := 26) (pc' := 30) rfl (hD 16 rfl) (by decide) (by decide) ?_
      exact k
    · rw [own_samef hq] at k
      refine XS.icmpYes X0.here hx rfl (pc0 := 22) (pc' := 29) rfl (hD 14 rfl) rfl (feq hq).2 (by decide) (by decide) ?_
      refine XS.iconst X0.here hx rfl (hD 17 rfl) ?_
      exact k)
  obtain ⟨fs, hr, hrun, hended, hWm, hsame⟩ := X0.leave (v := some (.int (nar .boolean (own_bi (own_same x y))))) (fun h => by rw [Bd.returns] at h; cases h)
  refine ⟨_, _, pre0 _ (K5 _ (retN X0 hx (t := .boolean) Bd.returns (by simp) (hD 18 rfl) hr)), hrun, hended, _, _, rfl, ?_, ⟨_, rfl⟩, hWm, hsame.mono (by decide) (by decide)⟩
  show QrmSM Z x y Rr n0 _ s₁.heap _
  rw [e0]
  exact ⟨by rw [own_nar], N0, W0⟩
def own_zr (A B : Nat → UInt64) (F : Nat) : Nat → Nat → Bool → Bool
  | 0, _, b => b
  | k + 1, i, b => if b then own_zr A B F k (i + 1) (own_same (A (F + i)) (B i)) else false
abbrev y_za : MethodName := ⟨"com/example/sambre/sambre/engine/Rows", "zeroAlike", "(I[D)Z"⟩
theorem pd_za : parseMethodDescriptor "(I[D)Z" = some ⟨[.int, (.array .double)], some .boolean⟩ := by decide +kernel
def Ld_za : List (Nat × Instr × Nat) := [(0, .aload_n 0, 1), (1, .getfield 67, 3), (4, .iload_n 1, 1), (5, .iaload, 1), (6, .istore_n 3, 1), (7, .aload_n 0, 1), (8, .getfield 139, 3), (11, .aload_n 0, 1), (12, .getfield 130, 3), (15, .iload_n 3, 1), (16, .iaload, 1), (17, .aaload, 1), (18, .astore 4, 2), (20, .aload_n 0, 1), (21, .getfield 136, 3), (24, .iload_n 3, 1), (25, .iaload, 1), (26, .istore 5, 2), (28, .aload_n 0, 1), (29, .getfield 133, 3), (32, .iload_n 3, 1), (33, .iaload, 1), (34, .aload_n 0, 1), (35, .getfield 37, 3), (38, .aload_n 0, 1), (39, .getfield 19, 3), (42, .iload_n 1, 1), (43, .iaload, 1), (44, .iaload, 1), (45, .iadd, 1), (46, .iload 5, 2), (48, .isub, 1), (49, .istore 6, 2), (51, .iconst 1, 1), (52, .istore 7, 2), (54, .iconst 0, 1), (55, .istore 8, 2), (57, .iload 8, 2), (59, .iload 5, 2), (61, .if_icmp .ge 56, 3), (64, .iload 7, 2), (66, .ifCond .eq 51, 3), (69, .aload 4, 2), (71, .iload 6, 2), (73, .iload 8, 2), (75, .iadd, 1), (76, .daload, 1), (77, .dconst 0, 1), (78, .dcmp .l, 1), (79, .ifCond .le 7, 3), (82, .iconst 1, 1), (83, .goto 4, 3), (86, .iconst 0, 1), (87, .aload_n 2, 1), (88, .iload 8, 2), (90, .daload, 1), (91, .dconst 0, 1), (92, .dcmp .l, 1), (93, .ifCond .le 7, 3), (96, .iconst 1, 1), (97, .goto 4, 3), (100, .iconst 0, 1), (101, .if_icmp .ne 7, 3), (104, .iconst 1, 1), (105, .goto 4, 3), (108, .iconst 0, 1), (109, .istore 7, 2), (111, .iinc 8 1, 3), (114, .goto (-57), 3), (117, .iload 7, 2), (119, .ireturn, 1)]
set_option maxRecDepth 65536 in
theorem d_za : ∀ x ∈ Ld_za, decode prog_87_method_20_code x.1 = .ok (x.2.1, x.2.2) := by decide +kernel
set_option maxRecDepth 65536 in
set_option maxHeartbeats 40000000 in
theorem tnZ1 {p : Program} {l : Launch} {e : Env} {R : Room} {s : State} {m : MethodId} {args : Array Value} {below : List Frame} {meth : Method} {c : Code} {s₁ : State} {F0 : JFrame} {T0 : State} {locs : List Loc} {cells slots : Nat} {Z : State} {a0 : Array Value} {n0 : Nat} {h0 : Heap} (bk qv : Addr) (gk gq : Nat → Value) (u F i : Nat) (l0 l1 l3 : Slot) (j : Int32) (Rr : List (Addr × (Cell → Prop)))
    (X0 : Stand p l e R s m args below meth c T0 locs cells slots) (hx : p.tables.exec = Jvm.exec) (hZ : Z.Warmed39 s.vm) (hw : ∀ d ∈ tables_1, d.before a0 Z = true) (hby : c.code = prog_87_method_20_code) (hml : c.maxLocals = 9) (hown : s.vm.findClass "com/example/sambre/sambre/engine/Rows" = some m.cls) (e0 : T0.heap = h0) (W0 : Wo n0 h0 ((bk, Ar Z .double 64 gk) :: (qv, Ar Z .double 4 gq) :: Rr)) (K0 : Rch p e below s₁ F0 T0 (mkF m 57 #[l0, l1, .val (.ref qv), l3, .val (.ref bk), .val (.int (Int32.ofNat u)), .val (.int (Int32.ofNat F)), .val (.int j), .val (.int (Int32.ofNat i))] [])) (hi : u ≤ i) (hbd : i ≤ 4) :
    ∃ T', Stand p l e R s m args below meth c T' locs cells slots ∧ T'.heap = h0 ∧ Rch p e below s₁ F0 T' (mkF m 117 #[l0, l1, .val (.ref qv), l3, .val (.ref bk), .val (.int (Int32.ofNat u)), .val (.int (Int32.ofNat F)), .val (.int j), .val (.int (Int32.ofNat i))] []) := by
  have hD : ∀ (k : Nat) {pc : Nat} {i : Instr} {n : Nat}, Ld_za[k]? = some (pc, i, n) → decode c.code pc = .ok (i, n) := by intro k pc i n h; exact hb hby (d_za (pc, i, n) (mi k h))
  have K1 : Rc K0 T0 (mkF m 117 #[l0, l1, sR qv, l3, sR bk, sI (Int32.ofNat u), sI (Int32.ofNat F), sI j, sI (Int32.ofNat i)] []) := fun t k => K0 t (by
    refine XS.iload X0.here hx rfl (hD 37 rfl) rfl ?_
    refine XS.iload X0.here hx rfl (hD 38 rfl) rfl ?_
    refine XS.icmpYes X0.here hx rfl (pc0 := 61) (pc' := 117) rfl (hD 39 rfl) rfl (flt (own_nlt (by omega) (by omega))).2.1 (by decide) (by decide) ?_
    exact k)
  exact ⟨T0, X0, e0, K1⟩
set_option maxRecDepth 65536 in
set_option maxHeartbeats 40000000 in
theorem tnZ2 {p : Program} {l : Launch} {e : Env} {R : Room} {s : State} {m : MethodId} {args : Array Value} {below : List Frame} {meth : Method} {c : Code} {s₁ : State} {F0 : JFrame} {T0 : State} {locs : List Loc} {cells slots : Nat} {Z : State} {a0 : Array Value} {n0 : Nat} {h0 : Heap} (bk qv : Addr) (gk gq : Nat → Value) (u F i : Nat) (l0 l1 l3 : Slot) (Rr : List (Addr × (Cell → Prop)))
    (X0 : Stand p l e R s m args below meth c T0 locs cells slots) (hx : p.tables.exec = Jvm.exec) (hZ : Z.Warmed39 s.vm) (hw : ∀ d ∈ tables_1, d.before a0 Z = true) (hby : c.code = prog_87_method_20_code) (hml : c.maxLocals = 9) (hown : s.vm.findClass "com/example/sambre/sambre/engine/Rows" = some m.cls) (e0 : T0.heap = h0) (W0 : Wo n0 h0 ((bk, Ar Z .double 64 gk) :: (qv, Ar Z .double 4 gq) :: Rr)) (K0 : Rch p e below s₁ F0 T0 (mkF m 57 #[l0, l1, .val (.ref qv), l3, .val (.ref bk), .val (.int (Int32.ofNat u)), .val (.int (Int32.ofNat F)), .val (.int (0 : Int32)), .val (.int (Int32.ofNat i))] [])) (hi : i < u) (hbd : u ≤ 4) :
    ∃ T', Stand p l e R s m args below meth c T' locs cells slots ∧ T'.heap = h0 ∧ Rch p e below s₁ F0 T' (mkF m 117 #[l0, l1, .val (.ref qv), l3, .val (.ref bk), .val (.int (Int32.ofNat u)), .val (.int (Int32.ofNat F)), .val (.int (0 : Int32)), .val (.int (Int32.ofNat i))] []) := by
  have hD : ∀ (k : Nat) {pc : Nat} {i : Instr} {n : Nat}, Ld_za[k]? = some (pc, i, n) → decode c.code pc = .ok (i, n) := by intro k pc i n h; exact hb hby (d_za (pc, i, n) (mi k h))
  have K1 : Rc K0 T0 (mkF m 117 #[l0, l1, sR qv, l3, sR bk, sI (Int32.ofNat u), sI (Int32.ofNat F), sI 0, sI (Int32.ofNat i)] []) := fun t k => K0 t (by
    refine XS.iload X0.here hx rfl (hD 37 rfl) rfl ?_
    refine XS.iload X0.here hx rfl (hD 38 rfl) rfl ?_
    refine XS.icmpNo X0.here hx rfl (hD 39 rfl) rfl (tlt (own_lt (by omega) (by omega))).2.1 ?_
    refine XS.iload X0.here hx rfl (hD 40 rfl) rfl ?_
    refine XS.ifYes X0.here hx rfl (pc0 := 66) (pc' := 117) rfl (hD 41 rfl) rfl (by decide) (by decide) (by decide) ?_
    exact k)
  exact ⟨T0, X0, e0, K1⟩
set_option maxRecDepth 65536 in
set_option maxHeartbeats 40000000 in
theorem tnZ {p : Program} {l : Launch} {e : Env} {R : Room} {s : State} {m : MethodId} {args : Array Value} {below : List Frame} {meth : Method} {c : Code} {s₁ : State} {F0 : JFrame} {T0 : State} {locs : List Loc} {cells slots : Nat} {Z : State} {a0 : Array Value} {n0 : Nat} {h0 : Heap} (bk qv : Addr) (gk gq : Nat → Value) (u F i : Nat) (l0 l1 l3 : Slot) (Rr : List (Addr × (Cell → Prop)))
    (X0 : Stand p l e R s m args below meth c T0 locs cells slots) (hx : p.tables.exec = Jvm.exec) (hZ : Z.Warmed39 s.vm) (hw : ∀ d ∈ tables_1, d.before a0 Z = true) (hby : c.code = prog_87_method_20_code) (hml : c.maxLocals = 9) (hown : s.vm.findClass "com/example/sambre/sambre/engine/Rows" = some m.cls) (e0 : T0.heap = h0) (W0 : Wo n0 h0 ((bk, Ar Z .double 64 gk) :: (qv, Ar Z .double 4 gq) :: Rr)) (K0 : Rch p e below s₁ F0 T0 (mkF m 57 #[l0, l1, .val (.ref qv), l3, .val (.ref bk), .val (.int (Int32.ofNat u)), .val (.int (Int32.ofNat F)), .val (.int (1 : Int32)), .val (.int (Int32.ofNat i))] [])) (hi : i < u) (hu4 : u ≤ 4) (hF : F + u ≤ 64) :
    ∃ T', Stand p l e R s m args below meth c T' locs cells slots ∧ T'.heap = h0 ∧ Rch p e below s₁ F0 T' (mkF m 57 #[l0, l1, .val (.ref qv), l3, .val (.ref bk), .val (.int (Int32.ofNat u)), .val (.int (Int32.ofNat F)), .val (.int (own_bi (own_same (own_dv (gk (F + i))) (own_dv (gq i))))), .val (.int (Int32.ofNat (i + 1)))] []) := by
  have hD : ∀ (k : Nat) {pc : Nat} {i : Instr} {n : Nat}, Ld_za[k]? = some (pc, i, n) → decode c.code pc = .ok (i, n) := by intro k pc i n h; exact hb hby (d_za (pc, i, n) (mi k h))
  have K1 : Rc K0 T0 (mkF m 79 #[l0, l1, sR qv, l3, sR bk, sI (Int32.ofNat u), sI (Int32.ofNat F), sI 1, sI (Int32.ofNat i)] [(kI (cmpValue (FP.dcmp (own_dv (gk (F + i))) (0 : UInt64)) .l))]) := fun t k => K0 t (by
    refine XS.iload X0.here hx rfl (hD 37 rfl) rfl ?_
    refine XS.iload X0.here hx rfl (hD 38 rfl) rfl ?_
    refine XS.icmpNo X0.here hx rfl (hD 39 rfl) rfl (tlt (own_lt (by omega) (by omega))).2.1 ?_
    refine XS.iload X0.here hx rfl (hD 40 rfl) rfl ?_
    refine XS.ifNo X0.here hx rfl (hD 41 rfl) rfl (by decide) ?_
    refine XS.aload X0.here hx rfl (hD 42 rfl) rfl rfl ?_
    refine XS.iload X0.here hx rfl (hD 43 rfl) rfl ?_
    refine XS.iload X0.here hx rfl (hD 44 rfl) rfl ?_
    refine XS.iadd X0.here hx rfl (hD 45 rfl) rfl ?_
    show Steps p.tables e below (T0.setTop (mkF m 76 #[l0, l1, sR qv, l3, sR bk, sI (Int32.ofNat u), sI (Int32.ofNat F), sI 1, sI (Int32.ofNat i)] [(kI ((Int32.ofNat F) + (Int32.ofNat i))), (kR bk)])) _
    rw [own_add F i]
    show Steps p.tables e below (T0.setTop (mkF m 76 #[l0, l1, sR qv, l3, sR bk, sI (Int32.ofNat u), sI (Int32.ofNat F), sI 1, sI (Int32.ofNat i)] [(kI (Int32.ofNat (F + i))), (kR bk)])) _
    refine dalW X0 hx hZ e0 W0 (i := 0) rfl (j := (Int32.ofNat (F + i))) (k := (F + i)) (own_nn (by omega)) (own_tn (by omega)) (by omega) (v := (.double (own_dv (gk (F + i))))) (own_arD W0 (i := 0) rfl (by omega)) (g := (mkF m 76 #[l0, l1, sR qv, l3, sR bk, sI (Int32.ofNat u), sI (Int32.ofNat F), sI 1, sI (Int32.ofNat i)] [(kI (Int32.ofNat (F + i))), (kR bk)])) rfl rfl (hD 46 rfl) _ ?_
    refine XS.dconst0 X0.here hx rfl (hD 47 rfl) rfl ?_
    refine XS.dcmpS X0.here hx rfl (hD 48 rfl) rfl rfl ?_
    exact k)
  have K2 : Rc K0 T0 (mkF m 87 #[l0, l1, sR qv, l3, sR bk, sI (Int32.ofNat u), sI (Int32.ofNat F), sI 1, sI (Int32.ofNat i)] [(kI (own_bi (own_pos (own_dv (gk (F + i))))))]) := fun t k => K1 t (by
    by_cases hq : (0 : Int32) < cmpValue (FP.dcmp (own_dv (gk (F + i))) 0) .l
    · rw [own_post hq] at k
      refine XS.ifNo X0.here hx rfl (hD 49 rfl) rfl ((if0 _ _).trans (tlt hq).2.2.2) ?_
      refine XS.iconst X0.here hx rfl (hD 50 rfl) ?_
      refine XS.goto X0.here hx rfl (pc0 := 83) (pc' := 87) rfl (hD 51 rfl) (by decide) (by decide) ?_
      exact k
    · rw [own_posf hq] at k
      refine XS.ifYes X0.here hx rfl (pc0 := 79) (pc' := 86) rfl (hD 49 rfl) rfl ((if0 _ _).trans (flt hq).2.2.2) (by decide) (by decide) ?_
      refine XS.iconst X0.here hx rfl (hD 52 rfl) ?_
      exact k)
  have K3 : Rc K0 T0 (mkF m 93 #[l0, l1, sR qv, l3, sR bk, sI (Int32.ofNat u), sI (Int32.ofNat F), sI 1, sI (Int32.ofNat i)] [(kI (cmpValue (FP.dcmp (own_dv (gq i)) (0 : UInt64)) .l)), (kI (own_bi (own_pos (own_dv (gk (F + i))))))]) := fun t k => K2 t (by
    refine XS.aloadN X0.here hx rfl (hD 53 rfl) rfl rfl ?_
    refine XS.iload X0.here hx rfl (hD 54 rfl) rfl ?_
    refine dalW X0 hx hZ e0 W0 (i := 1) rfl (j := (Int32.ofNat i)) (k := i) (own_nn (by omega)) (own_tn (by omega)) (by omega) (v := (.double (own_dv (gq i)))) (own_arD W0 (i := 1) rfl (by omega)) (g := (mkF m 90 #[l0, l1, sR qv, l3, sR bk, sI (Int32.ofNat u), sI (Int32.ofNat F), sI 1, sI (Int32.ofNat i)] [(kI (Int32.ofNat i)), (kR qv), (kI (own_bi (own_pos (own_dv (gk (F + i))))))])) rfl rfl (hD 55 rfl) _ ?_
    refine XS.dconst0 X0.here hx rfl (hD 56 rfl) rfl ?_
    refine XS.dcmpS X0.here hx rfl (hD 57 rfl) rfl rfl ?_
    exact k)
  have K4 : Rc K0 T0 (mkF m 101 #[l0, l1, sR qv, l3, sR bk, sI (Int32.ofNat u), sI (Int32.ofNat F), sI 1, sI (Int32.ofNat i)] [(kI (own_bi (own_pos (own_dv (gq i))))), (kI (own_bi (own_pos (own_dv (gk (F + i))))))]) := fun t k => K3 t (by
    by_cases hq : (0 : Int32) < cmpValue (FP.dcmp (own_dv (gq i)) 0) .l
    · rw [own_post hq] at k
      refine XS.ifNo X0.here hx rfl (hD 58 rfl) rfl ((if0 _ _).trans (tlt hq).2.2.2) ?_
      refine XS.iconst X0.here hx rfl (hD 59 rfl) ?_
      refine XS.goto X0.here hx rfl (pc0 := 97) (pc' := 101) rfl (hD 60 rfl) (by decide) (by decide) ?_
      exact k
    · rw [own_posf hq] at k
      refine XS.ifYes X0.here hx rfl (pc0 := 93) (pc' := 100) rfl (hD 58 rfl) rfl ((if0 _ _).trans (flt hq).2.2.2) (by decide) (by decide) ?_
      refine XS.iconst X0.here hx rfl (hD 61 rfl) ?_
      exact k)
  have K5 : Rc K0 T0 (mkF m 109 #[l0, l1, sR qv, l3, sR bk, sI (Int32.ofNat u), sI (Int32.ofNat F), sI 1, sI (Int32.ofNat i)] [(kI (own_bi (own_same (own_dv (gk (F + i))) (own_dv (gq i)))))]) := fun t k => K4 t (by
    by_cases hq : own_bi (own_pos (own_dv (gk (F + i)))) = own_bi (own_pos (own_dv (gq i)))
    · rw [own_samet hq] at k
      refine XS.icmpNo X0.here hx rfl (hD 62 rfl) rfl (teq hq).2 ?_
      refine XS.iconst X0.here hx rfl (hD 63 rfl) ?_
      refine XS.goto X0.here hx rfl (pc0 := 105) (pc' := 109) rfl (hD 64 rfl) (by decide) (by decide) ?_
      exact k
    · rw [own_samef hq] at k
      refine XS.icmpYes X0.here hx rfl (pc0 := 101) (pc' := 108) rfl (hD 62 rfl) rfl (feq hq).2 (by decide) (by decide) ?_
      refine XS.iconst X0.here hx rfl (hD 65 rfl) ?_
      exact k)
  have K6 : Rc K0 T0 (mkF m 57 #[l0, l1, sR qv, l3, sR bk, sI (Int32.ofNat u), sI (Int32.ofNat F), sI (own_bi (own_same (own_dv (gk (F + i))) (own_dv (gq i)))), sI (Int32.ofNat (i + 1))] []) := fun t k => K5 t (by
    refine XS.istore X0.here hx rfl (hD 66 rfl) rfl (l' := #[l0, l1, sR qv, l3, sR bk, sI (Int32.ofNat u), sI (Int32.ofNat F), sI (own_bi (own_same (own_dv (gk (F + i))) (own_dv (gq i)))), sI (Int32.ofNat i)]) rfl ?_
    refine XS.iinc X0.here hx rfl (hD 67 rfl) rfl (l' := #[l0, l1, sR qv, l3, sR bk, sI (Int32.ofNat u), sI (Int32.ofNat F), sI (own_bi (own_same (own_dv (gk (F + i))) (own_dv (gq i)))), sI ((Int32.ofNat i) + (1 : Int32))]) rfl ?_
    show Steps p.tables e below (T0.setTop (mkF m 114 #[l0, l1, sR qv, l3, sR bk, sI (Int32.ofNat u), sI (Int32.ofNat F), sI (own_bi (own_same (own_dv (gk (F + i))) (own_dv (gq i)))), sI ((Int32.ofNat i) + (1 : Int32))] [])) _
    rw [show (Int32.ofNat i) + (1 : Int32) = (Int32.ofNat (i + 1)) from own_add i 1]
    show Steps p.tables e below (T0.setTop (mkF m 114 #[l0, l1, sR qv, l3, sR bk, sI (Int32.ofNat u), sI (Int32.ofNat F), sI (own_bi (own_same (own_dv (gk (F + i))) (own_dv (gq i)))), sI (Int32.ofNat (i + 1))] [])) _
    refine XS.goto X0.here hx rfl (pc0 := 114) (pc' := 57) rfl (hD 68 rfl) (by decide) (by decide) ?_
    exact k)
  exact ⟨T0, X0, e0, K6⟩
theorem own_zl {p : Program} {l : Launch} {e : Env} {R : Room} {s : State} {m : MethodId} {args : Array Value} {below : List Frame} {meth : Method} {c : Code} {s₁ : State} {F0 : JFrame} {locs : List Loc} {cells slots : Nat} {Z : State} {a0 : Array Value} {n0 : Nat} {h0 : Heap} (bk qv : Addr) (gk gq : Nat → Value) (u F : Nat) (l0 l1 l3 : Slot) (Rr : List (Addr × (Cell → Prop)))
    (hx : p.tables.exec = Jvm.exec) (hZ : Z.Warmed39 s.vm) (hw : ∀ d ∈ tables_1, d.before a0 Z = true) (hby : c.code = prog_87_method_20_code) (hml : c.maxLocals = 9) (hown : s.vm.findClass "com/example/sambre/sambre/engine/Rows" = some m.cls) (W0 : Wo n0 h0 ((bk, Ar Z .double 64 gk) :: (qv, Ar Z .double 4 gq) :: Rr)) (hu4 : u ≤ 4) (hF : F + u ≤ 64) :
    ∀ (k i : Nat) (b : Bool) (T0 : State), i + k = u → Stand p l e R s m args below meth c T0 locs cells slots → T0.heap = h0 → Rch p e below s₁ F0 T0 (mkF m 57 #[l0, l1, .val (.ref qv), l3, .val (.ref bk), .val (.int (Int32.ofNat u)), .val (.int (Int32.ofNat F)), .val (.int (own_bi b)), .val (.int (Int32.ofNat i))] []) →
      ∃ (T' : State) (i' : Int32), Stand p l e R s m args below meth c T' locs cells slots ∧ T'.heap = h0 ∧ Rch p e below s₁ F0 T' (mkF m 117 #[l0, l1, .val (.ref qv), l3, .val (.ref bk), .val (.int (Int32.ofNat u)), .val (.int (Int32.ofNat F)), .val (.int (own_bi (own_zr (fun j => own_dv (gk j)) (fun j => own_dv (gq j)) F k i b))), .val (.int i')] []) := by
  intro k
  induction k with
  | zero =>
    intro i b T0 hi X0 e0 K0
    obtain ⟨T1, X1, e1, K1⟩ := tnZ1 bk qv gk gq u F i l0 l1 l3 (own_bi b) Rr X0 hx hZ hw hby hml hown e0 W0 K0 (by omega) (by omega)
    exact ⟨T1, _, X1, e1, K1⟩
  | succ k ih =>
    intro i b T0 hi X0 e0 K0
    cases b with
    | false =>
      obtain ⟨T1, X1, e1, K1⟩ := tnZ2 bk qv gk gq u F i l0 l1 l3 Rr X0 hx hZ hw hby hml hown e0 W0 K0 (by omega) (by omega)
      exact ⟨T1, _, X1, e1, K1⟩
    | true =>
      obtain ⟨T1, X1, e1, K1⟩ := tnZ bk qv gk gq u F i l0 l1 l3 Rr X0 hx hZ hw hby hml hown e0 W0 K0 (by omega) hu4 hF
      exact ih (i + 1) _ T1 (by omega) X1 e1 K1
theorem ef_rmZA00 (m : MethodId) (r ks rgs ns fch fk kl frg fac fcm ftr acs cms sus prb : Addr) (lr so nr bo shf vcn bl bk qv : Addr) (shc rwc usd sv : Int32) (u F : Nat) (gk gq g_ftr g_fch g_bl g_lr g_bo g_vcn g_shf : Nat → Value) : entryFrame m #[(.ref r), (.int (0 : Int32)), (.ref qv)] 9 = mkF m 0 #[.val (.ref r), .val (.int (0 : Int32)), .val (.ref qv), .unset, .unset, .unset, .unset, .unset, .unset] [] := by first | (simp [entryFrame, mkF, argsToLocals, Value.category]; done) | rfl
def QrmZA00 (Z : State) (r ks rgs ns fch fk kl frg fac fcm ftr acs cms sus prb : Addr) (lr so nr bo shf vcn bl bk qv : Addr) (shc rwc usd sv : Int32) (u F : Nat) (gk gq g_ftr g_fch g_bl g_lr g_bo g_vcn g_shf : Nat → Value) (Rr : List (Addr × (Cell → Prop))) (n0 : Nat) (v : Option Value) (h : Heap) (L : List Loc) : Prop := v = some (.int (own_bi (own_zr (fun j => own_dv (gk j)) (fun j => own_dv (gq j)) F u 0 true))) ∧ Fr n0 L ∧ Wo n0 h ((bk, Ar Z .double 64 gk) :: (qv, Ar Z .double 4 gq) :: (r, oR Z [(kR ks), (kR rgs), (kR ns), (kR fch), (kR fk), (kR kl), (kR frg), (kR fac), (kR fcm), (kR ftr), (kR acs), (kR cms), (kR sus), (kR prb), (kI shc), (kR lr), (kI rwc), (kR so), (kR nr), (kR bo), (kR shf), (kR vcn), (kR bl), (kI 2), (kI usd)]) :: (ftr, Ar Z .int 17 g_ftr) :: (fch, Ar Z .int 17 g_fch) :: (bl, Pg Z .double 4 g_bl) :: (lr, Ar Z .int 4 g_lr) :: (bo, Ar Z .int 4 g_bo) :: (vcn, Ar Z .int 4 g_vcn) :: (shf, Ar Z .int 4 g_shf) :: Rr)
set_option maxRecDepth 65536 in
set_option maxHeartbeats 40000000 in
theorem rmZA00 (l : Launch) (Z : State) (a0 : Array Value) (hw : ∀ d ∈ tables_1, d.before a0 Z = true) (ws : List Jvm.Cond) (r ks rgs ns fch fk kl frg fac fcm ftr acs cms sus prb : Addr) (lr so nr bo shf vcn bl bk qv : Addr) (shc rwc usd sv : Int32) (u F : Nat) (gk gq g_ftr g_fch g_bl g_lr g_bo g_vcn g_shf : Nat → Value) (Rr : List (Addr × (Cell → Prop))) (h0 : Heap) (n0 : Nat) (W0 : Wo n0 h0 ((r, oR Z [(kR ks), (kR rgs), (kR ns), (kR fch), (kR fk), (kR kl), (kR frg), (kR fac), (kR fcm), (kR ftr), (kR acs), (kR cms), (kR sus), (kR prb), (kI shc), (kR lr), (kI rwc), (kR so), (kR nr), (kR bo), (kR shf), (kR vcn), (kR bl), (kI 2), (kI usd)]) :: (bk, Ar Z .double 64 gk) :: (qv, Ar Z .double 4 gq) :: (ftr, Ar Z .int 17 g_ftr) :: (fch, Ar Z .int 17 g_fch) :: (bl, Pg Z .double 4 g_bl) :: (lr, Ar Z .int 4 g_lr) :: (bo, Ar Z .int 4 g_bo) :: (vcn, Ar Z .int 4 g_vcn) :: (shf, Ar Z .int 4 g_shf) :: Rr)) (hu1 : 1 ≤ u) (hu4 : u ≤ 4) (hF : F + u ≤ 64) (h1 : g_ftr 0 = .int 0) (h3 : g_fch 0 = .int 0) (h5 : g_bl 1 = .ref bk) (h6 : g_lr 0 = .int 0) (h7 : g_bo 0 = .int 1) (h8 : g_vcn 0 = .int (Int32.ofNat u)) (h9 : g_shf 0 = .int sv) (hS : (sv - (Int32.ofNat u)) = Int32.ofNat F) :
    MetFree l y_za (head1 (Jvm.Cond.code y_za prog_87_method_20_code 9 (some .boolean) :: ws) ({ frames := 0, cells := 0, slots := 0, locals := 0 } : Room)) (fun aa U => aa = #[(.ref r), (.int (0 : Int32)), (.ref qv)] ∧ Z.Warmed39 U.vm ∧ U.heap = h0) (fun _ _ _ _ _ => True) (fun _ U ou U' => ∃ v L, ou = .returned v ∧ QrmZA00 Z r ks rgs ns fch fk kl frg fac fcm ftr acs cms sus prb lr so nr bo shf vcn bl bk qv shc rwc usd sv u F gk gq g_ftr g_fch g_bl g_lr g_bo g_vcn g_shf Rr n0 v U'.heap L ∧ FrameEnd U ou U' L ({ frames := 0, cells := 0, slots := 0, locals := 0 } : Room).cells ({ frames := 0, cells := 0, slots := 0, locals := 0 } : Room).slots) := by
  refine MetFree.of_bodySF (plainFor_of_name pn_Rows) hisR ?_
  intro p e s m args below meth c s₁ Bd hml0 hP hK
  obtain ⟨rfl, hZ, hh⟩ := hP
  have hx := Bd.exec
  have hby := Bd.bytes
  have hml : c.maxLocals = 9 := hml0
  have hD : ∀ (k : Nat) {pc : Nat} {i : Instr} {n : Nat}, Ld_za[k]? = some (pc, i, n) → decode c.code pc = .ok (i, n) := by intro k pc i n h; exact hb hby (d_za (pc, i, n) (mi k h))
  have hown : s.vm.findClass "com/example/sambre/sambre/engine/Rows" = some m.cls := findClass_of_methodNamed Bd.named
  have hnm := (name_of_methodNamed Bd.named Bd.method).1
  have X0 : Stand p l e ({ frames := 0, cells := 0, slots := 0, locals := 0 } : Room) s m #[(.ref r), (.int (0 : Int32)), (.ref qv)] below meth c s₁ [] 0 0 := Stand.of_body Bd
  have e0 : s₁.heap = h0 := by rw [← hh, Bd.state]; rfl
  have N0 := Fr.nil n0
  obtain ⟨F0, hF0⟩ : ∃ F, F = mkF m 0 #[.val (.ref r), .val (.int (0 : Int32)), .val (.ref qv), .unset, .unset, .unset, .unset, .unset, .unset] [] := ⟨_, rfl⟩
  have pre0 : ∀ t, Steps p.tables e below (s₁.setTop F0) t → Steps p.tables e below (s₁.setTop (entryFrame m #[(.ref r), (.int (0 : Int32)), (.ref qv)] 9)) t := fun t k => castTop ((ef_rmZA00 m r ks rgs ns fch fk kl frg fac fcm ftr acs cms sus prb lr so nr bo shf vcn bl bk qv shc rwc usd sv u F gk gq g_ftr g_fch g_bl g_lr g_bo g_vcn g_shf).trans hF0.symm) k
  have K0 : Rch p e below s₁ F0 s₁ (mkF m 0 #[.val (.ref r), .val (.int (0 : Int32)), .val (.ref qv), .unset, .unset, .unset, .unset, .unset, .unset] []) := fun t k => castTop hF0 k
  have K1 : Rc K0 s₁ (mkF m 1 #[sR r, sI 0, sR qv, sU, sU, sU, sU, sU, sU] [(kR r)]) := fun t k => K0 t (XS.aloadN X0.here hx rfl (hD 0 rfl) rfl rfl k)
  obtain ⟨T2, X2, e2, st2⟩ := getF X0 hx hZ hown (host := "") (Or.inl (hw _ (mi 107 rfl))) Via.refl e0 (W0.fld (i := 0) rfl (j := 15) rfl rfl) (g := K1.g) rfl rfl (hD 1 rfl)
  have K3 : Rc K0 T2 (mkF m 8 #[sR r, sI 0, sR qv, sI 0, sU, sU, sU, sU, sU] [(kR r)]) := fun t k => K1 t (st2 t (by
    refine XS.iloadN X2.here hx rfl (hD 2 rfl) rfl ?_
    refine ialW X2 hx hZ e2 W0 (i := 6) rfl (j := (0 : Int32)) (k := 0) (by decide) (by decide) (by decide) (v := (.int (0 : Int32))) h6 (g := (mkF m 5 #[sR r, sI 0, sR qv, sU, sU, sU, sU, sU, sU] [(kI 0), (kR lr)])) rfl rfl (hD 3 rfl) _ ?_
    refine XS.istoreN X2.here hx rfl (hD 4 rfl) rfl (l' := #[sR r, sI 0, sR qv, sI 0, sU, sU, sU, sU, sU]) rfl ?_
    refine XS.aloadN X2.here hx rfl (hD 5 rfl) rfl rfl ?_
    exact k))
  obtain ⟨T4, X4, e4, st4⟩ := getF X2 hx hZ hown (host := "") (Or.inl (hw _ (mi 167 rfl))) Via.refl e2 (W0.fld (i := 0) rfl (j := 22) rfl rfl) (g := K3.g) rfl rfl (hD 6 rfl)
  have K5 : Rc K0 T4 (mkF m 12 #[sR r, sI 0, sR qv, sI 0, sU, sU, sU, sU, sU] [(kR r), (kR bl)]) := fun t k => K3 t (st4 t (XS.aloadN X4.here hx rfl (hD 7 rfl) rfl rfl k))
  obtain ⟨T6, X6, e6, st6⟩ := getF X4 hx hZ hown (host := "") (Or.inl (hw _ (mi 159 rfl))) Via.refl e4 (W0.fld (i := 0) rfl (j := 19) rfl rfl) (g := K5.g) rfl rfl (hD 8 rfl)
  have K7 : Rc K0 T6 (mkF m 21 #[sR r, sI 0, sR qv, sI 0, sR bk, sU, sU, sU, sU] [(kR r)]) := fun t k => K5 t (st6 t (by
    refine XS.iloadN X6.here hx rfl (hD 9 rfl) rfl ?_
    refine ialW X6 hx hZ e6 W0 (i := 7) rfl (j := (0 : Int32)) (k := 0) (by decide) (by decide) (by decide) (v := (.int (1 : Int32))) h7 (g := (mkF m 16 #[sR r, sI 0, sR qv, sI 0, sU, sU, sU, sU, sU] [(kI 0), (kR bo), (kR bl)])) rfl rfl (hD 10 rfl) _ ?_
    refine aalW X6 hx hZ e6 W0 (i := 5) rfl (fun _ q => q.1) rfl (j := (1 : Int32)) (k := 1) (by decide) (by decide) (by decide) (v := (.ref bk)) h5 (g := (mkF m 17 #[sR r, sI 0, sR qv, sI 0, sU, sU, sU, sU, sU] [(kI 1), (kR bl)])) rfl rfl (hD 11 rfl) _ ?_
    refine XS.astore X6.here hx rfl (hD 12 rfl) rfl rfl (l' := #[sR r, sI 0, sR qv, sI 0, sR bk, sU, sU, sU, sU]) rfl ?_
    refine XS.aloadN X6.here hx rfl (hD 13 rfl) rfl rfl ?_
    exact k))
  obtain ⟨T8, X8, e8, st8⟩ := getF X6 hx hZ hown (host := "") (Or.inl (hw _ (mi 163 rfl))) Via.refl e6 (W0.fld (i := 0) rfl (j := 21) rfl rfl) (g := K7.g) rfl rfl (hD 14 rfl)
  have K9 : Rc K0 T8 (mkF m 29 #[sR r, sI 0, sR qv, sI 0, sR bk, sI (Int32.ofNat u), sU, sU, sU] [(kR r)]) := fun t k => K7 t (st8 t (by
    refine XS.iloadN X8.here hx rfl (hD 15 rfl) rfl ?_
    refine ialW X8 hx hZ e8 W0 (i := 8) rfl (j := (0 : Int32)) (k := 0) (by decide) (by decide) (by decide) (v := (.int (Int32.ofNat u))) h8 (g := (mkF m 25 #[sR r, sI 0, sR qv, sI 0, sR bk, sU, sU, sU, sU] [(kI 0), (kR vcn)])) rfl rfl (hD 16 rfl) _ ?_
    refine XS.istore X8.here hx rfl (hD 17 rfl) rfl (l' := #[sR r, sI 0, sR qv, sI 0, sR bk, sI (Int32.ofNat u), sU, sU, sU]) rfl ?_
    refine XS.aloadN X8.here hx rfl (hD 18 rfl) rfl rfl ?_
    exact k))
  obtain ⟨T10, X10, e10, st10⟩ := getF X8 hx hZ hown (host := "") (Or.inl (hw _ (mi 161 rfl))) Via.refl e8 (W0.fld (i := 0) rfl (j := 20) rfl rfl) (g := K9.g) rfl rfl (hD 19 rfl)
  have K11 : Rc K0 T10 (mkF m 35 #[sR r, sI 0, sR qv, sI 0, sR bk, sI (Int32.ofNat u), sU, sU, sU] [(kR r), (kI sv)]) := fun t k => K9 t (st10 t (by
    refine XS.iloadN X10.here hx rfl (hD 20 rfl) rfl ?_
    refine ialW X10 hx hZ e10 W0 (i := 9) rfl (j := (0 : Int32)) (k := 0) (by decide) (by decide) (by decide) (v := (.int sv)) h9 (g := (mkF m 33 #[sR r, sI 0, sR qv, sI 0, sR bk, sI (Int32.ofNat u), sU, sU, sU] [(kI 0), (kR shf)])) rfl rfl (hD 21 rfl) _ ?_
    refine XS.aloadN X10.here hx rfl (hD 22 rfl) rfl rfl ?_
    exact k))
  obtain ⟨T12, X12, e12, st12⟩ := getF X10 hx hZ hown (host := "") (Or.inl (hw _ (mi 34 rfl))) Via.refl e10 (W0.fld (i := 0) rfl (j := 9) rfl rfl) (g := K11.g) rfl rfl (hD 23 rfl)
  have K13 : Rc K0 T12 (mkF m 39 #[sR r, sI 0, sR qv, sI 0, sR bk, sI (Int32.ofNat u), sU, sU, sU] [(kR r), (kR ftr), (kI sv)]) := fun t k => K11 t (st12 t (XS.aloadN X12.here hx rfl (hD 24 rfl) rfl rfl k))
  obtain ⟨T14, X14, e14, st14⟩ := getF X12 hx hZ hown (host := "") (Or.inl (hw _ (mi 22 rfl))) Via.refl e12 (W0.fld (i := 0) rfl (j := 3) rfl rfl) (g := K13.g) rfl rfl (hD 25 rfl)
  have K15 : Rc K0 T14 (mkF m 49 #[sR r, sI 0, sR qv, sI 0, sR bk, sI (Int32.ofNat u), sU, sU, sU] [(kI (sv - (Int32.ofNat u)))]) := fun t k => K13 t (st14 t (by
    refine XS.iloadN X14.here hx rfl (hD 26 rfl) rfl ?_
    refine ialW X14 hx hZ e14 W0 (i := 4) rfl (j := (0 : Int32)) (k := 0) (by decide) (by decide) (by decide) (v := (.int (0 : Int32))) h3 (g := (mkF m 43 #[sR r, sI 0, sR qv, sI 0, sR bk, sI (Int32.ofNat u), sU, sU, sU] [(kI 0), (kR fch), (kR ftr), (kI sv)])) rfl rfl (hD 27 rfl) _ ?_
    refine ialW X14 hx hZ e14 W0 (i := 3) rfl (j := (0 : Int32)) (k := 0) (by decide) (by decide) (by decide) (v := (.int (0 : Int32))) h1 (g := (mkF m 44 #[sR r, sI 0, sR qv, sI 0, sR bk, sI (Int32.ofNat u), sU, sU, sU] [(kI 0), (kR ftr), (kI sv)])) rfl rfl (hD 28 rfl) _ ?_
    refine XS.iadd X14.here hx rfl (hD 29 rfl) rfl ?_
    show Steps p.tables e below (T14.setTop (mkF m 46 #[sR r, sI 0, sR qv, sI 0, sR bk, sI (Int32.ofNat u), sU, sU, sU] [(kI (sv + (0 : Int32)))])) _
    rw [Int32.add_zero]
    show Steps p.tables e below (T14.setTop (mkF m 46 #[sR r, sI 0, sR qv, sI 0, sR bk, sI (Int32.ofNat u), sU, sU, sU] [(kI sv)])) _
    refine XS.iload X14.here hx rfl (hD 30 rfl) rfl ?_
    refine XS.isub X14.here hx rfl (hD 31 rfl) rfl ?_
    exact k))
  rw [hS] at K15
  have K16 : Rc K0 T14 (mkF m 57 #[sR r, sI 0, sR qv, sI 0, sR bk, sI (Int32.ofNat u), sI (Int32.ofNat F), sI 1, sI 0] []) := fun t k => K15 t (by
    refine XS.istore X14.here hx rfl (hD 32 rfl) rfl (l' := #[sR r, sI 0, sR qv, sI 0, sR bk, sI (Int32.ofNat u), sI (Int32.ofNat F), sU, sU]) rfl ?_
    refine XS.iconst X14.here hx rfl (hD 33 rfl) ?_
    refine XS.istore X14.here hx rfl (hD 34 rfl) rfl (l' := #[sR r, sI 0, sR qv, sI 0, sR bk, sI (Int32.ofNat u), sI (Int32.ofNat F), sI 1, sU]) rfl ?_
    refine XS.iconst X14.here hx rfl (hD 35 rfl) ?_
    refine XS.istore X14.here hx rfl (hD 36 rfl) rfl (l' := #[sR r, sI 0, sR qv, sI 0, sR bk, sI (Int32.ofNat u), sI (Int32.ofNat F), sI 1, sI 0]) rfl ?_
    exact k)
  have W17 : Wo n0 h0 ((bk, Ar Z .double 64 gk) :: (qv, Ar Z .double 4 gq) :: (r, oR Z [(kR ks), (kR rgs), (kR ns), (kR fch), (kR fk), (kR kl), (kR frg), (kR fac), (kR fcm), (kR ftr), (kR acs), (kR cms), (kR sus), (kR prb), (kI shc), (kR lr), (kI rwc), (kR so), (kR nr), (kR bo), (kR shf), (kR vcn), (kR bl), (kI 2), (kI usd)]) :: (ftr, Ar Z .int 17 g_ftr) :: (fch, Ar Z .int 17 g_fch) :: (bl, Pg Z .double 4 g_bl) :: (lr, Ar Z .int 4 g_lr) :: (bo, Ar Z .int 4 g_bo) :: (vcn, Ar Z .int 4 g_vcn) :: (shf, Ar Z .int 4 g_shf) :: Rr) := Wo.pick W0 [1, 2, 0, 3, 4, 5, 6, 7, 8, 9] 10 (by decide +kernel) rfl
  obtain ⟨T18, i18, X18, e18, K18⟩ := own_zl bk qv gk gq u F (.val (.ref r)) (.val (.int (0 : Int32))) (.val (.int (0 : Int32))) ((r, oR Z [(kR ks), (kR rgs), (kR ns), (kR fch), (kR fk), (kR kl), (kR frg), (kR fac), (kR fcm), (kR ftr), (kR acs), (kR cms), (kR sus), (kR prb), (kI shc), (kR lr), (kI rwc), (kR so), (kR nr), (kR bo), (kR shf), (kR vcn), (kR bl), (kI 2), (kI usd)]) :: (ftr, Ar Z .int 17 g_ftr) :: (fch, Ar Z .int 17 g_fch) :: (bl, Pg Z .double 4 g_bl) :: (lr, Ar Z .int 4 g_lr) :: (bo, Ar Z .int 4 g_bo) :: (vcn, Ar Z .int 4 g_vcn) :: (shf, Ar Z .int 4 g_shf) :: Rr) hx hZ hw hby hml hown W17 hu4 hF u 0 true T14 (by omega) X14 e14 K16
  have K19 : Rc K0 T18 (mkF m 119 #[sR r, sI 0, sR qv, sI 0, sR bk, sI (Int32.ofNat u), sI (Int32.ofNat F), sI (own_bi (own_zr (fun j => own_dv (gk j)) (fun j => own_dv (gq j)) F u 0 true)), sI i18] [(kI (own_bi (own_zr (fun j => own_dv (gk j)) (fun j => own_dv (gq j)) F u 0 true)))]) := fun t k => K18 t (XS.iload X18.here hx rfl (hD 69 rfl) rfl k)
  obtain ⟨fs, hr, hrun, hended, hWm, hsame⟩ := X18.leave (v := some (.int (nar .boolean (own_bi (own_zr (fun j => own_dv (gk j)) (fun j => own_dv (gq j)) F u 0 true))))) (fun h => by rw [Bd.returns] at h; cases h)
  refine ⟨_, _, pre0 _ (K19 _ (retN X18 hx (t := .boolean) Bd.returns (by simp) (hD 70 rfl) hr)), hrun, hended, _, _, rfl, ?_, ⟨_, rfl⟩, hWm, hsame.mono (by decide) (by decide)⟩
  show QrmZA00 Z r ks rgs ns fch fk kl frg fac fcm ftr acs cms sus prb lr so nr bo shf vcn bl bk qv shc rwc usd sv u F gk gq g_ftr g_fch g_bl g_lr g_bo g_vcn g_shf Rr n0 _ T18.heap _
  rw [e18]
  exact ⟨by rw [own_nar], N0, W17⟩
theorem ef_rmZA11 (m : MethodId) (r ks rgs ns fch fk kl frg fac fcm ftr acs cms sus prb : Addr) (lr so nr bo shf vcn bl bk qv : Addr) (shc rwc usd sv : Int32) (u F : Nat) (gk gq g_ftr g_fch g_bl g_lr g_bo g_vcn g_shf : Nat → Value) : entryFrame m #[(.ref r), (.int (1 : Int32)), (.ref qv)] 9 = mkF m 0 #[.val (.ref r), .val (.int (1 : Int32)), .val (.ref qv), .unset, .unset, .unset, .unset, .unset, .unset] [] := by first | (simp [entryFrame, mkF, argsToLocals, Value.category]; done) | rfl
def QrmZA11 (Z : State) (r ks rgs ns fch fk kl frg fac fcm ftr acs cms sus prb : Addr) (lr so nr bo shf vcn bl bk qv : Addr) (shc rwc usd sv : Int32) (u F : Nat) (gk gq g_ftr g_fch g_bl g_lr g_bo g_vcn g_shf : Nat → Value) (Rr : List (Addr × (Cell → Prop))) (n0 : Nat) (v : Option Value) (h : Heap) (L : List Loc) : Prop := v = some (.int (own_bi (own_zr (fun j => own_dv (gk j)) (fun j => own_dv (gq j)) F u 0 true))) ∧ Fr n0 L ∧ Wo n0 h ((bk, Ar Z .double 64 gk) :: (qv, Ar Z .double 4 gq) :: (r, oR Z [(kR ks), (kR rgs), (kR ns), (kR fch), (kR fk), (kR kl), (kR frg), (kR fac), (kR fcm), (kR ftr), (kR acs), (kR cms), (kR sus), (kR prb), (kI shc), (kR lr), (kI rwc), (kR so), (kR nr), (kR bo), (kR shf), (kR vcn), (kR bl), (kI 2), (kI usd)]) :: (ftr, Ar Z .int 17 g_ftr) :: (fch, Ar Z .int 17 g_fch) :: (bl, Pg Z .double 4 g_bl) :: (lr, Ar Z .int 4 g_lr) :: (bo, Ar Z .int 4 g_bo) :: (vcn, Ar Z .int 4 g_vcn) :: (shf, Ar Z .int 4 g_shf) :: Rr)
set_option maxRecDepth 65536 in
set_option maxHeartbeats 40000000 in
theorem rmZA11 (l : Launch) (Z : State) (a0 : Array Value) (hw : ∀ d ∈ tables_1, d.before a0 Z = true) (ws : List Jvm.Cond) (r ks rgs ns fch fk kl frg fac fcm ftr acs cms sus prb : Addr) (lr so nr bo shf vcn bl bk qv : Addr) (shc rwc usd sv : Int32) (u F : Nat) (gk gq g_ftr g_fch g_bl g_lr g_bo g_vcn g_shf : Nat → Value) (Rr : List (Addr × (Cell → Prop))) (h0 : Heap) (n0 : Nat) (W0 : Wo n0 h0 ((r, oR Z [(kR ks), (kR rgs), (kR ns), (kR fch), (kR fk), (kR kl), (kR frg), (kR fac), (kR fcm), (kR ftr), (kR acs), (kR cms), (kR sus), (kR prb), (kI shc), (kR lr), (kI rwc), (kR so), (kR nr), (kR bo), (kR shf), (kR vcn), (kR bl), (kI 2), (kI usd)]) :: (bk, Ar Z .double 64 gk) :: (qv, Ar Z .double 4 gq) :: (ftr, Ar Z .int 17 g_ftr) :: (fch, Ar Z .int 17 g_fch) :: (bl, Pg Z .double 4 g_bl) :: (lr, Ar Z .int 4 g_lr) :: (bo, Ar Z .int 4 g_bo) :: (vcn, Ar Z .int 4 g_vcn) :: (shf, Ar Z .int 4 g_shf) :: Rr)) (hu1 : 1 ≤ u) (hu4 : u ≤ 4) (hF : F + u ≤ 64) (h1 : g_ftr 1 = .int 1) (h3 : g_fch 1 = .int 1) (h5 : g_bl 1 = .ref bk) (h6 : g_lr 1 = .int 1) (h7 : g_bo 1 = .int 1) (h8 : g_vcn 1 = .int (Int32.ofNat u)) (h9 : g_shf 1 = .int sv) (hS : ((sv + (1 : Int32)) - (Int32.ofNat u)) = Int32.ofNat F) :
    MetFree l y_za (head1 (Jvm.Cond.code y_za prog_87_method_20_code 9 (some .boolean) :: ws) ({ frames := 0, cells := 0, slots := 0, locals := 0 } : Room)) (fun aa U => aa = #[(.ref r), (.int (1 : Int32)), (.ref qv)] ∧ Z.Warmed39 U.vm ∧ U.heap = h0) (fun _ _ _ _ _ => True) (fun _ U ou U' => ∃ v L, ou = .returned v ∧ QrmZA11 Z r ks rgs ns fch fk kl frg fac fcm ftr acs cms sus prb lr so nr bo shf vcn bl bk qv shc rwc usd sv u F gk gq g_ftr g_fch g_bl g_lr g_bo g_vcn g_shf Rr n0 v U'.heap L ∧ FrameEnd U ou U' L ({ frames := 0, cells := 0, slots := 0, locals := 0 } : Room).cells ({ frames := 0, cells := 0, slots := 0, locals := 0 } : Room).slots) := by
  refine MetFree.of_bodySF (plainFor_of_name pn_Rows) hisR ?_
  intro p e s m args below meth c s₁ Bd hml0 hP hK
  obtain ⟨rfl, hZ, hh⟩ := hP
  have hx := Bd.exec
  have hby := Bd.bytes
  have hml : c.maxLocals = 9 := hml0
  have hD : ∀ (k : Nat) {pc : Nat} {i : Instr} {n : Nat}, Ld_za[k]? = some (pc, i, n) → decode c.code pc = .ok (i, n) := by intro k pc i n h; exact hb hby (d_za (pc, i, n) (mi k h))
  have hown : s.vm.findClass "com/example/sambre/sambre/engine/Rows" = some m.cls := findClass_of_methodNamed Bd.named
  have hnm := (name_of_methodNamed Bd.named Bd.method).1
  have X0 : Stand p l e ({ frames := 0, cells := 0, slots := 0, locals := 0 } : Room) s m #[(.ref r), (.int (1 : Int32)), (.ref qv)] below meth c s₁ [] 0 0 := Stand.of_body Bd
  have e0 : s₁.heap = h0 := by rw [← hh, Bd.state]; rfl
  have N0 := Fr.nil n0
  obtain ⟨F0, hF0⟩ : ∃ F, F = mkF m 0 #[.val (.ref r), .val (.int (1 : Int32)), .val (.ref qv), .unset, .unset, .unset, .unset, .unset, .unset] [] := ⟨_, rfl⟩
  have pre0 : ∀ t, Steps p.tables e below (s₁.setTop F0) t → Steps p.tables e below (s₁.setTop (entryFrame m #[(.ref r), (.int (1 : Int32)), (.ref qv)] 9)) t := fun t k => castTop ((ef_rmZA11 m r ks rgs ns fch fk kl frg fac fcm ftr acs cms sus prb lr so nr bo shf vcn bl bk qv shc rwc usd sv u F gk gq g_ftr g_fch g_bl g_lr g_bo g_vcn g_shf).trans hF0.symm) k
  have K0 : Rch p e below s₁ F0 s₁ (mkF m 0 #[.val (.ref r), .val (.int (1 : Int32)), .val (.ref qv), .unset, .unset, .unset, .unset, .unset, .unset] []) := fun t k => castTop hF0 k
  have K1 : Rc K0 s₁ (mkF m 1 #[sR r, sI 1, sR qv, sU, sU, sU, sU, sU, sU] [(kR r)]) := fun t k => K0 t (XS.aloadN X0.here hx rfl (hD 0 rfl) rfl rfl k)
  obtain ⟨T2, X2, e2, st2⟩ := getF X0 hx hZ hown (host := "") (Or.inl (hw _ (mi 107 rfl))) Via.refl e0 (W0.fld (i := 0) rfl (j := 15) rfl rfl) (g := K1.g) rfl rfl (hD 1 rfl)
  have K3 : Rc K0 T2 (mkF m 8 #[sR r, sI 1, sR qv, sI 1, sU, sU, sU, sU, sU] [(kR r)]) := fun t k => K1 t (st2 t (by
    refine XS.iloadN X2.here hx rfl (hD 2 rfl) rfl ?_
    refine ialW X2 hx hZ e2 W0 (i := 6) rfl (j := (1 : Int32)) (k := 1) (by decide) (by decide) (by decide) (v := (.int (1 : Int32))) h6 (g := (mkF m 5 #[sR r, sI 1, sR qv, sU, sU, sU, sU, sU, sU] [(kI 1), (kR lr)])) rfl rfl (hD 3 rfl) _ ?_
    refine XS.istoreN X2.here hx rfl (hD 4 rfl) rfl (l' := #[sR r, sI 1, sR qv, sI 1, sU, sU, sU, sU, sU]) rfl ?_
    refine XS.aloadN X2.here hx rfl (hD 5 rfl) rfl rfl ?_
    exact k))
  obtain ⟨T4, X4, e4, st4⟩ := getF X2 hx hZ hown (host := "") (Or.inl (hw _ (mi 167 rfl))) Via.refl e2 (W0.fld (i := 0) rfl (j := 22) rfl rfl) (g := K3.g) rfl rfl (hD 6 rfl)
  have K5 : Rc K0 T4 (mkF m 12 #[sR r, sI 1, sR qv, sI 1, sU, sU, sU, sU, sU] [(kR r), (kR bl)]) := fun t k => K3 t (st4 t (XS.aloadN X4.here hx rfl (hD 7 rfl) rfl rfl k))
  obtain ⟨T6, X6, e6, st6⟩ := getF X4 hx hZ hown (host := "") (Or.inl (hw _ (mi 159 rfl))) Via.refl e4 (W0.fld (i := 0) rfl (j := 19) rfl rfl) (g := K5.g) rfl rfl (hD 8 rfl)
  have K7 : Rc K0 T6 (mkF m 21 #[sR r, sI 1, sR qv, sI 1, sR bk, sU, sU, sU, sU] [(kR r)]) := fun t k => K5 t (st6 t (by
    refine XS.iloadN X6.here hx rfl (hD 9 rfl) rfl ?_
    refine ialW X6 hx hZ e6 W0 (i := 7) rfl (j := (1 : Int32)) (k := 1) (by decide) (by decide) (by decide) (v := (.int (1 : Int32))) h7 (g := (mkF m 16 #[sR r, sI 1, sR qv, sI 1, sU, sU, sU, sU, sU] [(kI 1), (kR bo), (kR bl)])) rfl rfl (hD 10 rfl) _ ?_
    refine aalW X6 hx hZ e6 W0 (i := 5) rfl (fun _ q => q.1) rfl (j := (1 : Int32)) (k := 1) (by decide) (by decide) (by decide) (v := (.ref bk)) h5 (g := (mkF m 17 #[sR r, sI 1, sR qv, sI 1, sU, sU, sU, sU, sU] [(kI 1), (kR bl)])) rfl rfl (hD 11 rfl) _ ?_
    refine XS.astore X6.here hx rfl (hD 12 rfl) rfl rfl (l' := #[sR r, sI 1, sR qv, sI 1, sR bk, sU, sU, sU, sU]) rfl ?_
    refine XS.aloadN X6.here hx rfl (hD 13 rfl) rfl rfl ?_
    exact k))
  obtain ⟨T8, X8, e8, st8⟩ := getF X6 hx hZ hown (host := "") (Or.inl (hw _ (mi 163 rfl))) Via.refl e6 (W0.fld (i := 0) rfl (j := 21) rfl rfl) (g := K7.g) rfl rfl (hD 14 rfl)
  have K9 : Rc K0 T8 (mkF m 29 #[sR r, sI 1, sR qv, sI 1, sR bk, sI (Int32.ofNat u), sU, sU, sU] [(kR r)]) := fun t k => K7 t (st8 t (by
    refine XS.iloadN X8.here hx rfl (hD 15 rfl) rfl ?_
    refine ialW X8 hx hZ e8 W0 (i := 8) rfl (j := (1 : Int32)) (k := 1) (by decide) (by decide) (by decide) (v := (.int (Int32.ofNat u))) h8 (g := (mkF m 25 #[sR r, sI 1, sR qv, sI 1, sR bk, sU, sU, sU, sU] [(kI 1), (kR vcn)])) rfl rfl (hD 16 rfl) _ ?_
    refine XS.istore X8.here hx rfl (hD 17 rfl) rfl (l' := #[sR r, sI 1, sR qv, sI 1, sR bk, sI (Int32.ofNat u), sU, sU, sU]) rfl ?_
    refine XS.aloadN X8.here hx rfl (hD 18 rfl) rfl rfl ?_
    exact k))
  obtain ⟨T10, X10, e10, st10⟩ := getF X8 hx hZ hown (host := "") (Or.inl (hw _ (mi 161 rfl))) Via.refl e8 (W0.fld (i := 0) rfl (j := 20) rfl rfl) (g := K9.g) rfl rfl (hD 19 rfl)
  have K11 : Rc K0 T10 (mkF m 35 #[sR r, sI 1, sR qv, sI 1, sR bk, sI (Int32.ofNat u), sU, sU, sU] [(kR r), (kI sv)]) := fun t k => K9 t (st10 t (by
    refine XS.iloadN X10.here hx rfl (hD 20 rfl) rfl ?_
    refine ialW X10 hx hZ e10 W0 (i := 9) rfl (j := (1 : Int32)) (k := 1) (by decide) (by decide) (by decide) (v := (.int sv)) h9 (g := (mkF m 33 #[sR r, sI 1, sR qv, sI 1, sR bk, sI (Int32.ofNat u), sU, sU, sU] [(kI 1), (kR shf)])) rfl rfl (hD 21 rfl) _ ?_
    refine XS.aloadN X10.here hx rfl (hD 22 rfl) rfl rfl ?_
    exact k))
  obtain ⟨T12, X12, e12, st12⟩ := getF X10 hx hZ hown (host := "") (Or.inl (hw _ (mi 34 rfl))) Via.refl e10 (W0.fld (i := 0) rfl (j := 9) rfl rfl) (g := K11.g) rfl rfl (hD 23 rfl)
  have K13 : Rc K0 T12 (mkF m 39 #[sR r, sI 1, sR qv, sI 1, sR bk, sI (Int32.ofNat u), sU, sU, sU] [(kR r), (kR ftr), (kI sv)]) := fun t k => K11 t (st12 t (XS.aloadN X12.here hx rfl (hD 24 rfl) rfl rfl k))
  obtain ⟨T14, X14, e14, st14⟩ := getF X12 hx hZ hown (host := "") (Or.inl (hw _ (mi 22 rfl))) Via.refl e12 (W0.fld (i := 0) rfl (j := 3) rfl rfl) (g := K13.g) rfl rfl (hD 25 rfl)
  have K15 : Rc K0 T14 (mkF m 49 #[sR r, sI 1, sR qv, sI 1, sR bk, sI (Int32.ofNat u), sU, sU, sU] [(kI ((sv + (1 : Int32)) - (Int32.ofNat u)))]) := fun t k => K13 t (st14 t (by
    refine XS.iloadN X14.here hx rfl (hD 26 rfl) rfl ?_
    refine ialW X14 hx hZ e14 W0 (i := 4) rfl (j := (1 : Int32)) (k := 1) (by decide) (by decide) (by decide) (v := (.int (1 : Int32))) h3 (g := (mkF m 43 #[sR r, sI 1, sR qv, sI 1, sR bk, sI (Int32.ofNat u), sU, sU, sU] [(kI 1), (kR fch), (kR ftr), (kI sv)])) rfl rfl (hD 27 rfl) _ ?_
    refine ialW X14 hx hZ e14 W0 (i := 3) rfl (j := (1 : Int32)) (k := 1) (by decide) (by decide) (by decide) (v := (.int (1 : Int32))) h1 (g := (mkF m 44 #[sR r, sI 1, sR qv, sI 1, sR bk, sI (Int32.ofNat u), sU, sU, sU] [(kI 1), (kR ftr), (kI sv)])) rfl rfl (hD 28 rfl) _ ?_
    refine XS.iadd X14.here hx rfl (hD 29 rfl) rfl ?_
    refine XS.iload X14.here hx rfl (hD 30 rfl) rfl ?_
    refine XS.isub X14.here hx rfl (hD 31 rfl) rfl ?_
    exact k))
  rw [hS] at K15
  have K16 : Rc K0 T14 (mkF m 57 #[sR r, sI 1, sR qv, sI 1, sR bk, sI (Int32.ofNat u), sI (Int32.ofNat F), sI 1, sI 0] []) := fun t k => K15 t (by
    refine XS.istore X14.here hx rfl (hD 32 rfl) rfl (l' := #[sR r, sI 1, sR qv, sI 1, sR bk, sI (Int32.ofNat u), sI (Int32.ofNat F), sU, sU]) rfl ?_
    refine XS.iconst X14.here hx rfl (hD 33 rfl) ?_
    refine XS.istore X14.here hx rfl (hD 34 rfl) rfl (l' := #[sR r, sI 1, sR qv, sI 1, sR bk, sI (Int32.ofNat u), sI (Int32.ofNat F), sI 1, sU]) rfl ?_
    refine XS.iconst X14.here hx rfl (hD 35 rfl) ?_
    refine XS.istore X14.here hx rfl (hD 36 rfl) rfl (l' := #[sR r, sI 1, sR qv, sI 1, sR bk, sI (Int32.ofNat u), sI (Int32.ofNat F), sI 1, sI 0]) rfl ?_
    exact k)
  have W17 : Wo n0 h0 ((bk, Ar Z .double 64 gk) :: (qv, Ar Z .double 4 gq) :: (r, oR Z [(kR ks), (kR rgs), (kR ns), (kR fch), (kR fk), (kR kl), (kR frg), (kR fac), (kR fcm), (kR ftr), (kR acs), (kR cms), (kR sus), (kR prb), (kI shc), (kR lr), (kI rwc), (kR so), (kR nr), (kR bo), (kR shf), (kR vcn), (kR bl), (kI 2), (kI usd)]) :: (ftr, Ar Z .int 17 g_ftr) :: (fch, Ar Z .int 17 g_fch) :: (bl, Pg Z .double 4 g_bl) :: (lr, Ar Z .int 4 g_lr) :: (bo, Ar Z .int 4 g_bo) :: (vcn, Ar Z .int 4 g_vcn) :: (shf, Ar Z .int 4 g_shf) :: Rr) := Wo.pick W0 [1, 2, 0, 3, 4, 5, 6, 7, 8, 9] 10 (by decide +kernel) rfl
  obtain ⟨T18, i18, X18, e18, K18⟩ := own_zl bk qv gk gq u F (.val (.ref r)) (.val (.int (1 : Int32))) (.val (.int (1 : Int32))) ((r, oR Z [(kR ks), (kR rgs), (kR ns), (kR fch), (kR fk), (kR kl), (kR frg), (kR fac), (kR fcm), (kR ftr), (kR acs), (kR cms), (kR sus), (kR prb), (kI shc), (kR lr), (kI rwc), (kR so), (kR nr), (kR bo), (kR shf), (kR vcn), (kR bl), (kI 2), (kI usd)]) :: (ftr, Ar Z .int 17 g_ftr) :: (fch, Ar Z .int 17 g_fch) :: (bl, Pg Z .double 4 g_bl) :: (lr, Ar Z .int 4 g_lr) :: (bo, Ar Z .int 4 g_bo) :: (vcn, Ar Z .int 4 g_vcn) :: (shf, Ar Z .int 4 g_shf) :: Rr) hx hZ hw hby hml hown W17 hu4 hF u 0 true T14 (by omega) X14 e14 K16
  have K19 : Rc K0 T18 (mkF m 119 #[sR r, sI 1, sR qv, sI 1, sR bk, sI (Int32.ofNat u), sI (Int32.ofNat F), sI (own_bi (own_zr (fun j => own_dv (gk j)) (fun j => own_dv (gq j)) F u 0 true)), sI i18] [(kI (own_bi (own_zr (fun j => own_dv (gk j)) (fun j => own_dv (gq j)) F u 0 true)))]) := fun t k => K18 t (XS.iload X18.here hx rfl (hD 69 rfl) rfl k)
  obtain ⟨fs, hr, hrun, hended, hWm, hsame⟩ := X18.leave (v := some (.int (nar .boolean (own_bi (own_zr (fun j => own_dv (gk j)) (fun j => own_dv (gq j)) F u 0 true))))) (fun h => by rw [Bd.returns] at h; cases h)
  refine ⟨_, _, pre0 _ (K19 _ (retN X18 hx (t := .boolean) Bd.returns (by simp) (hD 70 rfl) hr)), hrun, hended, _, _, rfl, ?_, ⟨_, rfl⟩, hWm, hsame.mono (by decide) (by decide)⟩
  show QrmZA11 Z r ks rgs ns fch fk kl frg fac fcm ftr acs cms sus prb lr so nr bo shf vcn bl bk qv shc rwc usd sv u F gk gq g_ftr g_fch g_bl g_lr g_bo g_vcn g_shf Rr n0 _ T18.heap _
  rw [e18]
  exact ⟨by rw [own_nar], N0, W17⟩
theorem ef_rmZA01 (m : MethodId) (r ks rgs ns fch fk kl frg fac fcm ftr acs cms sus prb : Addr) (lr so nr bo shf vcn bl bk qv : Addr) (shc rwc usd sv : Int32) (u F : Nat) (gk gq g_ftr g_fch g_bl g_lr g_bo g_vcn g_shf : Nat → Value) : entryFrame m #[(.ref r), (.int (0 : Int32)), (.ref qv)] 9 = mkF m 0 #[.val (.ref r), .val (.int (0 : Int32)), .val (.ref qv), .unset, .unset, .unset, .unset, .unset, .unset] [] := by first | (simp [entryFrame, mkF, argsToLocals, Value.category]; done) | rfl
def QrmZA01 (Z : State) (r ks rgs ns fch fk kl frg fac fcm ftr acs cms sus prb : Addr) (lr so nr bo shf vcn bl bk qv : Addr) (shc rwc usd sv : Int32) (u F : Nat) (gk gq g_ftr g_fch g_bl g_lr g_bo g_vcn g_shf : Nat → Value) (Rr : List (Addr × (Cell → Prop))) (n0 : Nat) (v : Option Value) (h : Heap) (L : List Loc) : Prop := v = some (.int (own_bi (own_zr (fun j => own_dv (gk j)) (fun j => own_dv (gq j)) F u 0 true))) ∧ Fr n0 L ∧ Wo n0 h ((bk, Ar Z .double 64 gk) :: (qv, Ar Z .double 4 gq) :: (r, oR Z [(kR ks), (kR rgs), (kR ns), (kR fch), (kR fk), (kR kl), (kR frg), (kR fac), (kR fcm), (kR ftr), (kR acs), (kR cms), (kR sus), (kR prb), (kI shc), (kR lr), (kI rwc), (kR so), (kR nr), (kR bo), (kR shf), (kR vcn), (kR bl), (kI 2), (kI usd)]) :: (ftr, Ar Z .int 17 g_ftr) :: (fch, Ar Z .int 17 g_fch) :: (bl, Pg Z .double 4 g_bl) :: (lr, Ar Z .int 4 g_lr) :: (bo, Ar Z .int 4 g_bo) :: (vcn, Ar Z .int 4 g_vcn) :: (shf, Ar Z .int 4 g_shf) :: Rr)
set_option maxRecDepth 65536 in
set_option maxHeartbeats 40000000 in
theorem rmZA01 (l : Launch) (Z : State) (a0 : Array Value) (hw : ∀ d ∈ tables_1, d.before a0 Z = true) (ws : List Jvm.Cond) (r ks rgs ns fch fk kl frg fac fcm ftr acs cms sus prb : Addr) (lr so nr bo shf vcn bl bk qv : Addr) (shc rwc usd sv : Int32) (u F : Nat) (gk gq g_ftr g_fch g_bl g_lr g_bo g_vcn g_shf : Nat → Value) (Rr : List (Addr × (Cell → Prop))) (h0 : Heap) (n0 : Nat) (W0 : Wo n0 h0 ((r, oR Z [(kR ks), (kR rgs), (kR ns), (kR fch), (kR fk), (kR kl), (kR frg), (kR fac), (kR fcm), (kR ftr), (kR acs), (kR cms), (kR sus), (kR prb), (kI shc), (kR lr), (kI rwc), (kR so), (kR nr), (kR bo), (kR shf), (kR vcn), (kR bl), (kI 2), (kI usd)]) :: (bk, Ar Z .double 64 gk) :: (qv, Ar Z .double 4 gq) :: (ftr, Ar Z .int 17 g_ftr) :: (fch, Ar Z .int 17 g_fch) :: (bl, Pg Z .double 4 g_bl) :: (lr, Ar Z .int 4 g_lr) :: (bo, Ar Z .int 4 g_bo) :: (vcn, Ar Z .int 4 g_vcn) :: (shf, Ar Z .int 4 g_shf) :: Rr)) (hu1 : 1 ≤ u) (hu4 : u ≤ 4) (hF : F + u ≤ 64) (h1 : g_ftr 0 = .int 0) (h3 : g_fch 0 = .int 0) (h5 : g_bl 1 = .ref bk) (h6 : g_lr 0 = .int 1) (h7 : g_bo 1 = .int 1) (h8 : g_vcn 1 = .int (Int32.ofNat u)) (h9 : g_shf 1 = .int sv) (hS : (sv - (Int32.ofNat u)) = Int32.ofNat F) :
    MetFree l y_za (head1 (Jvm.Cond.code y_za prog_87_method_20_code 9 (some .boolean) :: ws) ({ frames := 0, cells := 0, slots := 0, locals := 0 } : Room)) (fun aa U => aa = #[(.ref r), (.int (0 : Int32)), (.ref qv)] ∧ Z.Warmed39 U.vm ∧ U.heap = h0) (fun _ _ _ _ _ => True) (fun _ U ou U' => ∃ v L, ou = .returned v ∧ QrmZA01 Z r ks rgs ns fch fk kl frg fac fcm ftr acs cms sus prb lr so nr bo shf vcn bl bk qv shc rwc usd sv u F gk gq g_ftr g_fch g_bl g_lr g_bo g_vcn g_shf Rr n0 v U'.heap L ∧ FrameEnd U ou U' L ({ frames := 0, cells := 0, slots := 0, locals := 0 } : Room).cells ({ frames := 0, cells := 0, slots := 0, locals := 0 } : Room).slots) := by
  refine MetFree.of_bodySF (plainFor_of_name pn_Rows) hisR ?_
  intro p e s m args below meth c s₁ Bd hml0 hP hK
  obtain ⟨rfl, hZ, hh⟩ := hP
  have hx := Bd.exec
  have hby := Bd.bytes
  have hml : c.maxLocals = 9 := hml0
  have hD : ∀ (k : Nat) {pc : Nat} {i : Instr} {n : Nat}, Ld_za[k]? = some (pc, i, n) → decode c.code pc = .ok (i, n) := by intro k pc i n h; exact hb hby (d_za (pc, i, n) (mi k h))
  have hown : s.vm.findClass "com/example/sambre/sambre/engine/Rows" = some m.cls := findClass_of_methodNamed Bd.named
  have hnm := (name_of_methodNamed Bd.named Bd.method).1
  have X0 : Stand p l e ({ frames := 0, cells := 0, slots := 0, locals := 0 } : Room) s m #[(.ref r), (.int (0 : Int32)), (.ref qv)] below meth c s₁ [] 0 0 := Stand.of_body Bd
  have e0 : s₁.heap = h0 := by rw [← hh, Bd.state]; rfl
  have N0 := Fr.nil n0
  obtain ⟨F0, hF0⟩ : ∃ F, F = mkF m 0 #[.val (.ref r), .val (.int (0 : Int32)), .val (.ref qv), .unset, .unset, .unset, .unset, .unset, .unset] [] := ⟨_, rfl⟩
  have pre0 : ∀ t, Steps p.tables e below (s₁.setTop F0) t → Steps p.tables e below (s₁.setTop (entryFrame m #[(.ref r), (.int (0 : Int32)), (.ref qv)] 9)) t := fun t k => castTop ((ef_rmZA01 m r ks rgs ns fch fk kl frg fac fcm ftr acs cms sus prb lr so nr bo shf vcn bl bk qv shc rwc usd sv u F gk gq g_ftr g_fch g_bl g_lr g_bo g_vcn g_shf).trans hF0.symm) k
  have K0 : Rch p e below s₁ F0 s₁ (mkF m 0 #[.val (.ref r), .val (.int (0 : Int32)), .val (.ref qv), .unset, .unset, .unset, .unset, .unset, .unset] []) := fun t k => castTop hF0 k
  have K1 : Rc K0 s₁ (mkF m 1 #[sR r, sI 0, sR qv, sU, sU, sU, sU, sU, sU] [(kR r)]) := fun t k => K0 t (XS.aloadN X0.here hx rfl (hD 0 rfl) rfl rfl k)
  obtain ⟨T2, X2, e2, st2⟩ := getF X0 hx hZ hown (host := "") (Or.inl (hw _ (mi 107 rfl))) Via.refl e0 (W0.fld (i := 0) rfl (j := 15) rfl rfl) (g := K1.g) rfl rfl (hD 1 rfl)
  have K3 : Rc K0 T2 (mkF m 8 #[sR r, sI 0, sR qv, sI 1, sU, sU, sU, sU, sU] [(kR r)]) := fun t k => K1 t (st2 t (by
    refine XS.iloadN X2.here hx rfl (hD 2 rfl) rfl ?_
    refine ialW X2 hx hZ e2 W0 (i := 6) rfl (j := (0 : Int32)) (k := 0) (by decide) (by decide) (by decide) (v := (.int (1 : Int32))) h6 (g := (mkF m 5 #[sR r, sI 0, sR qv, sU, sU, sU, sU, sU, sU] [(kI 0), (kR lr)])) rfl rfl (hD 3 rfl) _ ?_
    refine XS.istoreN X2.here hx rfl (hD 4 rfl) rfl (l' := #[sR r, sI 0, sR qv, sI 1, sU, sU, sU, sU, sU]) rfl ?_
    refine XS.aloadN X2.here hx rfl (hD 5 rfl) rfl rfl ?_
    exact k))
  obtain ⟨T4, X4, e4, st4⟩ := getF X2 hx hZ hown (host := "") (Or.inl (hw _ (mi 167 rfl))) Via.refl e2 (W0.fld (i := 0) rfl (j := 22) rfl rfl) (g := K3.g) rfl rfl (hD 6 rfl)
  have K5 : Rc K0 T4 (mkF m 12 #[sR r, sI 0, sR qv, sI 1, sU, sU, sU, sU, sU] [(kR r), (kR bl)]) := fun t k => K3 t (st4 t (XS.aloadN X4.here hx rfl (hD 7 rfl) rfl rfl k))
  obtain ⟨T6, X6, e6, st6⟩ := getF X4 hx hZ hown (host := "") (Or.inl (hw _ (mi 159 rfl))) Via.refl e4 (W0.fld (i := 0) rfl (j := 19) rfl rfl) (g := K5.g) rfl rfl (hD 8 rfl)
  have K7 : Rc K0 T6 (mkF m 21 #[sR r, sI 0, sR qv, sI 1, sR bk, sU, sU, sU, sU] [(kR r)]) := fun t k => K5 t (st6 t (by
    refine XS.iloadN X6.here hx rfl (hD 9 rfl) rfl ?_
    refine ialW X6 hx hZ e6 W0 (i := 7) rfl (j := (1 : Int32)) (k := 1) (by decide) (by decide) (by decide) (v := (.int (1 : Int32))) h7 (g := (mkF m 16 #[sR r, sI 0, sR qv, sI 1, sU, sU, sU, sU, sU] [(kI 1), (kR bo), (kR bl)])) rfl rfl (hD 10 rfl) _ ?_
    refine aalW X6 hx hZ e6 W0 (i := 5) rfl (fun _ q => q.1) rfl (j := (1 : Int32)) (k := 1) (by decide) (by decide) (by decide) (v := (.ref bk)) h5 (g := (mkF m 17 #[sR r, sI 0, sR qv, sI 1, sU, sU, sU, sU, sU] [(kI 1), (kR bl)])) rfl rfl (hD 11 rfl) _ ?_
    refine XS.astore X6.here hx rfl (hD 12 rfl) rfl rfl (l' := #[sR r, sI 0, sR qv, sI 1, sR bk, sU, sU, sU, sU]) rfl ?_
    refine XS.aloadN X6.here hx rfl (hD 13 rfl) rfl rfl ?_
    exact k))
  obtain ⟨T8, X8, e8, st8⟩ := getF X6 hx hZ hown (host := "") (Or.inl (hw _ (mi 163 rfl))) Via.refl e6 (W0.fld (i := 0) rfl (j := 21) rfl rfl) (g := K7.g) rfl rfl (hD 14 rfl)
  have K9 : Rc K0 T8 (mkF m 29 #[sR r, sI 0, sR qv, sI 1, sR bk, sI (Int32.ofNat u), sU, sU, sU] [(kR r)]) := fun t k => K7 t (st8 t (by
    refine XS.iloadN X8.here hx rfl (hD 15 rfl) rfl ?_
    refine ialW X8 hx hZ e8 W0 (i := 8) rfl (j := (1 : Int32)) (k := 1) (by decide) (by decide) (by decide) (v := (.int (Int32.ofNat u))) h8 (g := (mkF m 25 #[sR r, sI 0, sR qv, sI 1, sR bk, sU, sU, sU, sU] [(kI 1), (kR vcn)])) rfl rfl (hD 16 rfl) _ ?_
    refine XS.istore X8.here hx rfl (hD 17 rfl) rfl (l' := #[sR r, sI 0, sR qv, sI 1, sR bk, sI (Int32.ofNat u), sU, sU, sU]) rfl ?_
    refine XS.aloadN X8.here hx rfl (hD 18 rfl) rfl rfl ?_
    exact k))
  obtain ⟨T10, X10, e10, st10⟩ := getF X8 hx hZ hown (host := "") (Or.inl (hw _ (mi 161 rfl))) Via.refl e8 (W0.fld (i := 0) rfl (j := 20) rfl rfl) (g := K9.g) rfl rfl (hD 19 rfl)
  have K11 : Rc K0 T10 (mkF m 35 #[sR r, sI 0, sR qv, sI 1, sR bk, sI (Int32.ofNat u), sU, sU, sU] [(kR r), (kI sv)]) := fun t k => K9 t (st10 t (by
    refine XS.iloadN X10.here hx rfl (hD 20 rfl) rfl ?_
    refine ialW X10 hx hZ e10 W0 (i := 9) rfl (j := (1 : Int32)) (k := 1) (by decide) (by decide) (by decide) (v := (.int sv)) h9 (g := (mkF m 33 #[sR r, sI 0, sR qv, sI 1, sR bk, sI (Int32.ofNat u), sU, sU, sU] [(kI 1), (kR shf)])) rfl rfl (hD 21 rfl) _ ?_
    refine XS.aloadN X10.here hx rfl (hD 22 rfl) rfl rfl ?_
    exact k))
  obtain ⟨T12, X12, e12, st12⟩ := getF X10 hx hZ hown (host := "") (Or.inl (hw _ (mi 34 rfl))) Via.refl e10 (W0.fld (i := 0) rfl (j := 9) rfl rfl) (g := K11.g) rfl rfl (hD 23 rfl)
  have K13 : Rc K0 T12 (mkF m 39 #[sR r, sI 0, sR qv, sI 1, sR bk, sI (Int32.ofNat u), sU, sU, sU] [(kR r), (kR ftr), (kI sv)]) := fun t k => K11 t (st12 t (XS.aloadN X12.here hx rfl (hD 24 rfl) rfl rfl k))
  obtain ⟨T14, X14, e14, st14⟩ := getF X12 hx hZ hown (host := "") (Or.inl (hw _ (mi 22 rfl))) Via.refl e12 (W0.fld (i := 0) rfl (j := 3) rfl rfl) (g := K13.g) rfl rfl (hD 25 rfl)
  have K15 : Rc K0 T14 (mkF m 49 #[sR r, sI 0, sR qv, sI 1, sR bk, sI (Int32.ofNat u), sU, sU, sU] [(kI (sv - (Int32.ofNat u)))]) := fun t k => K13 t (st14 t (by
    refine XS.iloadN X14.here hx rfl (hD 26 rfl) rfl ?_
    refine ialW X14 hx hZ e14 W0 (i := 4) rfl (j := (0 : Int32)) (k := 0) (by decide) (by decide) (by decide) (v := (.int (0 : Int32))) h3 (g := (mkF m 43 #[sR r, sI 0, sR qv, sI 1, sR bk, sI (Int32.ofNat u), sU, sU, sU] [(kI 0), (kR fch), (kR ftr), (kI sv)])) rfl rfl (hD 27 rfl) _ ?_
    refine ialW X14 hx hZ e14 W0 (i := 3) rfl (j := (0 : Int32)) (k := 0) (by decide) (by decide) (by decide) (v := (.int (0 : Int32))) h1 (g := (mkF m 44 #[sR r, sI 0, sR qv, sI 1, sR bk, sI (Int32.ofNat u), sU, sU, sU] [(kI 0), (kR ftr), (kI sv)])) rfl rfl (hD 28 rfl) _ ?_
    refine XS.iadd X14.here hx rfl (hD 29 rfl) rfl ?_
    show Steps p.tables e below (T14.setTop (mkF m 46 #[sR r, sI 0, sR qv, sI 1, sR bk, sI (Int32.ofNat u), sU, sU, sU] [(kI (sv + (0 : Int32)))])) _
    rw [Int32.add_zero]
    show Steps p.tables e below (T14.setTop (mkF m 46 #[sR r, sI 0, sR qv, sI 1, sR bk, sI (Int32.ofNat u), sU, sU, sU] [(kI sv)])) _
    refine XS.iload X14.here hx rfl (hD 30 rfl) rfl ?_
    refine XS.isub X14.here hx rfl (hD 31 rfl) rfl ?_
    exact k))
  rw [hS] at K15
  have K16 : Rc K0 T14 (mkF m 57 #[sR r, sI 0, sR qv, sI 1, sR bk, sI (Int32.ofNat u), sI (Int32.ofNat F), sI 1, sI 0] []) := fun t k => K15 t (by
    refine XS.istore X14.here hx rfl (hD 32 rfl) rfl (l' := #[sR r, sI 0, sR qv, sI 1, sR bk, sI (Int32.ofNat u), sI (Int32.ofNat F), sU, sU]) rfl ?_
    refine XS.iconst X14.here hx rfl (hD 33 rfl) ?_
    refine XS.istore X14.here hx rfl (hD 34 rfl) rfl (l' := #[sR r, sI 0, sR qv, sI 1, sR bk, sI (Int32.ofNat u), sI (Int32.ofNat F), sI 1, sU]) rfl ?_
    refine XS.iconst X14.here hx rfl (hD 35 rfl) ?_
    refine XS.istore X14.here hx rfl (hD 36 rfl) rfl (l' := #[sR r, sI 0, sR qv, sI 1, sR bk, sI (Int32.ofNat u), sI (Int32.ofNat F), sI 1, sI 0]) rfl ?_
    exact k)
  have W17 : Wo n0 h0 ((bk, Ar Z .double 64 gk) :: (qv, Ar Z .double 4 gq) :: (r, oR Z [(kR ks), (kR rgs), (kR ns), (kR fch), (kR fk), (kR kl), (kR frg), (kR fac), (kR fcm), (kR ftr), (kR acs), (kR cms), (kR sus), (kR prb), (kI shc), (kR lr), (kI rwc), (kR so), (kR nr), (kR bo), (kR shf), (kR vcn), (kR bl), (kI 2), (kI usd)]) :: (ftr, Ar Z .int 17 g_ftr) :: (fch, Ar Z .int 17 g_fch) :: (bl, Pg Z .double 4 g_bl) :: (lr, Ar Z .int 4 g_lr) :: (bo, Ar Z .int 4 g_bo) :: (vcn, Ar Z .int 4 g_vcn) :: (shf, Ar Z .int 4 g_shf) :: Rr) := Wo.pick W0 [1, 2, 0, 3, 4, 5, 6, 7, 8, 9] 10 (by decide +kernel) rfl
  obtain ⟨T18, i18, X18, e18, K18⟩ := own_zl bk qv gk gq u F (.val (.ref r)) (.val (.int (0 : Int32))) (.val (.int (1 : Int32))) ((r, oR Z [(kR ks), (kR rgs), (kR ns), (kR fch), (kR fk), (kR kl), (kR frg), (kR fac), (kR fcm), (kR ftr), (kR acs), (kR cms), (kR sus), (kR prb), (kI shc), (kR lr), (kI rwc), (kR so), (kR nr), (kR bo), (kR shf), (kR vcn), (kR bl), (kI 2), (kI usd)]) :: (ftr, Ar Z .int 17 g_ftr) :: (fch, Ar Z .int 17 g_fch) :: (bl, Pg Z .double 4 g_bl) :: (lr, Ar Z .int 4 g_lr) :: (bo, Ar Z .int 4 g_bo) :: (vcn, Ar Z .int 4 g_vcn) :: (shf, Ar Z .int 4 g_shf) :: Rr) hx hZ hw hby hml hown W17 hu4 hF u 0 true T14 (by omega) X14 e14 K16
  have K19 : Rc K0 T18 (mkF m 119 #[sR r, sI 0, sR qv, sI 1, sR bk, sI (Int32.ofNat u), sI (Int32.ofNat F), sI (own_bi (own_zr (fun j => own_dv (gk j)) (fun j => own_dv (gq j)) F u 0 true)), sI i18] [(kI (own_bi (own_zr (fun j => own_dv (gk j)) (fun j => own_dv (gq j)) F u 0 true)))]) := fun t k => K18 t (XS.iload X18.here hx rfl (hD 69 rfl) rfl k)
  obtain ⟨fs, hr, hrun, hended, hWm, hsame⟩ := X18.leave (v := some (.int (nar .boolean (own_bi (own_zr (fun j => own_dv (gk j)) (fun j => own_dv (gq j)) F u 0 true))))) (fun h => by rw [Bd.returns] at h; cases h)
  refine ⟨_, _, pre0 _ (K19 _ (retN X18 hx (t := .boolean) Bd.returns (by simp) (hD 70 rfl) hr)), hrun, hended, _, _, rfl, ?_, ⟨_, rfl⟩, hWm, hsame.mono (by decide) (by decide)⟩
  show QrmZA01 Z r ks rgs ns fch fk kl frg fac fcm ftr acs cms sus prb lr so nr bo shf vcn bl bk qv shc rwc usd sv u F gk gq g_ftr g_fch g_bl g_lr g_bo g_vcn g_shf Rr n0 _ T18.heap _
  rw [e18]
  exact ⟨by rw [own_nar], N0, W17⟩
theorem ef_rmZA12 (m : MethodId) (r ks rgs ns fch fk kl frg fac fcm ftr acs cms sus prb : Addr) (lr so nr bo shf vcn bl bk qv : Addr) (shc rwc usd sv : Int32) (u F : Nat) (gk gq g_ftr g_fch g_bl g_lr g_bo g_vcn g_shf : Nat → Value) : entryFrame m #[(.ref r), (.int (1 : Int32)), (.ref qv)] 9 = mkF m 0 #[.val (.ref r), .val (.int (1 : Int32)), .val (.ref qv), .unset, .unset, .unset, .unset, .unset, .unset] [] := by first | (simp [entryFrame, mkF, argsToLocals, Value.category]; done) | rfl
def QrmZA12 (Z : State) (r ks rgs ns fch fk kl frg fac fcm ftr acs cms sus prb : Addr) (lr so nr bo shf vcn bl bk qv : Addr) (shc rwc usd sv : Int32) (u F : Nat) (gk gq g_ftr g_fch g_bl g_lr g_bo g_vcn g_shf : Nat → Value) (Rr : List (Addr × (Cell → Prop))) (n0 : Nat) (v : Option Value) (h : Heap) (L : List Loc) : Prop := v = some (.int (own_bi (own_zr (fun j => own_dv (gk j)) (fun j => own_dv (gq j)) F u 0 true))) ∧ Fr n0 L ∧ Wo n0 h ((bk, Ar Z .double 64 gk) :: (qv, Ar Z .double 4 gq) :: (r, oR Z [(kR ks), (kR rgs), (kR ns), (kR fch), (kR fk), (kR kl), (kR frg), (kR fac), (kR fcm), (kR ftr), (kR acs), (kR cms), (kR sus), (kR prb), (kI shc), (kR lr), (kI rwc), (kR so), (kR nr), (kR bo), (kR shf), (kR vcn), (kR bl), (kI 2), (kI usd)]) :: (ftr, Ar Z .int 17 g_ftr) :: (fch, Ar Z .int 17 g_fch) :: (bl, Pg Z .double 4 g_bl) :: (lr, Ar Z .int 4 g_lr) :: (bo, Ar Z .int 4 g_bo) :: (vcn, Ar Z .int 4 g_vcn) :: (shf, Ar Z .int 4 g_shf) :: Rr)
set_option maxRecDepth 65536 in
set_option maxHeartbeats 40000000 in
theorem rmZA12 (l : Launch) (Z : State) (a0 : Array Value) (hw : ∀ d ∈ tables_1, d.before a0 Z = true) (ws : List Jvm.Cond) (r ks rgs ns fch fk kl frg fac fcm ftr acs cms sus prb : Addr) (lr so nr bo shf vcn bl bk qv : Addr) (shc rwc usd sv : Int32) (u F : Nat) (gk gq g_ftr g_fch g_bl g_lr g_bo g_vcn g_shf : Nat → Value) (Rr : List (Addr × (Cell → Prop))) (h0 : Heap) (n0 : Nat) (W0 : Wo n0 h0 ((r, oR Z [(kR ks), (kR rgs), (kR ns), (kR fch), (kR fk), (kR kl), (kR frg), (kR fac), (kR fcm), (kR ftr), (kR acs), (kR cms), (kR sus), (kR prb), (kI shc), (kR lr), (kI rwc), (kR so), (kR nr), (kR bo), (kR shf), (kR vcn), (kR bl), (kI 2), (kI usd)]) :: (bk, Ar Z .double 64 gk) :: (qv, Ar Z .double 4 gq) :: (ftr, Ar Z .int 17 g_ftr) :: (fch, Ar Z .int 17 g_fch) :: (bl, Pg Z .double 4 g_bl) :: (lr, Ar Z .int 4 g_lr) :: (bo, Ar Z .int 4 g_bo) :: (vcn, Ar Z .int 4 g_vcn) :: (shf, Ar Z .int 4 g_shf) :: Rr)) (hu1 : 1 ≤ u) (hu4 : u ≤ 4) (hF : F + u ≤ 64) (h1 : g_ftr 1 = .int 1) (h3 : g_fch 1 = .int 1) (h5 : g_bl 1 = .ref bk) (h6 : g_lr 1 = .int 2) (h7 : g_bo 2 = .int 1) (h8 : g_vcn 2 = .int (Int32.ofNat u)) (h9 : g_shf 2 = .int sv) (hS : ((sv + (1 : Int32)) - (Int32.ofNat u)) = Int32.ofNat F) :
    MetFree l y_za (head1 (Jvm.Cond.code y_za prog_87_method_20_code 9 (some .boolean) :: ws) ({ frames := 0, cells := 0, slots := 0, locals := 0 } : Room)) (fun aa U => aa = #[(.ref r), (.int (1 : Int32)), (.ref qv)] ∧ Z.Warmed39 U.vm ∧ U.heap = h0) (fun _ _ _ _ _ => True) (fun _ U ou U' => ∃ v L, ou = .returned v ∧ QrmZA12 Z r ks rgs ns fch fk kl frg fac fcm ftr acs cms sus prb lr so nr bo shf vcn bl bk qv shc rwc usd sv u F gk gq g_ftr g_fch g_bl g_lr g_bo g_vcn g_shf Rr n0 v U'.heap L ∧ FrameEnd U ou U' L ({ frames := 0, cells := 0, slots := 0, locals := 0 } : Room).cells ({ frames := 0, cells := 0, slots := 0, locals := 0 } : Room).slots) := by
  refine MetFree.of_bodySF (plainFor_of_name pn_Rows) hisR ?_
  intro p e s m args below meth c s₁ Bd hml0 hP hK
  obtain ⟨rfl, hZ, hh⟩ := hP
  have hx := Bd.exec
  have hby := Bd.bytes
  have hml : c.maxLocals = 9 := hml0
  have hD : ∀ (k : Nat) {pc : Nat} {i : Instr} {n : Nat}, Ld_za[k]? = some (pc, i, n) → decode c.code pc = .ok (i, n) := by intro k pc i n h; exact hb hby (d_za (pc, i, n) (mi k h))
  have hown : s.vm.findClass "com/example/sambre/sambre/engine/Rows" = some m.cls := findClass_of_methodNamed Bd.named
  have hnm := (name_of_methodNamed Bd.named Bd.method).1
  have X0 : Stand p l e ({ frames := 0, cells := 0, slots := 0, locals := 0 } : Room) s m #[(.ref r), (.int (1 : Int32)), (.ref qv)] below meth c s₁ [] 0 0 := Stand.of_body Bd
  have e0 : s₁.heap = h0 := by rw [← hh, Bd.state]; rfl
  have N0 := Fr.nil n0
  obtain ⟨F0, hF0⟩ : ∃ F, F = mkF m 0 #[.val (.ref r), .val (.int (1 : Int32)), .val (.ref qv), .unset, .unset, .unset, .unset, .unset, .unset] [] := ⟨_, rfl⟩
  have pre0 : ∀ t, Steps p.tables e below (s₁.setTop F0) t → Steps p.tables e below (s₁.setTop (entryFrame m #[(.ref r), (.int (1 : Int32)), (.ref qv)] 9)) t := fun t k => castTop ((ef_rmZA12 m r ks rgs ns fch fk kl frg fac fcm ftr acs cms sus prb lr so nr bo shf vcn bl bk qv shc rwc usd sv u F gk gq g_ftr g_fch g_bl g_lr g_bo g_vcn g_shf).trans hF0.symm) k
  have K0 : Rch p e below s₁ F0 s₁ (mkF m 0 #[.val (.ref r), .val (.int (1 : Int32)), .val (.ref qv), .unset, .unset, .unset, .unset, .unset, .unset] []) := fun t k => castTop hF0 k
  have K1 : Rc K0 s₁ (mkF m 1 #[sR r, sI 1, sR qv, sU, sU, sU, sU, sU, sU] [(kR r)]) := fun t k => K0 t (XS.aloadN X0.here hx rfl (hD 0 rfl) rfl rfl k)
  obtain ⟨T2, X2, e2, st2⟩ := getF X0 hx hZ hown (host := "") (Or.inl (hw _ (mi 107 rfl))) Via.refl e0 (W0.fld (i := 0) rfl (j := 15) rfl rfl) (g := K1.g) rfl rfl (hD 1 rfl)
  have K3 : Rc K0 T2 (mkF m 8 #[sR r, sI 1, sR qv, sI 2, sU, sU, sU, sU, sU] [(kR r)]) := fun t k => K1 t (st2 t (by
    refine XS.iloadN X2.here hx rfl (hD 2 rfl) rfl ?_
    refine ialW X2 hx hZ e2 W0 (i := 6) rfl (j := (1 : Int32)) (k := 1) (by decide) (by decide) (by decide) (v := (.int (2 : Int32))) h6 (g := (mkF m 5 #[sR r, sI 1, sR qv, sU, sU, sU, sU, sU, sU] [(kI 1), (kR lr)])) rfl rfl (hD 3 rfl) _ ?_
    refine XS.istoreN X2.here hx rfl (hD 4 rfl) rfl (l' := #[sR r, sI 1, sR qv, sI 2, sU, sU, sU, sU, sU]) rfl ?_
    refine XS.aloadN X2.here hx rfl (hD 5 rfl) rfl rfl ?_
    exact k))
  obtain ⟨T4, X4, e4, st4⟩ := getF X2 hx hZ hown (host := "") (Or.inl (hw _ (mi 167 rfl))) Via.refl e2 (W0.fld (i := 0) rfl (j := 22) rfl rfl) (g := K3.g) rfl rfl (hD 6 rfl)
  have K5 : Rc K0 T4 (mkF m 12 #[sR r, sI 1, sR qv, sI 2, sU, sU, sU, sU, sU] [(kR r), (kR bl)]) := fun t k => K3 t (st4 t (XS.aloadN X4.here hx rfl (hD 7 rfl) rfl rfl k))
  obtain ⟨T6, X6, e6, st6⟩ := getF X4 hx hZ hown (host := "") (Or.inl (hw _ (mi 159 rfl))) Via.refl e4 (W0.fld (i := 0) rfl (j := 19) rfl rfl) (g := K5.g) rfl rfl (hD 8 rfl)
  have K7 : Rc K0 T6 (mkF m 21 #[sR r, sI 1, sR qv, sI 2, sR bk, sU, sU, sU, sU] [(kR r)]) := fun t k => K5 t (st6 t (by
    refine XS.iloadN X6.here hx rfl (hD 9 rfl) rfl ?_
    refine ialW X6 hx hZ e6 W0 (i := 7) rfl (j := (2 : Int32)) (k := 2) (by decide) (by decide) (by decide) (v := (.int (1 : Int32))) h7 (g := (mkF m 16 #[sR r, sI 1, sR qv, sI 2, sU, sU, sU, sU, sU] [(kI 2), (kR bo), (kR bl)])) rfl rfl (hD 10 rfl) _ ?_
    refine aalW X6 hx hZ e6 W0 (i := 5) rfl (fun _ q => q.1) rfl (j := (1 : Int32)) (k := 1) (by decide) (by decide) (by decide) (v := (.ref bk)) h5 (g := (mkF m 17 #[sR r, sI 1, sR qv, sI 2, sU, sU, sU, sU, sU] [(kI 1), (kR bl)])) rfl rfl (hD 11 rfl) _ ?_
    refine XS.astore X6.here hx rfl (hD 12 rfl) rfl rfl (l' := #[sR r, sI 1, sR qv, sI 2, sR bk, sU, sU, sU, sU]) rfl ?_
    refine XS.aloadN X6.here hx rfl (hD 13 rfl) rfl rfl ?_
    exact k))
  obtain ⟨T8, X8, e8, st8⟩ := getF X6 hx hZ hown (host := "") (Or.inl (hw _ (mi 163 rfl))) Via.refl e6 (W0.fld (i := 0) rfl (j := 21) rfl rfl) (g := K7.g) rfl rfl (hD 14 rfl)
  have K9 : Rc K0 T8 (mkF m 29 #[sR r, sI 1, sR qv, sI 2, sR bk, sI (Int32.ofNat u), sU, sU, sU] [(kR r)]) := fun t k => K7 t (st8 t (by
    refine XS.iloadN X8.here hx rfl (hD 15 rfl) rfl ?_
    refine ialW X8 hx hZ e8 W0 (i := 8) rfl (j := (2 : Int32)) (k := 2) (by decide) (by decide) (by decide) (v := (.int (Int32.ofNat u))) h8 (g := (mkF m 25 #[sR r, sI 1, sR qv, sI 2, sR bk, sU, sU, sU, sU] [(kI 2), (kR vcn)])) rfl rfl (hD 16 rfl) _ ?_
    refine XS.istore X8.here hx rfl (hD 17 rfl) rfl (l' := #[sR r, sI 1, sR qv, sI 2, sR bk, sI (Int32.ofNat u), sU, sU, sU]) rfl ?_
    refine XS.aloadN X8.here hx rfl (hD 18 rfl) rfl rfl ?_
    exact k))
  obtain ⟨T10, X10, e10, st10⟩ := getF X8 hx hZ hown (host := "") (Or.inl (hw _ (mi 161 rfl))) Via.refl e8 (W0.fld (i := 0) rfl (j := 20) rfl rfl) (g := K9.g) rfl rfl (hD 19 rfl)
  have K11 : Rc K0 T10 (mkF m 35 #[sR r, sI 1, sR qv, sI 2, sR bk, sI (Int32.ofNat u), sU, sU, sU] [(kR r), (kI sv)]) := fun t k => K9 t (st10 t (by
    refine XS.iloadN X10.here hx rfl (hD 20 rfl) rfl ?_
    refine ialW X10 hx hZ e10 W0 (i := 9) rfl (j := (2 : Int32)) (k := 2) (by decide) (by decide) (by decide) (v := (.int sv)) h9 (g := (mkF m 33 #[sR r, sI 1, sR qv, sI 2, sR bk, sI (Int32.ofNat u), sU, sU, sU] [(kI 2), (kR shf)])) rfl rfl (hD 21 rfl) _ ?_
    refine XS.aloadN X10.here hx rfl (hD 22 rfl) rfl rfl ?_
    exact k))
  obtain ⟨T12, X12, e12, st12⟩ := getF X10 hx hZ hown (host := "") (Or.inl (hw _ (mi 34 rfl))) Via.refl e10 (W0.fld (i := 0) rfl (j := 9) rfl rfl) (g := K11.g) rfl rfl (hD 23 rfl)
  have K13 : Rc K0 T12 (mkF m 39 #[sR r, sI 1, sR qv, sI 2, sR bk, sI (Int32.ofNat u), sU, sU, sU] [(kR r), (kR ftr), (kI sv)]) := fun t k => K11 t (st12 t (XS.aloadN X12.here hx rfl (hD 24 rfl) rfl rfl k))
  obtain ⟨T14, X14, e14, st14⟩ := getF X12 hx hZ hown (host := "") (Or.inl (hw _ (mi 22 rfl))) Via.refl e12 (W0.fld (i := 0) rfl (j := 3) rfl rfl) (g := K13.g) rfl rfl (hD 25 rfl)
  have K15 : Rc K0 T14 (mkF m 49 #[sR r, sI 1, sR qv, sI 2, sR bk, sI (Int32.ofNat u), sU, sU, sU] [(kI ((sv + (1 : Int32)) - (Int32.ofNat u)))]) := fun t k => K13 t (st14 t (by
    refine XS.iloadN X14.here hx rfl (hD 26 rfl) rfl ?_
    refine ialW X14 hx hZ e14 W0 (i := 4) rfl (j := (1 : Int32)) (k := 1) (by decide) (by decide) (by decide) (v := (.int (1 : Int32))) h3 (g := (mkF m 43 #[sR r, sI 1, sR qv, sI 2, sR bk, sI (Int32.ofNat u), sU, sU, sU] [(kI 1), (kR fch), (kR ftr), (kI sv)])) rfl rfl (hD 27 rfl) _ ?_
    refine ialW X14 hx hZ e14 W0 (i := 3) rfl (j := (1 : Int32)) (k := 1) (by decide) (by decide) (by decide) (v := (.int (1 : Int32))) h1 (g := (mkF m 44 #[sR r, sI 1, sR qv, sI 2, sR bk, sI (Int32.ofNat u), sU, sU, sU] [(kI 1), (kR ftr), (kI sv)])) rfl rfl (hD 28 rfl) _ ?_
    refine XS.iadd X14.here hx rfl (hD 29 rfl) rfl ?_
    refine XS.iload X14.here hx rfl (hD 30 rfl) rfl ?_
    refine XS.isub X14.here hx rfl (hD 31 rfl) rfl ?_
    exact k))
  rw [hS] at K15
  have K16 : Rc K0 T14 (mkF m 57 #[sR r, sI 1, sR qv, sI 2, sR bk, sI (Int32.ofNat u), sI (Int32.ofNat F), sI 1, sI 0] []) := fun t k => K15 t (by
    refine XS.istore X14.here hx rfl (hD 32 rfl) rfl (l' := #[sR r, sI 1, sR qv, sI 2, sR bk, sI (Int32.ofNat u), sI (Int32.ofNat F), sU, sU]) rfl ?_
    refine XS.iconst X14.here hx rfl (hD 33 rfl) ?_
    refine XS.istore X14.here hx rfl (hD 34 rfl) rfl (l' := #[sR r, sI 1, sR qv, sI 2, sR bk, sI (Int32.ofNat u), sI (Int32.ofNat F), sI 1, sU]) rfl ?_
    refine XS.iconst X14.here hx rfl (hD 35 rfl) ?_
    refine XS.istore X14.here hx rfl (hD 36 rfl) rfl (l' := #[sR r, sI 1, sR qv, sI 2, sR bk, sI (Int32.ofNat u), sI (Int32.ofNat F), sI 1, sI 0]) rfl ?_
    exact k)
  have W17 : Wo n0 h0 ((bk, Ar Z .double 64 gk) :: (qv, Ar Z .double 4 gq) :: (r, oR Z [(kR ks), (kR rgs), (kR ns), (kR fch), (kR fk), (kR kl), (kR frg), (kR fac), (kR fcm), (kR ftr), (kR acs), (kR cms), (kR sus), (kR prb), (kI shc), (kR lr), (kI rwc), (kR so), (kR nr), (kR bo), (kR shf), (kR vcn), (kR bl), (kI 2), (kI usd)]) :: (ftr, Ar Z .int 17 g_ftr) :: (fch, Ar Z .int 17 g_fch) :: (bl, Pg Z .double 4 g_bl) :: (lr, Ar Z .int 4 g_lr) :: (bo, Ar Z .int 4 g_bo) :: (vcn, Ar Z .int 4 g_vcn) :: (shf, Ar Z .int 4 g_shf) :: Rr) := Wo.pick W0 [1, 2, 0, 3, 4, 5, 6, 7, 8, 9] 10 (by decide +kernel) rfl
  obtain ⟨T18, i18, X18, e18, K18⟩ := own_zl bk qv gk gq u F (.val (.ref r)) (.val (.int (1 : Int32))) (.val (.int (2 : Int32))) ((r, oR Z [(kR ks), (kR rgs), (kR ns), (kR fch), (kR fk), (kR kl), (kR frg), (kR fac), (kR fcm), (kR ftr), (kR acs), (kR cms), (kR sus), (kR prb), (kI shc), (kR lr), (kI rwc), (kR so), (kR nr), (kR bo), (kR shf), (kR vcn), (kR bl), (kI 2), (kI usd)]) :: (ftr, Ar Z .int 17 g_ftr) :: (fch, Ar Z .int 17 g_fch) :: (bl, Pg Z .double 4 g_bl) :: (lr, Ar Z .int 4 g_lr) :: (bo, Ar Z .int 4 g_bo) :: (vcn, Ar Z .int 4 g_vcn) :: (shf, Ar Z .int 4 g_shf) :: Rr) hx hZ hw hby hml hown W17 hu4 hF u 0 true T14 (by omega) X14 e14 K16
  have K19 : Rc K0 T18 (mkF m 119 #[sR r, sI 1, sR qv, sI 2, sR bk, sI (Int32.ofNat u), sI (Int32.ofNat F), sI (own_bi (own_zr (fun j => own_dv (gk j)) (fun j => own_dv (gq j)) F u 0 true)), sI i18] [(kI (own_bi (own_zr (fun j => own_dv (gk j)) (fun j => own_dv (gq j)) F u 0 true)))]) := fun t k => K18 t (XS.iload X18.here hx rfl (hD 69 rfl) rfl k)
  obtain ⟨fs, hr, hrun, hended, hWm, hsame⟩ := X18.leave (v := some (.int (nar .boolean (own_bi (own_zr (fun j => own_dv (gk j)) (fun j => own_dv (gq j)) F u 0 true))))) (fun h => by rw [Bd.returns] at h; cases h)
  refine ⟨_, _, pre0 _ (K19 _ (retN X18 hx (t := .boolean) Bd.returns (by simp) (hD 70 rfl) hr)), hrun, hended, _, _, rfl, ?_, ⟨_, rfl⟩, hWm, hsame.mono (by decide) (by decide)⟩
  show QrmZA12 Z r ks rgs ns fch fk kl frg fac fcm ftr acs cms sus prb lr so nr bo shf vcn bl bk qv shc rwc usd sv u F gk gq g_ftr g_fch g_bl g_lr g_bo g_vcn g_shf Rr n0 _ T18.heap _
  rw [e18]
  exact ⟨by rw [own_nar], N0, W17⟩
def own_exp (gs gq : Nat → Value) (u : Nat) : Bool := own_same (own_dv (gs 0)) (own_dv (gq 0)) && (decide (u < 2) || own_same (own_dv (gs 1)) (own_dv (gq 1))) && (decide (u < 3) || own_same (own_dv (gs 2)) (own_dv (gq 2))) && (decide (u < 4) || own_same (own_dv (gs 3)) (own_dv (gq 3)))
def own_zg (S : Nat → Bool) : Nat → Nat → Bool → Bool
  | 0, _, b => b
  | k + 1, i, b => if b then own_zg S k (i + 1) (S i) else false
theorem own_zr_g {A B : Nat → UInt64} {F : Nat} : ∀ (k i : Nat) (b : Bool), own_zr A B F k i b = own_zg (fun j => own_same (A (F + j)) (B j)) k i b := by
  intro k
  induction k with
  | zero => intro i b; rfl
  | succ k ih =>
    intro i b
    cases b with
    | false => rfl
    | true => exact ih (i + 1) _
theorem own_dec1 : ∀ s0 s1 s2 s3 : Bool, s0 = (s0 && (decide (1 < 2) || s1) && (decide (1 < 3) || s2) && (decide (1 < 4) || s3)) := by decide
theorem own_zg1 (S : Nat → Bool) : own_zg S 1 0 true = S 0 := rfl
theorem own_dec2 : ∀ s0 s1 s2 s3 : Bool, (if s0 = true then s1 else false) = (s0 && (decide (2 < 2) || s1) && (decide (2 < 3) || s2) && (decide (2 < 4) || s3)) := by decide
theorem own_zg2 (S : Nat → Bool) : own_zg S 2 0 true = (if S 0 = true then S 1 else false) := rfl
theorem own_dec3 : ∀ s0 s1 s2 s3 : Bool, (if s0 = true then (if s1 = true then s2 else false) else false) = (s0 && (decide (3 < 2) || s1) && (decide (3 < 3) || s2) && (decide (3 < 4) || s3)) := by decide
theorem own_zg3 (S : Nat → Bool) : own_zg S 3 0 true = (if S 0 = true then (if S 1 = true then S 2 else false) else false) := rfl
theorem own_dec4 : ∀ s0 s1 s2 s3 : Bool, (if s0 = true then (if s1 = true then (if s2 = true then s3 else false) else false) else false) = (s0 && (decide (4 < 2) || s1) && (decide (4 < 3) || s2) && (decide (4 < 4) || s3)) := by decide
theorem own_zg4 (S : Nat → Bool) : own_zg S 4 0 true = (if S 0 = true then (if S 1 = true then (if S 2 = true then S 3 else false) else false) else false) := rfl
theorem own_zr_exp {A B : Nat → UInt64} {gs gq : Nat → Value} {F u : Nat} (hu1 : 1 ≤ u) (hu4 : u ≤ 4) (hA : ∀ j, j < u → A (F + j) = own_dv (gs j)) (hB : ∀ j, B j = own_dv (gq j)) : own_zr A B F u 0 true = own_exp gs gq u := by
  rw [own_zr_g]
  have hS : ∀ j, j < u → (fun j => own_same (A (F + j)) (B j)) j = own_same (own_dv (gs j)) (own_dv (gq j)) := fun j hj => by
    show own_same (A (F + j)) (B j) = _
    rw [hA j hj, hB j]
  generalize (fun j => own_same (A (F + j)) (B j)) = S at hS ⊢
  unfold own_exp
  rcases (by omega : u = 1 ∨ u = 2 ∨ u = 3 ∨ u = 4) with rfl | rfl | rfl | rfl
  · rw [own_zg1, hS 0 (by decide)]
    exact own_dec1 _ _ _ _
  · rw [own_zg2, hS 0 (by decide), hS 1 (by decide)]
    exact own_dec2 _ _ _ _
  · rw [own_zg3, hS 0 (by decide), hS 1 (by decide), hS 2 (by decide)]
    exact own_dec3 _ _ _ _
  · rw [own_zg4, hS 0 (by decide), hS 1 (by decide), hS 2 (by decide), hS 3 (by decide)]
    exact own_dec4 _ _ _ _
theorem own_blk {f q b : Nat → Value} {d e u j : Nat} (he : e = d + u) (hj : j < u) : cpy q (cpy f b 0 d u) 0 e 1 (d + j) = f j := by
  subst he
  unfold cpy
  rw [if_neg (by omega), if_pos (by omega), show 0 + (d + j - d) = j by omega]
theorem own_s0 {X u F : Nat} (h : X = F + u) (hb : X < 2147483648) : (Int32.ofNat X - 0) - Int32.ofNat u = Int32.ofNat F := by
  rw [Int32.sub_zero, own_sub (by omega) hb, show X - u = F by omega]
theorem own_s1 {X u F : Nat} (h : X = F + u) (hb : X < 2147483648) : ((Int32.ofNat X - 1) + 1) - Int32.ofNat u = Int32.ofNat F := by
  rw [Int32.sub_add_cancel, own_sub (by omega) hb, show X - u = F by omega]
theorem own_small (x : Int32) : ∃ u : Nat, 1 ≤ u ∧ u ≤ 4 ∧ (x &&& (3 : Int32)) + (1 : Int32) = Int32.ofNat u := by
  obtain ⟨h1, h2⟩ := c_and x 3 (by decide)
  have h3 : (3 : Int32).toInt = 3 := by decide
  refine ⟨((x &&& 3).toInt + 1).toNat, by omega, by omega, ?_⟩
  apply Int32.toInt_inj.mp
  have h4 := c_iadd (x &&& 3) 1
  have h5 := rng32 ((x &&& 3) + 1)
  rw [show (1 : Int32).toInt = 1 by decide] at h4
  rw [own_int (by omega)]
  omega
set_option maxRecDepth 65536 in
set_option maxHeartbeats 40000000 in
theorem tnT {p : Program} {l : Launch} {e : Env} {s : State} {m : MethodId} {args : Array Value} {below : List Frame} {meth : Method} {c : Code} {s₁ : State} {F0 : JFrame} {T0 : State} {locs : List Loc} {cells slots : Nat} {Z : State} {a0 : Array Value} {n0 : Nat} {h0 : Heap} (sv qv : Addr) (gs gq : Nat → Value) (u : Nat) (sl0 sl1 sl2 sl3 sl5 sl6 sl7 sl8 sl10 sl11 sl12 sl13 sl14 : Slot) (Rr : List (Addr × (Cell → Prop)))
    (X0 : Stand p l e room_1 s m args below meth c T0 locs cells slots) (hx : p.tables.exec = Jvm.exec) (hZ : Z.Warmed39 s.vm) (hw : ∀ d ∈ tables_1, d.before a0 Z = true) (hby : c.code = code) (hml : c.maxLocals = 17) (hown : s.vm.findClass "com/example/sambre/sambre/engine/RowsZeroAlikePinLaw" = some m.cls) (e0 : T0.heap = h0) (W0 : Wo n0 h0 ((sv, Ar Z .double 4 gs) :: (qv, Ar Z .double 4 gq) :: Rr)) (N0 : Fr n0 locs) (hcl : cells + 0 ≤ room_1.cells) (hsl : slots + 0 ≤ room_1.slots) (hu1 : 1 ≤ u) (hu4 : u ≤ 4) (K0 : Rch p e below s₁ F0 T0 (mkF m 291 #[sl0, sl1, sl2, sl3, .val (.int (Int32.ofNat u)), sl5, sl6, sl7, sl8, .val (.ref qv), sl10, sl11, sl12, sl13, sl14, .val (.ref sv), .unset] [])) :
    ∃ T' L', Stand p l e room_1 s m args below meth c T' L' cells slots ∧ Fr n0 L' ∧ Wo n0 T'.heap ((sv, Ar Z .double 4 gs) :: (qv, Ar Z .double 4 gq) :: Rr) ∧ Rch p e below s₁ F0 T' (mkF m 372 #[sl0, sl1, sl2, sl3, .val (.int (Int32.ofNat u)), sl5, sl6, sl7, sl8, .val (.ref qv), sl10, sl11, sl12, sl13, sl14, .val (.ref sv), .val (.int (own_bi (own_exp gs gq u)))] []) := by
  have K1 : Rc K0 T0 (mkF m 299 #[sl0, sl1, sl2, sl3, sI (Int32.ofNat u), sl5, sl6, sl7, sl8, sR qv, sl10, sl11, sl12, sl13, sl14, sR sv, sU] [(kD (own_dv (gq 0))), (kD (own_dv (gs 0)))]) := fun t k => K0 t (by
    refine XS.aload X0.here hx rfl (hb hby at_291) rfl rfl ?_
    refine XS.iconst X0.here hx rfl (hb hby at_293) ?_
    refine dalW X0 hx hZ e0 W0 (i := 0) rfl (j := (0 : Int32)) (k := 0) (by decide) (by decide) (by decide) (v := (.double (own_dv (gs 0)))) (own_arD W0 (i := 0) rfl (by omega)) (g := (mkF m 294 #[sl0, sl1, sl2, sl3, sI (Int32.ofNat u), sl5, sl6, sl7, sl8, sR qv, sl10, sl11, sl12, sl13, sl14, sR sv, sU] [(kI 0), (kR sv)])) rfl rfl (hb hby at_294) _ ?_
    refine XS.aload X0.here hx rfl (hb hby at_295) rfl rfl ?_
    refine XS.iconst X0.here hx rfl (hb hby at_297) ?_
    refine dalW X0 hx hZ e0 W0 (i := 1) rfl (j := (0 : Int32)) (k := 0) (by decide) (by decide) (by decide) (v := (.double (own_dv (gq 0)))) (own_arD W0 (i := 1) rfl (by omega)) (g := (mkF m 298 #[sl0, sl1, sl2, sl3, sI (Int32.ofNat u), sl5, sl6, sl7, sl8, sR qv, sl10, sl11, sl12, sl13, sl14, sR sv, sU] [(kI 0), (kR qv), (kD (own_dv (gs 0)))])) rfl rfl (hb hby at_298) _ ?_
    exact k)
  obtain ⟨_, _, ⟨T2, L2, k2, n2⟩, -, X2, ⟨Lc2, hQ2, l2, y2, z2⟩, st2⟩ := Jvm.LawKit.callS X0 hx (y := y_sm) hown (mvT hZ (hw _ (mi 183 rfl))) (mvT hZ (hw _ (mi 184 rfl))) (mvT hZ (hw _ (mi 3 rfl))) (mvT hZ (hw _ (mi 185 rfl))) (by decide) (backOf (W := 0) (rmSM l Z a0 hw [] (own_dv (gs 0)) (own_dv (gq 0)) ((sv, Ar Z .double 4 gs) :: (qv, Ar Z .double 4 gq) :: Rr) h0 n0 W0) hZ (hw _ (mi 185 rfl)) (hw _ (mi 3 rfl)) (by decide) (by decide)) (g := K1.g) rfl (by rw [hml]; rfl) (argsL := [(.double (own_dv (gs 0))), (.double (own_dv (gq 0)))]) (rest := []) (lenOf pd_sm rfl) rfl (by show 2 * 0 + _ ≤ _; exact Nat.le_of_eq rfl) (hb hby at_299) (fun _ _ => ⟨rfl, e0, hcl, hsl⟩)
  dsimp only [Pt.U, Pt.locs, Pt.cells, Pt.slots] at X2 l2 y2 z2 st2 hQ2
  subst l2 y2 z2
  obtain ⟨rfl, N2q, W2⟩ := hQ2
  have N2 := Fr.app N0 N2q
  have K3 : Rc K0 T2 (mkF m 302 #[sl0, sl1, sl2, sl3, sI (Int32.ofNat u), sl5, sl6, sl7, sl8, sR qv, sl10, sl11, sl12, sl13, sl14, sR sv, sU] [(kI (own_bi (own_same (own_dv (gs 0)) (own_dv (gq 0)))))]) := fun t k => K1 t (st2 t (k))
  by_cases t0 : (own_same (own_dv (gs 0)) (own_dv (gq 0))) = true
  · have t0b := t0
    have K4 : Rc K0 T2 (mkF m 308 #[sl0, sl1, sl2, sl3, sI (Int32.ofNat u), sl5, sl6, sl7, sl8, sR qv, sl10, sl11, sl12, sl13, sl14, sR sv, sU] [(kI 2), (kI (Int32.ofNat u))]) := fun t k => K3 t (by
      refine XS.ifNo X2.here hx rfl (hb hby at_302) rfl ((if0 _ _).trans (feq (show ¬ (own_bi (own_same (own_dv (gs 0)) (own_dv (gq 0))) = 0) from by rw [t0]; decide)).1) ?_
      refine XS.iload X2.here hx rfl (hb hby at_305) rfl ?_
      refine XS.iconst X2.here hx rfl (hb hby at_307) ?_
      exact k)
    by_cases v0 : u < 2
    · have v0b := v0
      have K5 : Rc K0 T2 (mkF m 372 #[sl0, sl1, sl2, sl3, sI (Int32.ofNat u), sl5, sl6, sl7, sl8, sR qv, sl10, sl11, sl12, sl13, sl14, sR sv, sI 1] []) := fun t k => K4 t (by
        refine XS.icmpYes X2.here hx rfl (pc0 := 308) (pc' := 325) rfl (hb hby at_308) rfl (tlt (own_lt (b := 2) (show u < 2 by omega) (by decide))).1 (by decide) (by decide) ?_
        refine XS.iload X2.here hx rfl (hb hby at_325) rfl ?_
        refine XS.iconst X2.here hx rfl (hb hby at_327) ?_
        refine XS.icmpYes X2.here hx rfl (pc0 := 328) (pc' := 345) rfl (hb hby at_328) rfl (tlt (own_lt (b := 3) (show u < 3 by omega) (by decide))).1 (by decide) (by decide) ?_
        refine XS.iload X2.here hx rfl (hb hby at_345) rfl ?_
        refine XS.iconst X2.here hx rfl (hb hby at_347) ?_
        refine XS.icmpYes X2.here hx rfl (pc0 := 348) (pc' := 365) rfl (hb hby at_348) rfl (tlt (own_lt (b := 4) (show u < 4 by omega) (by decide))).1 (by decide) (by decide) ?_
        refine XS.iconst X2.here hx rfl (hb hby at_365) ?_
        refine XS.goto X2.here hx rfl (pc0 := 366) (pc' := 370) rfl (hb hby at_366) (by decide) (by decide) ?_
        refine XS.istore X2.here hx rfl (hb hby at_370) rfl (l' := #[sl0, sl1, sl2, sl3, sI (Int32.ofNat u), sl5, sl6, sl7, sl8, sR qv, sl10, sl11, sl12, sl13, sl14, sR sv, sI 1]) rfl ?_
        exact k)
      have hv : own_bi (own_exp gs gq u) = 1 := by simp [own_exp, own_bi, t0, (show u < 2 by omega), (show u < 3 by omega), (show u < 4 by omega)]
      rw [hv]
      exact ⟨T2, _, X2, N2, W2, K5⟩
    · have v0b := v0
      have K6 : Rc K0 T2 (mkF m 311 #[sl0, sl1, sl2, sl3, sI (Int32.ofNat u), sl5, sl6, sl7, sl8, sR qv, sl10, sl11, sl12, sl13, sl14, sR sv, sU] []) := fun t k => K4 t (XS.icmpNo X2.here hx rfl (hb hby at_308) rfl (flt (own_nlt (a := u) (b := 2) (by omega) (by omega))).1 k)
      have K7 : Rc K0 T2 (mkF m 319 #[sl0, sl1, sl2, sl3, sI (Int32.ofNat u), sl5, sl6, sl7, sl8, sR qv, sl10, sl11, sl12, sl13, sl14, sR sv, sU] [(kD (own_dv (gq 1))), (kD (own_dv (gs 1)))]) := fun t k => K6 t (by
        refine XS.aload X2.here hx rfl (hb hby at_311) rfl rfl ?_
        refine XS.iconst X2.here hx rfl (hb hby at_313) ?_
        refine dalW X2 hx hZ (rfl : T2.heap = T2.heap) W2 (i := 0) rfl (j := (1 : Int32)) (k := 1) (by decide) (by decide) (by decide) (v := (.double (own_dv (gs 1)))) (own_arD W2 (i := 0) rfl (by omega)) (g := (mkF m 314 #[sl0, sl1, sl2, sl3, sI (Int32.ofNat u), sl5, sl6, sl7, sl8, sR qv, sl10, sl11, sl12, sl13, sl14, sR sv, sU] [(kI 1), (kR sv)])) rfl rfl (hb hby at_314) _ ?_
        refine XS.aload X2.here hx rfl (hb hby at_315) rfl rfl ?_
        refine XS.iconst X2.here hx rfl (hb hby at_317) ?_
        refine dalW X2 hx hZ (rfl : T2.heap = T2.heap) W2 (i := 1) rfl (j := (1 : Int32)) (k := 1) (by decide) (by decide) (by decide) (v := (.double (own_dv (gq 1)))) (own_arD W2 (i := 1) rfl (by omega)) (g := (mkF m 318 #[sl0, sl1, sl2, sl3, sI (Int32.ofNat u), sl5, sl6, sl7, sl8, sR qv, sl10, sl11, sl12, sl13, sl14, sR sv, sU] [(kI 1), (kR qv), (kD (own_dv (gs 1)))])) rfl rfl (hb hby at_318) _ ?_
        exact k)
      obtain ⟨_, _, ⟨T8, L8, k8, n8⟩, -, X8, ⟨Lc8, hQ8, l8, y8, z8⟩, st8⟩ := Jvm.LawKit.callS X2 hx (y := y_sm) hown (mvT hZ (hw _ (mi 183 rfl))) (mvT hZ (hw _ (mi 184 rfl))) (mvT hZ (hw _ (mi 3 rfl))) (mvT hZ (hw _ (mi 185 rfl))) (by decide) (backOf (W := 0) (rmSM l Z a0 hw [] (own_dv (gs 1)) (own_dv (gq 1)) ((sv, Ar Z .double 4 gs) :: (qv, Ar Z .double 4 gq) :: Rr) T2.heap n0 W2) hZ (hw _ (mi 185 rfl)) (hw _ (mi 3 rfl)) (by decide) (by decide)) (g := K7.g) rfl (by rw [hml]; rfl) (argsL := [(.double (own_dv (gs 1))), (.double (own_dv (gq 1)))]) (rest := []) (lenOf pd_sm rfl) rfl (by show 2 * 0 + _ ≤ _; exact Nat.le_of_eq rfl) (hb hby at_319) (fun _ _ => ⟨rfl, (rfl : T2.heap = T2.heap), hcl, hsl⟩)
      dsimp only [Pt.U, Pt.locs, Pt.cells, Pt.slots] at X8 l8 y8 z8 st8 hQ8
      subst l8 y8 z8
      obtain ⟨rfl, N8q, W8⟩ := hQ8
      have N8 := Fr.app N2 N8q
      have K9 : Rc K0 T8 (mkF m 322 #[sl0, sl1, sl2, sl3, sI (Int32.ofNat u), sl5, sl6, sl7, sl8, sR qv, sl10, sl11, sl12, sl13, sl14, sR sv, sU] [(kI (own_bi (own_same (own_dv (gs 1)) (own_dv (gq 1)))))]) := fun t k => K7 t (st8 t (k))
      by_cases t1 : (own_same (own_dv (gs 1)) (own_dv (gq 1))) = true
      · have t1b := t1
        have K10 : Rc K0 T8 (mkF m 328 #[sl0, sl1, sl2, sl3, sI (Int32.ofNat u), sl5, sl6, sl7, sl8, sR qv, sl10, sl11, sl12, sl13, sl14, sR sv, sU] [(kI 3), (kI (Int32.ofNat u))]) := fun t k => K9 t (by
          refine XS.ifNo X8.here hx rfl (hb hby at_322) rfl ((if0 _ _).trans (feq (show ¬ (own_bi (own_same (own_dv (gs 1)) (own_dv (gq 1))) = 0) from by rw [t1]; decide)).1) ?_
          refine XS.iload X8.here hx rfl (hb hby at_325) rfl ?_
          refine XS.iconst X8.here hx rfl (hb hby at_327) ?_
          exact k)
        by_cases v1 : u < 3
        · have v1b := v1
          have K11 : Rc K0 T8 (mkF m 372 #[sl0, sl1, sl2, sl3, sI (Int32.ofNat u), sl5, sl6, sl7, sl8, sR qv, sl10, sl11, sl12, sl13, sl14, sR sv, sI 1] []) := fun t k => K10 t (by
            refine XS.icmpYes X8.here hx rfl (pc0 := 328) (pc' := 345) rfl (hb hby at_328) rfl (tlt (own_lt (b := 3) (show u < 3 by omega) (by decide))).1 (by decide) (by decide) ?_
            refine XS.iload X8.here hx rfl (hb hby at_345) rfl ?_
            refine XS.iconst X8.here hx rfl (hb hby at_347) ?_
            refine XS.icmpYes X8.here hx rfl (pc0 := 348) (pc' := 365) rfl (hb hby at_348) rfl (tlt (own_lt (b := 4) (show u < 4 by omega) (by decide))).1 (by decide) (by decide) ?_
            refine XS.iconst X8.here hx rfl (hb hby at_365) ?_
            refine XS.goto X8.here hx rfl (pc0 := 366) (pc' := 370) rfl (hb hby at_366) (by decide) (by decide) ?_
            refine XS.istore X8.here hx rfl (hb hby at_370) rfl (l' := #[sl0, sl1, sl2, sl3, sI (Int32.ofNat u), sl5, sl6, sl7, sl8, sR qv, sl10, sl11, sl12, sl13, sl14, sR sv, sI 1]) rfl ?_
            exact k)
          have hv : own_bi (own_exp gs gq u) = 1 := by simp [own_exp, own_bi, t0, v0, t1, (show u < 3 by omega), (show u < 4 by omega)]
          rw [hv]
          exact ⟨T8, _, X8, N8, W8, K11⟩
        · have v1b := v1
          have K12 : Rc K0 T8 (mkF m 331 #[sl0, sl1, sl2, sl3, sI (Int32.ofNat u), sl5, sl6, sl7, sl8, sR qv, sl10, sl11, sl12, sl13, sl14, sR sv, sU] []) := fun t k => K10 t (XS.icmpNo X8.here hx rfl (hb hby at_328) rfl (flt (own_nlt (a := u) (b := 3) (by omega) (by omega))).1 k)
          have K13 : Rc K0 T8 (mkF m 339 #[sl0, sl1, sl2, sl3, sI (Int32.ofNat u), sl5, sl6, sl7, sl8, sR qv, sl10, sl11, sl12, sl13, sl14, sR sv, sU] [(kD (own_dv (gq 2))), (kD (own_dv (gs 2)))]) := fun t k => K12 t (by
            refine XS.aload X8.here hx rfl (hb hby at_331) rfl rfl ?_
            refine XS.iconst X8.here hx rfl (hb hby at_333) ?_
            refine dalW X8 hx hZ (rfl : T8.heap = T8.heap) W8 (i := 0) rfl (j := (2 : Int32)) (k := 2) (by decide) (by decide) (by decide) (v := (.double (own_dv (gs 2)))) (own_arD W8 (i := 0) rfl (by omega)) (g := (mkF m 334 #[sl0, sl1, sl2, sl3, sI (Int32.ofNat u), sl5, sl6, sl7, sl8, sR qv, sl10, sl11, sl12, sl13, sl14, sR sv, sU] [(kI 2), (kR sv)])) rfl rfl (hb hby at_334) _ ?_
            refine XS.aload X8.here hx rfl (hb hby at_335) rfl rfl ?_
            refine XS.iconst X8.here hx rfl (hb hby at_337) ?_
            refine dalW X8 hx hZ (rfl : T8.heap = T8.heap) W8 (i := 1) rfl (j := (2 : Int32)) (k := 2) (by decide) (by decide) (by decide) (v := (.double (own_dv (gq 2)))) (own_arD W8 (i := 1) rfl (by omega)) (g := (mkF m 338 #[sl0, sl1, sl2, sl3, sI (Int32.ofNat u), sl5, sl6, sl7, sl8, sR qv, sl10, sl11, sl12, sl13, sl14, sR sv, sU] [(kI 2), (kR qv), (kD (own_dv (gs 2)))])) rfl rfl (hb hby at_338) _ ?_
            exact k)
          obtain ⟨_, _, ⟨T14, L14, k14, n14⟩, -, X14, ⟨Lc14, hQ14, l14, y14, z14⟩, st14⟩ := Jvm.LawKit.callS X8 hx (y := y_sm) hown (mvT hZ (hw _ (mi 183 rfl))) (mvT hZ (hw _ (mi 184 rfl))) (mvT hZ (hw _ (mi 3 rfl))) (mvT hZ (hw _ (mi 185 rfl))) (by decide) (backOf (W := 0) (rmSM l Z a0 hw [] (own_dv (gs 2)) (own_dv (gq 2)) ((sv, Ar Z .double 4 gs) :: (qv, Ar Z .double 4 gq) :: Rr) T8.heap n0 W8) hZ (hw _ (mi 185 rfl)) (hw _ (mi 3 rfl)) (by decide) (by decide)) (g := K13.g) rfl (by rw [hml]; rfl) (argsL := [(.double (own_dv (gs 2))), (.double (own_dv (gq 2)))]) (rest := []) (lenOf pd_sm rfl) rfl (by show 2 * 0 + _ ≤ _; exact Nat.le_of_eq rfl) (hb hby at_339) (fun _ _ => ⟨rfl, (rfl : T8.heap = T8.heap), hcl, hsl⟩)
          dsimp only [Pt.U, Pt.locs, Pt.cells, Pt.slots] at X14 l14 y14 z14 st14 hQ14
          subst l14 y14 z14
          obtain ⟨rfl, N14q, W14⟩ := hQ14
          have N14 := Fr.app N8 N14q
          have K15 : Rc K0 T14 (mkF m 342 #[sl0, sl1, sl2, sl3, sI (Int32.ofNat u), sl5, sl6, sl7, sl8, sR qv, sl10, sl11, sl12, sl13, sl14, sR sv, sU] [(kI (own_bi (own_same (own_dv (gs 2)) (own_dv (gq 2)))))]) := fun t k => K13 t (st14 t (k))
          by_cases t2 : (own_same (own_dv (gs 2)) (own_dv (gq 2))) = true
          · have t2b := t2
            have K16 : Rc K0 T14 (mkF m 348 #[sl0, sl1, sl2, sl3, sI (Int32.ofNat u), sl5, sl6, sl7, sl8, sR qv, sl10, sl11, sl12, sl13, sl14, sR sv, sU] [(kI 4), (kI (Int32.ofNat u))]) := fun t k => K15 t (by
              refine XS.ifNo X14.here hx rfl (hb hby at_342) rfl ((if0 _ _).trans (feq (show ¬ (own_bi (own_same (own_dv (gs 2)) (own_dv (gq 2))) = 0) from by rw [t2]; decide)).1) ?_
              refine XS.iload X14.here hx rfl (hb hby at_345) rfl ?_
              refine XS.iconst X14.here hx rfl (hb hby at_347) ?_
              exact k)
            by_cases v2 : u < 4
            · have v2b := v2
              have K17 : Rc K0 T14 (mkF m 372 #[sl0, sl1, sl2, sl3, sI (Int32.ofNat u), sl5, sl6, sl7, sl8, sR qv, sl10, sl11, sl12, sl13, sl14, sR sv, sI 1] []) := fun t k => K16 t (by
                refine XS.icmpYes X14.here hx rfl (pc0 := 348) (pc' := 365) rfl (hb hby at_348) rfl (tlt (own_lt (b := 4) (show u < 4 by omega) (by decide))).1 (by decide) (by decide) ?_
                refine XS.iconst X14.here hx rfl (hb hby at_365) ?_
                refine XS.goto X14.here hx rfl (pc0 := 366) (pc' := 370) rfl (hb hby at_366) (by decide) (by decide) ?_
                refine XS.istore X14.here hx rfl (hb hby at_370) rfl (l' := #[sl0, sl1, sl2, sl3, sI (Int32.ofNat u), sl5, sl6, sl7, sl8, sR qv, sl10, sl11, sl12, sl13, sl14, sR sv, sI 1]) rfl ?_
                exact k)
              have hv : own_bi (own_exp gs gq u) = 1 := by simp [own_exp, own_bi, t0, v0, t1, v1, t2, (show u < 4 by omega)]
              rw [hv]
              exact ⟨T14, _, X14, N14, W14, K17⟩
            · have v2b := v2
              have K18 : Rc K0 T14 (mkF m 351 #[sl0, sl1, sl2, sl3, sI (Int32.ofNat u), sl5, sl6, sl7, sl8, sR qv, sl10, sl11, sl12, sl13, sl14, sR sv, sU] []) := fun t k => K16 t (XS.icmpNo X14.here hx rfl (hb hby at_348) rfl (flt (own_nlt (a := u) (b := 4) (by omega) (by omega))).1 k)
              have K19 : Rc K0 T14 (mkF m 359 #[sl0, sl1, sl2, sl3, sI (Int32.ofNat u), sl5, sl6, sl7, sl8, sR qv, sl10, sl11, sl12, sl13, sl14, sR sv, sU] [(kD (own_dv (gq 3))), (kD (own_dv (gs 3)))]) := fun t k => K18 t (by
                refine XS.aload X14.here hx rfl (hb hby at_351) rfl rfl ?_
                refine XS.iconst X14.here hx rfl (hb hby at_353) ?_
                refine dalW X14 hx hZ (rfl : T14.heap = T14.heap) W14 (i := 0) rfl (j := (3 : Int32)) (k := 3) (by decide) (by decide) (by decide) (v := (.double (own_dv (gs 3)))) (own_arD W14 (i := 0) rfl (by omega)) (g := (mkF m 354 #[sl0, sl1, sl2, sl3, sI (Int32.ofNat u), sl5, sl6, sl7, sl8, sR qv, sl10, sl11, sl12, sl13, sl14, sR sv, sU] [(kI 3), (kR sv)])) rfl rfl (hb hby at_354) _ ?_
                refine XS.aload X14.here hx rfl (hb hby at_355) rfl rfl ?_
                refine XS.iconst X14.here hx rfl (hb hby at_357) ?_
                refine dalW X14 hx hZ (rfl : T14.heap = T14.heap) W14 (i := 1) rfl (j := (3 : Int32)) (k := 3) (by decide) (by decide) (by decide) (v := (.double (own_dv (gq 3)))) (own_arD W14 (i := 1) rfl (by omega)) (g := (mkF m 358 #[sl0, sl1, sl2, sl3, sI (Int32.ofNat u), sl5, sl6, sl7, sl8, sR qv, sl10, sl11, sl12, sl13, sl14, sR sv, sU] [(kI 3), (kR qv), (kD (own_dv (gs 3)))])) rfl rfl (hb hby at_358) _ ?_
                exact k)
              obtain ⟨_, _, ⟨T20, L20, k20, n20⟩, -, X20, ⟨Lc20, hQ20, l20, y20, z20⟩, st20⟩ := Jvm.LawKit.callS X14 hx (y := y_sm) hown (mvT hZ (hw _ (mi 183 rfl))) (mvT hZ (hw _ (mi 184 rfl))) (mvT hZ (hw _ (mi 3 rfl))) (mvT hZ (hw _ (mi 185 rfl))) (by decide) (backOf (W := 0) (rmSM l Z a0 hw [] (own_dv (gs 3)) (own_dv (gq 3)) ((sv, Ar Z .double 4 gs) :: (qv, Ar Z .double 4 gq) :: Rr) T14.heap n0 W14) hZ (hw _ (mi 185 rfl)) (hw _ (mi 3 rfl)) (by decide) (by decide)) (g := K19.g) rfl (by rw [hml]; rfl) (argsL := [(.double (own_dv (gs 3))), (.double (own_dv (gq 3)))]) (rest := []) (lenOf pd_sm rfl) rfl (by show 2 * 0 + _ ≤ _; exact Nat.le_of_eq rfl) (hb hby at_359) (fun _ _ => ⟨rfl, (rfl : T14.heap = T14.heap), hcl, hsl⟩)
              dsimp only [Pt.U, Pt.locs, Pt.cells, Pt.slots] at X20 l20 y20 z20 st20 hQ20
              subst l20 y20 z20
              obtain ⟨rfl, N20q, W20⟩ := hQ20
              have N20 := Fr.app N14 N20q
              have K21 : Rc K0 T20 (mkF m 362 #[sl0, sl1, sl2, sl3, sI (Int32.ofNat u), sl5, sl6, sl7, sl8, sR qv, sl10, sl11, sl12, sl13, sl14, sR sv, sU] [(kI (own_bi (own_same (own_dv (gs 3)) (own_dv (gq 3)))))]) := fun t k => K19 t (st20 t (k))
              by_cases t3 : (own_same (own_dv (gs 3)) (own_dv (gq 3))) = true
              · have t3b := t3
                have K22 : Rc K0 T20 (mkF m 372 #[sl0, sl1, sl2, sl3, sI (Int32.ofNat u), sl5, sl6, sl7, sl8, sR qv, sl10, sl11, sl12, sl13, sl14, sR sv, sI 1] []) := fun t k => K21 t (by
                  refine XS.ifNo X20.here hx rfl (hb hby at_362) rfl ((if0 _ _).trans (feq (show ¬ (own_bi (own_same (own_dv (gs 3)) (own_dv (gq 3))) = 0) from by rw [t3]; decide)).1) ?_
                  refine XS.iconst X20.here hx rfl (hb hby at_365) ?_
                  refine XS.goto X20.here hx rfl (pc0 := 366) (pc' := 370) rfl (hb hby at_366) (by decide) (by decide) ?_
                  refine XS.istore X20.here hx rfl (hb hby at_370) rfl (l' := #[sl0, sl1, sl2, sl3, sI (Int32.ofNat u), sl5, sl6, sl7, sl8, sR qv, sl10, sl11, sl12, sl13, sl14, sR sv, sI 1]) rfl ?_
                  exact k)
                have hv : own_bi (own_exp gs gq u) = 1 := by simp [own_exp, own_bi, t0, v0, t1, v1, t2, v2, t3]
                rw [hv]
                exact ⟨T20, _, X20, N20, W20, K22⟩
              · have t3b := Bool.eq_false_iff.mpr t3
                have K23 : Rc K0 T20 (mkF m 372 #[sl0, sl1, sl2, sl3, sI (Int32.ofNat u), sl5, sl6, sl7, sl8, sR qv, sl10, sl11, sl12, sl13, sl14, sR sv, sI 0] []) := fun t k => K21 t (by
                  refine XS.ifYes X20.here hx rfl (pc0 := 362) (pc' := 369) rfl (hb hby at_362) rfl ((if0 _ _).trans (teq (show own_bi (own_same (own_dv (gs 3)) (own_dv (gq 3))) = 0 from by rw [t3b]; rfl)).1) (by decide) (by decide) ?_
                  refine XS.iconst X20.here hx rfl (hb hby at_369) ?_
                  refine XS.istore X20.here hx rfl (hb hby at_370) rfl (l' := #[sl0, sl1, sl2, sl3, sI (Int32.ofNat u), sl5, sl6, sl7, sl8, sR qv, sl10, sl11, sl12, sl13, sl14, sR sv, sI 0]) rfl ?_
                  exact k)
                have hv : own_bi (own_exp gs gq u) = 0 := by simp [own_exp, own_bi, t0, v0, t1, v1, t2, v2, t3b]
                rw [hv]
                exact ⟨T20, _, X20, N20, W20, K23⟩
          · have t2b := Bool.eq_false_iff.mpr t2
            have K24 : Rc K0 T14 (mkF m 372 #[sl0, sl1, sl2, sl3, sI (Int32.ofNat u), sl5, sl6, sl7, sl8, sR qv, sl10, sl11, sl12, sl13, sl14, sR sv, sI 0] []) := fun t k => K15 t (by
              refine XS.ifYes X14.here hx rfl (pc0 := 342) (pc' := 369) rfl (hb hby at_342) rfl ((if0 _ _).trans (teq (show own_bi (own_same (own_dv (gs 2)) (own_dv (gq 2))) = 0 from by rw [t2b]; rfl)).1) (by decide) (by decide) ?_
              refine XS.iconst X14.here hx rfl (hb hby at_369) ?_
              refine XS.istore X14.here hx rfl (hb hby at_370) rfl (l' := #[sl0, sl1, sl2, sl3, sI (Int32.ofNat u), sl5, sl6, sl7, sl8, sR qv, sl10, sl11, sl12, sl13, sl14, sR sv, sI 0]) rfl ?_
              exact k)
            have hv : own_bi (own_exp gs gq u) = 0 := by simp [own_exp, own_bi, t0, v0, t1, v1, t2b]
            rw [hv]
            exact ⟨T14, _, X14, N14, W14, K24⟩
      · have t1b := Bool.eq_false_iff.mpr t1
        have K25 : Rc K0 T8 (mkF m 372 #[sl0, sl1, sl2, sl3, sI (Int32.ofNat u), sl5, sl6, sl7, sl8, sR qv, sl10, sl11, sl12, sl13, sl14, sR sv, sI 0] []) := fun t k => K9 t (by
          refine XS.ifYes X8.here hx rfl (pc0 := 322) (pc' := 369) rfl (hb hby at_322) rfl ((if0 _ _).trans (teq (show own_bi (own_same (own_dv (gs 1)) (own_dv (gq 1))) = 0 from by rw [t1b]; rfl)).1) (by decide) (by decide) ?_
          refine XS.iconst X8.here hx rfl (hb hby at_369) ?_
          refine XS.istore X8.here hx rfl (hb hby at_370) rfl (l' := #[sl0, sl1, sl2, sl3, sI (Int32.ofNat u), sl5, sl6, sl7, sl8, sR qv, sl10, sl11, sl12, sl13, sl14, sR sv, sI 0]) rfl ?_
          exact k)
        have hv : own_bi (own_exp gs gq u) = 0 := by simp [own_exp, own_bi, t0, v0, t1b]
        rw [hv]
        exact ⟨T8, _, X8, N8, W8, K25⟩
  · have t0b := Bool.eq_false_iff.mpr t0
    have K26 : Rc K0 T2 (mkF m 372 #[sl0, sl1, sl2, sl3, sI (Int32.ofNat u), sl5, sl6, sl7, sl8, sR qv, sl10, sl11, sl12, sl13, sl14, sR sv, sI 0] []) := fun t k => K3 t (by
      refine XS.ifYes X2.here hx rfl (pc0 := 302) (pc' := 369) rfl (hb hby at_302) rfl ((if0 _ _).trans (teq (show own_bi (own_same (own_dv (gs 0)) (own_dv (gq 0))) = 0 from by rw [t0b]; rfl)).1) (by decide) (by decide) ?_
      refine XS.iconst X2.here hx rfl (hb hby at_369) ?_
      refine XS.istore X2.here hx rfl (hb hby at_370) rfl (l' := #[sl0, sl1, sl2, sl3, sI (Int32.ofNat u), sl5, sl6, sl7, sl8, sR qv, sl10, sl11, sl12, sl13, sl14, sR sv, sI 0]) rfl ?_
      exact k)
    have hv : own_bi (own_exp gs gq u) = 0 := by simp [own_exp, own_bi, t0b]
    rw [hv]
    exact ⟨T2, _, X2, N2, W2, K26⟩
theorem ef_rm0 (m : MethodId) (p1 p2 p3 p4 : Int32) : entryFrame m #[(.int p1), (.int p2), (.int p3), (.int p4)] maxLocals = mkF m 0 #[.val (.int p1), .val (.int p2), .val (.int p3), .val (.int p4), .unset, .unset, .unset, .unset, .unset, .unset, .unset, .unset, .unset, .unset, .unset, .unset, .unset] [] := by first | (simp [entryFrame, mkF, argsToLocals, Value.category, maxLocals]; done) | rfl
def Qrm0 (Z : State) (p1 p2 p3 p4 : Int32) (n0 : Nat) (v : Option Value) (h : Heap) (L : List Loc) : Prop := v = some (.int (1 : Int32)) ∧ Fr n0 L
set_option maxRecDepth 65536 in
set_option maxHeartbeats 40000000 in
theorem rm0 (l : Launch) (Z : State) (a0 : Array Value) (hw : ∀ d ∈ tables_1, d.before a0 Z = true) (ws : List Jvm.Cond) (p1 p2 p3 p4 : Int32) (h0 : Heap) (n0 : Nat) (W0 : Wo n0 h0 []) :
    MetFree l x (head1 (Jvm.Cond.code x code maxLocals ret :: ws) room_1) (fun aa U => aa = #[(.int p1), (.int p2), (.int p3), (.int p4)] ∧ Z.Warmed39 U.vm ∧ U.heap = h0) (fun _ _ _ _ _ => True) (fun _ U ou U' => ∃ v L, ou = .returned v ∧ Qrm0 Z p1 p2 p3 p4 n0 v U'.heap L ∧ FrameEnd U ou U' L room_1.cells room_1.slots) := by
  refine MetFree.of_bodySF (plainFor_of_name pn_RowsZeroAlikePinLaw) hisR ?_
  intro p e s m args below meth c s₁ Bd hml0 hP hK
  obtain ⟨rfl, hZ, hh⟩ := hP
  have hx := Bd.exec
  have hby := Bd.bytes
  have hml : c.maxLocals = 17 := hml0
  have hown : s.vm.findClass "com/example/sambre/sambre/engine/RowsZeroAlikePinLaw" = some m.cls := findClass_of_methodNamed Bd.named
  have hnm := (name_of_methodNamed Bd.named Bd.method).1
  have X0 : Stand p l e room_1 s m #[(.int p1), (.int p2), (.int p3), (.int p4)] below meth c s₁ [] 0 0 := Stand.of_body Bd
  have e0 : s₁.heap = h0 := by rw [← hh, Bd.state]; rfl
  have N0 := Fr.nil n0
  obtain ⟨F0, hF0⟩ : ∃ F, F = mkF m 0 #[.val (.int p1), .val (.int p2), .val (.int p3), .val (.int p4), .unset, .unset, .unset, .unset, .unset, .unset, .unset, .unset, .unset, .unset, .unset, .unset, .unset] [] := ⟨_, rfl⟩
  have pre0 : ∀ t, Steps p.tables e below (s₁.setTop F0) t → Steps p.tables e below (s₁.setTop (entryFrame m #[(.int p1), (.int p2), (.int p3), (.int p4)] maxLocals)) t := fun t k => castTop ((ef_rm0 m p1 p2 p3 p4).trans hF0.symm) k
  have K0 : Rch p e below s₁ F0 s₁ (mkF m 0 #[.val (.int p1), .val (.int p2), .val (.int p3), .val (.int p4), .unset, .unset, .unset, .unset, .unset, .unset, .unset, .unset, .unset, .unset, .unset, .unset, .unset] []) := fun t k => castTop hF0 k
  have K1 : Rc K0 s₁ (mkF m 5 #[sI p1, sI p2, sI p3, sI p4, sU, sU, sU, sU, sU, sU, sU, sU, sU, sU, sU, sU, sU] [(kI ((p4 &&& (3 : Int32)) + (1 : Int32)))]) := fun t k => K0 t (by
    refine XS.iloadN X0.here hx rfl (hb hby at_0) rfl ?_
    refine XS.iconst X0.here hx rfl (hb hby at_1) ?_
    refine XS.iand X0.here hx rfl (hb hby at_2) rfl ?_
    refine XS.iconst X0.here hx rfl (hb hby at_3) ?_
    refine XS.iadd X0.here hx rfl (hb hby at_4) rfl ?_
    exact k)
  obtain ⟨u, hu1, hu4, eu⟩ := own_small p4
  rw [eu] at K1
  have K2 : Rc K0 s₁ (mkF m 10 #[sI p1, sI p2, sI p3, sI p4, sI (Int32.ofNat u), sU, sU, sU, sU, sU, sU, sU, sU, sU, sU, sU, sU] [(kI (p4 &&& (4 : Int32)))]) := fun t k => K1 t (by
    refine XS.istore X0.here hx rfl (hb hby at_5) rfl (l' := #[sI p1, sI p2, sI p3, sI p4, sI (Int32.ofNat u), sU, sU, sU, sU, sU, sU, sU, sU, sU, sU, sU, sU]) rfl ?_
    refine XS.iloadN X0.here hx rfl (hb hby at_7) rfl ?_
    refine XS.iconst X0.here hx rfl (hb hby at_8) ?_
    refine XS.iand X0.here hx rfl (hb hby at_9) rfl ?_
    exact k)
  have K3 : Rc K0 s₁ (mkF m 18 #[sI p1, sI p2, sI p3, sI p4, sI (Int32.ofNat u), sU, sU, sU, sU, sU, sU, sU, sU, sU, sU, sU, sU] [(kI (own_bi (decide (¬ ((p4 &&& (4 : Int32)) = (0 : Int32))))))]) := fun t k => K2 t (by
    by_cases hq : ¬ ((p4 &&& (4 : Int32)) = (0 : Int32))
    · rw [show own_bi (decide (¬ ((p4 &&& (4 : Int32)) = (0 : Int32)))) = 1 from by rw [decide_eq_true hq]; rfl] at k
      refine XS.ifNo X0.here hx rfl (hb hby at_10) rfl ((if0 _ _).trans (feq hq).1) ?_
      refine XS.iconst X0.here hx rfl (hb hby at_13) ?_
      refine XS.goto X0.here hx rfl (pc0 := 14) (pc' := 18) rfl (hb hby at_14) (by decide) (by decide) ?_
      exact k
    · rw [show own_bi (decide (¬ ((p4 &&& (4 : Int32)) = (0 : Int32)))) = 0 from by rw [decide_eq_false hq]; rfl] at k
      refine XS.ifYes X0.here hx rfl (pc0 := 10) (pc' := 17) rfl (hb hby at_10) rfl ((if0 _ _).trans (teq (Decidable.not_not.mp hq)).1) (by decide) (by decide) ?_
      refine XS.iconst X0.here hx rfl (hb hby at_17) ?_
      exact k)
  obtain ⟨fb, h_fb⟩ : ∃ b : Bool, b = decide (¬ ((p4 &&& (4 : Int32)) = (0 : Int32))) := ⟨_, rfl⟩
  rw [← h_fb] at K3
  have K4 : Rc K0 s₁ (mkF m 24 #[sI p1, sI p2, sI p3, sI p4, sI (Int32.ofNat u), sI (own_bi fb), sU, sU, sU, sU, sU, sU, sU, sU, sU, sU, sU] [(kI (p4 &&& (8 : Int32)))]) := fun t k => K3 t (by
    refine XS.istore X0.here hx rfl (hb hby at_18) rfl (l' := #[sI p1, sI p2, sI p3, sI p4, sI (Int32.ofNat u), sI (own_bi fb), sU, sU, sU, sU, sU, sU, sU, sU, sU, sU, sU]) rfl ?_
    refine XS.iloadN X0.here hx rfl (hb hby at_20) rfl ?_
    refine XS.bipush X0.here hx rfl (hb hby at_21) ?_
    refine XS.iand X0.here hx rfl (hb hby at_23) rfl ?_
    exact k)
  have K5 : Rc K0 s₁ (mkF m 32 #[sI p1, sI p2, sI p3, sI p4, sI (Int32.ofNat u), sI (own_bi fb), sU, sU, sU, sU, sU, sU, sU, sU, sU, sU, sU] [(kI (own_bi (decide (¬ ((p4 &&& (8 : Int32)) = (0 : Int32))))))]) := fun t k => K4 t (by
    by_cases hq : ¬ ((p4 &&& (8 : Int32)) = (0 : Int32))
    · rw [show own_bi (decide (¬ ((p4 &&& (8 : Int32)) = (0 : Int32)))) = 1 from by rw [decide_eq_true hq]; rfl] at k
      refine XS.ifNo X0.here hx rfl (hb hby at_24) rfl ((if0 _ _).trans (feq hq).1) ?_
      refine XS.iconst X0.here hx rfl (hb hby at_27) ?_
      refine XS.goto X0.here hx rfl (pc0 := 28) (pc' := 32) rfl (hb hby at_28) (by decide) (by decide) ?_
      exact k
    · rw [show own_bi (decide (¬ ((p4 &&& (8 : Int32)) = (0 : Int32)))) = 0 from by rw [decide_eq_false hq]; rfl] at k
      refine XS.ifYes X0.here hx rfl (pc0 := 24) (pc' := 31) rfl (hb hby at_24) rfl ((if0 _ _).trans (teq (Decidable.not_not.mp hq)).1) (by decide) (by decide) ?_
      refine XS.iconst X0.here hx rfl (hb hby at_31) ?_
      exact k)
  obtain ⟨ab, h_ab⟩ : ∃ b : Bool, b = decide (¬ ((p4 &&& (8 : Int32)) = (0 : Int32))) := ⟨_, rfl⟩
  rw [← h_ab] at K5
  have K6 : Rc K0 s₁ (mkF m 35 #[sI p1, sI p2, sI p3, sI p4, sI (Int32.ofNat u), sI (own_bi fb), sI (own_bi ab), sU, sU, sU, sU, sU, sU, sU, sU, sU, sU] [(kI 4)]) := fun t k => K5 t (by
    refine XS.istore X0.here hx rfl (hb hby at_32) rfl (l' := #[sI p1, sI p2, sI p3, sI p4, sI (Int32.ofNat u), sI (own_bi fb), sI (own_bi ab), sU, sU, sU, sU, sU, sU, sU, sU, sU, sU]) rfl ?_
    refine XS.iconst X0.here hx rfl (hb hby at_34) ?_
    exact k)
  obtain ⟨T7, h7, a7, X7, e7, W7q, st7⟩ := newWA X0 hx hZ (aty := .double) (ty := .double) rfl (hw _ (mi 0 rfl)) e0 W0 (g := K6.g) rfl (hb hby at_35) (z := (4 : Int32)) (n := 4) rfl (by decide) (by decide) (cap := 4) (by decide) (by decide) (by decide : 0 + 1 ≤ _) (by decide : 0 + 4 ≤ _)
  have K8 : Rc K0 T7 (mkF m 41 #[sI p1, sI p2, sI p3, sI p4, sI (Int32.ofNat u), sI (own_bi fb), sI (own_bi ab), sU, sU, sU, sU, sU, sU, sU, sU, sU, sU] [(kI 0), (kI p1), (kI 0), (kR a7), (kR a7)]) := fun t k => K6 t (st7 t (by
    refine XS.dup X7.here hx rfl (hb hby at_37) rfl rfl ?_
    refine XS.iconst X7.here hx rfl (hb hby at_38) ?_
    refine XS.iloadN X7.here hx rfl (hb hby at_39) rfl ?_
    refine XS.iconst X7.here hx rfl (hb hby at_40) ?_
    exact k))
  obtain ⟨_, _, ⟨T9, L9, k9, n9⟩, -, X9, ⟨Lc9, hQ9, l9, y9, z9⟩, st9⟩ := Jvm.LawKit.callS X7 hx (y := y_dd) hown (mvT hZ (hw _ (mi 1 rfl))) (mvT hZ (hw _ (mi 2 rfl))) (mvT hZ (hw _ (mi 3 rfl))) (mvT hZ (hw _ (mi 4 rfl))) (by decide) (backOf (W := 3) (rmDD l Z a0 hw [] p1 (0 : Int32) ((a7, Ar Z .double 4 zD) :: []) h7 n0 W7q) hZ (hw _ (mi 4 rfl)) (hw _ (mi 3 rfl)) (by decide) (by decide)) (g := K8.g) rfl (by rw [hml]; rfl) (argsL := [(.int p1), (.int (0 : Int32))]) (rest := [(.int (0 : Int32)), (.ref a7), (.ref a7)]) (lenOf pd_dd rfl) rfl (by show 2 * 0 + _ ≤ _; exact Nat.le_of_eq rfl) (hb hby at_41) (fun _ _ => ⟨rfl, e7, (by decide : 1 + 0 ≤ _), (by decide : 4 + 0 ≤ _)⟩)
  dsimp only [Pt.U, Pt.locs, Pt.cells, Pt.slots] at X9 l9 y9 z9 st9 hQ9
  subst l9 y9 z9
  obtain ⟨dz9, rfl, N9q, W9⟩ := hQ9
  have N9 := Fr.app N0 N9q
  obtain ⟨T10, h10, L10, X10, e10, N10, W10q, st10⟩ := dasW X9 hx hZ (rfl : T9.heap = T9.heap) W9 N9 (i := 0) (a := a7) rfl (j := (0 : Int32)) (x := dz9) (k := 0) (by decide) (by decide) (by decide) (g := (mkF m 44 #[sI p1, sI p2, sI p3, sI p4, sI (Int32.ofNat u), sI (own_bi fb), sI (own_bi ab), sU, sU, sU, sU, sU, sU, sU, sU, sU, sU] [(kD dz9), (kI 0), (kR a7), (kR a7)])) rfl rfl (hb hby at_44)
  have K11 : Rc K0 T10 (mkF m 49 #[sI p1, sI p2, sI p3, sI p4, sI (Int32.ofNat u), sI (own_bi fb), sI (own_bi ab), sU, sU, sU, sU, sU, sU, sU, sU, sU, sU] [(kI 1), (kI p1), (kI 1), (kR a7), (kR a7)]) := fun t k => K8 t (st9 t (st10 t (by
    refine XS.dup X10.here hx rfl (hb hby at_45) rfl rfl ?_
    refine XS.iconst X10.here hx rfl (hb hby at_46) ?_
    refine XS.iloadN X10.here hx rfl (hb hby at_47) rfl ?_
    refine XS.iconst X10.here hx rfl (hb hby at_48) ?_
    exact k)))
  obtain ⟨_, _, ⟨T12, L12, k12, n12⟩, -, X12, ⟨Lc12, hQ12, l12, y12, z12⟩, st12⟩ := Jvm.LawKit.callS X10 hx (y := y_dd) hown (mvT hZ (hw _ (mi 1 rfl))) (mvT hZ (hw _ (mi 2 rfl))) (mvT hZ (hw _ (mi 3 rfl))) (mvT hZ (hw _ (mi 4 rfl))) (by decide) (backOf (W := 3) (rmDD l Z a0 hw [] p1 (1 : Int32) ((a7, Ar Z .double 4 (upd zD 0 (kD dz9))) :: []) h10 n0 W10q) hZ (hw _ (mi 4 rfl)) (hw _ (mi 3 rfl)) (by decide) (by decide)) (g := K11.g) rfl (by rw [hml]; rfl) (argsL := [(.int p1), (.int (1 : Int32))]) (rest := [(.int (1 : Int32)), (.ref a7), (.ref a7)]) (lenOf pd_dd rfl) rfl (by show 2 * 0 + _ ≤ _; exact Nat.le_of_eq rfl) (hb hby at_49) (fun _ _ => ⟨rfl, e10, (by decide : 1 + 0 ≤ _), (by decide : 4 + 0 ≤ _)⟩)
  dsimp only [Pt.U, Pt.locs, Pt.cells, Pt.slots] at X12 l12 y12 z12 st12 hQ12
  subst l12 y12 z12
  obtain ⟨dz12, rfl, N12q, W12⟩ := hQ12
  have N12 := Fr.app N10 N12q
  obtain ⟨T13, h13, L13, X13, e13, N13, W13q, st13⟩ := dasW X12 hx hZ (rfl : T12.heap = T12.heap) W12 N12 (i := 0) (a := a7) rfl (j := (1 : Int32)) (x := dz12) (k := 1) (by decide) (by decide) (by decide) (g := (mkF m 52 #[sI p1, sI p2, sI p3, sI p4, sI (Int32.ofNat u), sI (own_bi fb), sI (own_bi ab), sU, sU, sU, sU, sU, sU, sU, sU, sU, sU] [(kD dz12), (kI 1), (kR a7), (kR a7)])) rfl rfl (hb hby at_52)
  have K14 : Rc K0 T13 (mkF m 57 #[sI p1, sI p2, sI p3, sI p4, sI (Int32.ofNat u), sI (own_bi fb), sI (own_bi ab), sU, sU, sU, sU, sU, sU, sU, sU, sU, sU] [(kI 2), (kI p1), (kI 2), (kR a7), (kR a7)]) := fun t k => K11 t (st12 t (st13 t (by
    refine XS.dup X13.here hx rfl (hb hby at_53) rfl rfl ?_
    refine XS.iconst X13.here hx rfl (hb hby at_54) ?_
    refine XS.iloadN X13.here hx rfl (hb hby at_55) rfl ?_
    refine XS.iconst X13.here hx rfl (hb hby at_56) ?_
    exact k)))
  obtain ⟨_, _, ⟨T15, L15, k15, n15⟩, -, X15, ⟨Lc15, hQ15, l15, y15, z15⟩, st15⟩ := Jvm.LawKit.callS X13 hx (y := y_dd) hown (mvT hZ (hw _ (mi 1 rfl))) (mvT hZ (hw _ (mi 2 rfl))) (mvT hZ (hw _ (mi 3 rfl))) (mvT hZ (hw _ (mi 4 rfl))) (by decide) (backOf (W := 3) (rmDD l Z a0 hw [] p1 (2 : Int32) ((a7, Ar Z .double 4 (upd (upd zD 0 (kD dz9)) 1 (kD dz12))) :: []) h13 n0 W13q) hZ (hw _ (mi 4 rfl)) (hw _ (mi 3 rfl)) (by decide) (by decide)) (g := K14.g) rfl (by rw [hml]; rfl) (argsL := [(.int p1), (.int (2 : Int32))]) (rest := [(.int (2 : Int32)), (.ref a7), (.ref a7)]) (lenOf pd_dd rfl) rfl (by show 2 * 0 + _ ≤ _; exact Nat.le_of_eq rfl) (hb hby at_57) (fun _ _ => ⟨rfl, e13, (by decide : 1 + 0 ≤ _), (by decide : 4 + 0 ≤ _)⟩)
  dsimp only [Pt.U, Pt.locs, Pt.cells, Pt.slots] at X15 l15 y15 z15 st15 hQ15
  subst l15 y15 z15
  obtain ⟨dz15, rfl, N15q, W15⟩ := hQ15
  have N15 := Fr.app N13 N15q
  obtain ⟨T16, h16, L16, X16, e16, N16, W16q, st16⟩ := dasW X15 hx hZ (rfl : T15.heap = T15.heap) W15 N15 (i := 0) (a := a7) rfl (j := (2 : Int32)) (x := dz15) (k := 2) (by decide) (by decide) (by decide) (g := (mkF m 60 #[sI p1, sI p2, sI p3, sI p4, sI (Int32.ofNat u), sI (own_bi fb), sI (own_bi ab), sU, sU, sU, sU, sU, sU, sU, sU, sU, sU] [(kD dz15), (kI 2), (kR a7), (kR a7)])) rfl rfl (hb hby at_60)
  have W16 : Wo n0 h16 [(a7, Ar Z .double 4 (upd (upd (upd zD 0 (kD dz9)) 1 (kD dz12)) 2 (kD dz15)))] := W16q
  have K17 : Rc K0 T16 (mkF m 65 #[sI p1, sI p2, sI p3, sI p4, sI (Int32.ofNat u), sI (own_bi fb), sI (own_bi ab), sU, sU, sU, sU, sU, sU, sU, sU, sU, sU] [(kI 3), (kI p1), (kI 3), (kR a7), (kR a7)]) := fun t k => K14 t (st15 t (st16 t (by
    refine XS.dup X16.here hx rfl (hb hby at_61) rfl rfl ?_
    refine XS.iconst X16.here hx rfl (hb hby at_62) ?_
    refine XS.iloadN X16.here hx rfl (hb hby at_63) rfl ?_
    refine XS.iconst X16.here hx rfl (hb hby at_64) ?_
    exact k)))
  obtain ⟨_, _, ⟨T18, L18, k18, n18⟩, -, X18, ⟨Lc18, hQ18, l18, y18, z18⟩, st18⟩ := Jvm.LawKit.callS X16 hx (y := y_dd) hown (mvT hZ (hw _ (mi 1 rfl))) (mvT hZ (hw _ (mi 2 rfl))) (mvT hZ (hw _ (mi 3 rfl))) (mvT hZ (hw _ (mi 4 rfl))) (by decide) (backOf (W := 3) (rmDD l Z a0 hw [] p1 (3 : Int32) ((a7, Ar Z .double 4 (upd (upd (upd zD 0 (kD dz9)) 1 (kD dz12)) 2 (kD dz15))) :: []) h16 n0 W16) hZ (hw _ (mi 4 rfl)) (hw _ (mi 3 rfl)) (by decide) (by decide)) (g := K17.g) rfl (by rw [hml]; rfl) (argsL := [(.int p1), (.int (3 : Int32))]) (rest := [(.int (3 : Int32)), (.ref a7), (.ref a7)]) (lenOf pd_dd rfl) rfl (by show 2 * 0 + _ ≤ _; exact Nat.le_of_eq rfl) (hb hby at_65) (fun _ _ => ⟨rfl, e16, (by decide : 1 + 0 ≤ _), (by decide : 4 + 0 ≤ _)⟩)
  dsimp only [Pt.U, Pt.locs, Pt.cells, Pt.slots] at X18 l18 y18 z18 st18 hQ18
  subst l18 y18 z18
  obtain ⟨dz18, rfl, N18q, W18⟩ := hQ18
  have N18 := Fr.app N16 N18q
  obtain ⟨T19, h19, L19, X19, e19, N19, W19q, st19⟩ := dasW X18 hx hZ (rfl : T18.heap = T18.heap) W18 N18 (i := 0) (a := a7) rfl (j := (3 : Int32)) (x := dz18) (k := 3) (by decide) (by decide) (by decide) (g := (mkF m 68 #[sI p1, sI p2, sI p3, sI p4, sI (Int32.ofNat u), sI (own_bi fb), sI (own_bi ab), sU, sU, sU, sU, sU, sU, sU, sU, sU, sU] [(kD dz18), (kI 3), (kR a7), (kR a7)])) rfl rfl (hb hby at_68)
  have K20 : Rc K0 T19 (mkF m 72 #[sI p1, sI p2, sI p3, sI p4, sI (Int32.ofNat u), sI (own_bi fb), sI (own_bi ab), sR a7, sU, sU, sU, sU, sU, sU, sU, sU, sU] [(kI 4)]) := fun t k => K17 t (st18 t (st19 t (by
    refine XS.astore X19.here hx rfl (hb hby at_69) rfl rfl (l' := #[sI p1, sI p2, sI p3, sI p4, sI (Int32.ofNat u), sI (own_bi fb), sI (own_bi ab), sR a7, sU, sU, sU, sU, sU, sU, sU, sU, sU]) rfl ?_
    refine XS.iconst X19.here hx rfl (hb hby at_71) ?_
    exact k)))
  obtain ⟨T21, h21, a21, X21, e21, W21q, st21⟩ := newWA X19 hx hZ (aty := .double) (ty := .double) rfl (hw _ (mi 0 rfl)) e19 W19q (g := K20.g) rfl (hb hby at_72) (z := (4 : Int32)) (n := 4) rfl (by decide) (by decide) (cap := 4) (by decide) (by decide) (by decide : 1 + 1 ≤ _) (by decide : 4 + 4 ≤ _)
  have K22 : Rc K0 T21 (mkF m 78 #[sI p1, sI p2, sI p3, sI p4, sI (Int32.ofNat u), sI (own_bi fb), sI (own_bi ab), sR a7, sU, sU, sU, sU, sU, sU, sU, sU, sU] [(kI 0), (kI p2), (kI 0), (kR a21), (kR a21)]) := fun t k => K20 t (st21 t (by
    refine XS.dup X21.here hx rfl (hb hby at_74) rfl rfl ?_
    refine XS.iconst X21.here hx rfl (hb hby at_75) ?_
    refine XS.iloadN X21.here hx rfl (hb hby at_76) rfl ?_
    refine XS.iconst X21.here hx rfl (hb hby at_77) ?_
    exact k))
  obtain ⟨_, _, ⟨T23, L23, k23, n23⟩, -, X23, ⟨Lc23, hQ23, l23, y23, z23⟩, st23⟩ := Jvm.LawKit.callS X21 hx (y := y_dd) hown (mvT hZ (hw _ (mi 1 rfl))) (mvT hZ (hw _ (mi 2 rfl))) (mvT hZ (hw _ (mi 3 rfl))) (mvT hZ (hw _ (mi 4 rfl))) (by decide) (backOf (W := 3) (rmDD l Z a0 hw [] p2 (0 : Int32) ((a21, Ar Z .double 4 zD) :: (a7, Ar Z .double 4 (upd (upd (upd (upd zD 0 (kD dz9)) 1 (kD dz12)) 2 (kD dz15)) 3 (kD dz18))) :: []) h21 n0 W21q) hZ (hw _ (mi 4 rfl)) (hw _ (mi 3 rfl)) (by decide) (by decide)) (g := K22.g) rfl (by rw [hml]; rfl) (argsL := [(.int p2), (.int (0 : Int32))]) (rest := [(.int (0 : Int32)), (.ref a21), (.ref a21)]) (lenOf pd_dd rfl) rfl (by show 2 * 0 + _ ≤ _; exact Nat.le_of_eq rfl) (hb hby at_78) (fun _ _ => ⟨rfl, e21, (by decide : 2 + 0 ≤ _), (by decide : 8 + 0 ≤ _)⟩)
  dsimp only [Pt.U, Pt.locs, Pt.cells, Pt.slots] at X23 l23 y23 z23 st23 hQ23
  subst l23 y23 z23
  obtain ⟨dz23, rfl, N23q, W23⟩ := hQ23
  have N23 := Fr.app N19 N23q
  obtain ⟨T24, h24, L24, X24, e24, N24, W24q, st24⟩ := dasW X23 hx hZ (rfl : T23.heap = T23.heap) W23 N23 (i := 0) (a := a21) rfl (j := (0 : Int32)) (x := dz23) (k := 0) (by decide) (by decide) (by decide) (g := (mkF m 81 #[sI p1, sI p2, sI p3, sI p4, sI (Int32.ofNat u), sI (own_bi fb), sI (own_bi ab), sR a7, sU, sU, sU, sU, sU, sU, sU, sU, sU] [(kD dz23), (kI 0), (kR a21), (kR a21)])) rfl rfl (hb hby at_81)
  have K25 : Rc K0 T24 (mkF m 86 #[sI p1, sI p2, sI p3, sI p4, sI (Int32.ofNat u), sI (own_bi fb), sI (own_bi ab), sR a7, sU, sU, sU, sU, sU, sU, sU, sU, sU] [(kI 1), (kI p2), (kI 1), (kR a21), (kR a21)]) := fun t k => K22 t (st23 t (st24 t (by
    refine XS.dup X24.here hx rfl (hb hby at_82) rfl rfl ?_
    refine XS.iconst X24.here hx rfl (hb hby at_83) ?_
    refine XS.iloadN X24.here hx rfl (hb hby at_84) rfl ?_
    refine XS.iconst X24.here hx rfl (hb hby at_85) ?_
    exact k)))
  obtain ⟨_, _, ⟨T26, L26, k26, n26⟩, -, X26, ⟨Lc26, hQ26, l26, y26, z26⟩, st26⟩ := Jvm.LawKit.callS X24 hx (y := y_dd) hown (mvT hZ (hw _ (mi 1 rfl))) (mvT hZ (hw _ (mi 2 rfl))) (mvT hZ (hw _ (mi 3 rfl))) (mvT hZ (hw _ (mi 4 rfl))) (by decide) (backOf (W := 3) (rmDD l Z a0 hw [] p2 (1 : Int32) ((a21, Ar Z .double 4 (upd zD 0 (kD dz23))) :: (a7, Ar Z .double 4 (upd (upd (upd (upd zD 0 (kD dz9)) 1 (kD dz12)) 2 (kD dz15)) 3 (kD dz18))) :: []) h24 n0 W24q) hZ (hw _ (mi 4 rfl)) (hw _ (mi 3 rfl)) (by decide) (by decide)) (g := K25.g) rfl (by rw [hml]; rfl) (argsL := [(.int p2), (.int (1 : Int32))]) (rest := [(.int (1 : Int32)), (.ref a21), (.ref a21)]) (lenOf pd_dd rfl) rfl (by show 2 * 0 + _ ≤ _; exact Nat.le_of_eq rfl) (hb hby at_86) (fun _ _ => ⟨rfl, e24, (by decide : 2 + 0 ≤ _), (by decide : 8 + 0 ≤ _)⟩)
  dsimp only [Pt.U, Pt.locs, Pt.cells, Pt.slots] at X26 l26 y26 z26 st26 hQ26
  subst l26 y26 z26
  obtain ⟨dz26, rfl, N26q, W26⟩ := hQ26
  have N26 := Fr.app N24 N26q
  obtain ⟨T27, h27, L27, X27, e27, N27, W27q, st27⟩ := dasW X26 hx hZ (rfl : T26.heap = T26.heap) W26 N26 (i := 0) (a := a21) rfl (j := (1 : Int32)) (x := dz26) (k := 1) (by decide) (by decide) (by decide) (g := (mkF m 89 #[sI p1, sI p2, sI p3, sI p4, sI (Int32.ofNat u), sI (own_bi fb), sI (own_bi ab), sR a7, sU, sU, sU, sU, sU, sU, sU, sU, sU] [(kD dz26), (kI 1), (kR a21), (kR a21)])) rfl rfl (hb hby at_89)
  have W27 : Wo n0 h27 [(a21, Ar Z .double 4 (upd (upd zD 0 (kD dz23)) 1 (kD dz26))), (a7, Ar Z .double 4 (upd (upd (upd (upd zD 0 (kD dz9)) 1 (kD dz12)) 2 (kD dz15)) 3 (kD dz18)))] := W27q
  have K28 : Rc K0 T27 (mkF m 94 #[sI p1, sI p2, sI p3, sI p4, sI (Int32.ofNat u), sI (own_bi fb), sI (own_bi ab), sR a7, sU, sU, sU, sU, sU, sU, sU, sU, sU] [(kI 2), (kI p2), (kI 2), (kR a21), (kR a21)]) := fun t k => K25 t (st26 t (st27 t (by
    refine XS.dup X27.here hx rfl (hb hby at_90) rfl rfl ?_
    refine XS.iconst X27.here hx rfl (hb hby at_91) ?_
    refine XS.iloadN X27.here hx rfl (hb hby at_92) rfl ?_
    refine XS.iconst X27.here hx rfl (hb hby at_93) ?_
    exact k)))
  obtain ⟨_, _, ⟨T29, L29, k29, n29⟩, -, X29, ⟨Lc29, hQ29, l29, y29, z29⟩, st29⟩ := Jvm.LawKit.callS X27 hx (y := y_dd) hown (mvT hZ (hw _ (mi 1 rfl))) (mvT hZ (hw _ (mi 2 rfl))) (mvT hZ (hw _ (mi 3 rfl))) (mvT hZ (hw _ (mi 4 rfl))) (by decide) (backOf (W := 3) (rmDD l Z a0 hw [] p2 (2 : Int32) ((a21, Ar Z .double 4 (upd (upd zD 0 (kD dz23)) 1 (kD dz26))) :: (a7, Ar Z .double 4 (upd (upd (upd (upd zD 0 (kD dz9)) 1 (kD dz12)) 2 (kD dz15)) 3 (kD dz18))) :: []) h27 n0 W27) hZ (hw _ (mi 4 rfl)) (hw _ (mi 3 rfl)) (by decide) (by decide)) (g := K28.g) rfl (by rw [hml]; rfl) (argsL := [(.int p2), (.int (2 : Int32))]) (rest := [(.int (2 : Int32)), (.ref a21), (.ref a21)]) (lenOf pd_dd rfl) rfl (by show 2 * 0 + _ ≤ _; exact Nat.le_of_eq rfl) (hb hby at_94) (fun _ _ => ⟨rfl, e27, (by decide : 2 + 0 ≤ _), (by decide : 8 + 0 ≤ _)⟩)
  dsimp only [Pt.U, Pt.locs, Pt.cells, Pt.slots] at X29 l29 y29 z29 st29 hQ29
  subst l29 y29 z29
  obtain ⟨dz29, rfl, N29q, W29⟩ := hQ29
  have N29 := Fr.app N27 N29q
  obtain ⟨T30, h30, L30, X30, e30, N30, W30q, st30⟩ := dasW X29 hx hZ (rfl : T29.heap = T29.heap) W29 N29 (i := 0) (a := a21) rfl (j := (2 : Int32)) (x := dz29) (k := 2) (by decide) (by decide) (by decide) (g := (mkF m 97 #[sI p1, sI p2, sI p3, sI p4, sI (Int32.ofNat u), sI (own_bi fb), sI (own_bi ab), sR a7, sU, sU, sU, sU, sU, sU, sU, sU, sU] [(kD dz29), (kI 2), (kR a21), (kR a21)])) rfl rfl (hb hby at_97)
  have K31 : Rc K0 T30 (mkF m 102 #[sI p1, sI p2, sI p3, sI p4, sI (Int32.ofNat u), sI (own_bi fb), sI (own_bi ab), sR a7, sU, sU, sU, sU, sU, sU, sU, sU, sU] [(kI 3), (kI p2), (kI 3), (kR a21), (kR a21)]) := fun t k => K28 t (st29 t (st30 t (by
    refine XS.dup X30.here hx rfl (hb hby at_98) rfl rfl ?_
    refine XS.iconst X30.here hx rfl (hb hby at_99) ?_
    refine XS.iloadN X30.here hx rfl (hb hby at_100) rfl ?_
    refine XS.iconst X30.here hx rfl (hb hby at_101) ?_
    exact k)))
  obtain ⟨_, _, ⟨T32, L32, k32, n32⟩, -, X32, ⟨Lc32, hQ32, l32, y32, z32⟩, st32⟩ := Jvm.LawKit.callS X30 hx (y := y_dd) hown (mvT hZ (hw _ (mi 1 rfl))) (mvT hZ (hw _ (mi 2 rfl))) (mvT hZ (hw _ (mi 3 rfl))) (mvT hZ (hw _ (mi 4 rfl))) (by decide) (backOf (W := 3) (rmDD l Z a0 hw [] p2 (3 : Int32) ((a21, Ar Z .double 4 (upd (upd (upd zD 0 (kD dz23)) 1 (kD dz26)) 2 (kD dz29))) :: (a7, Ar Z .double 4 (upd (upd (upd (upd zD 0 (kD dz9)) 1 (kD dz12)) 2 (kD dz15)) 3 (kD dz18))) :: []) h30 n0 W30q) hZ (hw _ (mi 4 rfl)) (hw _ (mi 3 rfl)) (by decide) (by decide)) (g := K31.g) rfl (by rw [hml]; rfl) (argsL := [(.int p2), (.int (3 : Int32))]) (rest := [(.int (3 : Int32)), (.ref a21), (.ref a21)]) (lenOf pd_dd rfl) rfl (by show 2 * 0 + _ ≤ _; exact Nat.le_of_eq rfl) (hb hby at_102) (fun _ _ => ⟨rfl, e30, (by decide : 2 + 0 ≤ _), (by decide : 8 + 0 ≤ _)⟩)
  dsimp only [Pt.U, Pt.locs, Pt.cells, Pt.slots] at X32 l32 y32 z32 st32 hQ32
  subst l32 y32 z32
  obtain ⟨dz32, rfl, N32q, W32⟩ := hQ32
  have N32 := Fr.app N30 N32q
  obtain ⟨T33, h33, L33, X33, e33, N33, W33q, st33⟩ := dasW X32 hx hZ (rfl : T32.heap = T32.heap) W32 N32 (i := 0) (a := a21) rfl (j := (3 : Int32)) (x := dz32) (k := 3) (by decide) (by decide) (by decide) (g := (mkF m 105 #[sI p1, sI p2, sI p3, sI p4, sI (Int32.ofNat u), sI (own_bi fb), sI (own_bi ab), sR a7, sU, sU, sU, sU, sU, sU, sU, sU, sU] [(kD dz32), (kI 3), (kR a21), (kR a21)])) rfl rfl (hb hby at_105)
  have K34 : Rc K0 T33 (mkF m 109 #[sI p1, sI p2, sI p3, sI p4, sI (Int32.ofNat u), sI (own_bi fb), sI (own_bi ab), sR a7, sR a21, sU, sU, sU, sU, sU, sU, sU, sU] [(kI 4)]) := fun t k => K31 t (st32 t (st33 t (by
    refine XS.astore X33.here hx rfl (hb hby at_106) rfl rfl (l' := #[sI p1, sI p2, sI p3, sI p4, sI (Int32.ofNat u), sI (own_bi fb), sI (own_bi ab), sR a7, sR a21, sU, sU, sU, sU, sU, sU, sU, sU]) rfl ?_
    refine XS.iconst X33.here hx rfl (hb hby at_108) ?_
    exact k)))
  obtain ⟨T35, h35, a35, X35, e35, W35q, st35⟩ := newWA X33 hx hZ (aty := .double) (ty := .double) rfl (hw _ (mi 0 rfl)) e33 W33q (g := K34.g) rfl (hb hby at_109) (z := (4 : Int32)) (n := 4) rfl (by decide) (by decide) (cap := 4) (by decide) (by decide) (by decide : 2 + 1 ≤ _) (by decide : 8 + 4 ≤ _)
  have K36 : Rc K0 T35 (mkF m 115 #[sI p1, sI p2, sI p3, sI p4, sI (Int32.ofNat u), sI (own_bi fb), sI (own_bi ab), sR a7, sR a21, sU, sU, sU, sU, sU, sU, sU, sU] [(kI 0), (kI p3), (kI 0), (kR a35), (kR a35)]) := fun t k => K34 t (st35 t (by
    refine XS.dup X35.here hx rfl (hb hby at_111) rfl rfl ?_
    refine XS.iconst X35.here hx rfl (hb hby at_112) ?_
    refine XS.iloadN X35.here hx rfl (hb hby at_113) rfl ?_
    refine XS.iconst X35.here hx rfl (hb hby at_114) ?_
    exact k))
  obtain ⟨_, _, ⟨T37, L37, k37, n37⟩, -, X37, ⟨Lc37, hQ37, l37, y37, z37⟩, st37⟩ := Jvm.LawKit.callS X35 hx (y := y_dd) hown (mvT hZ (hw _ (mi 1 rfl))) (mvT hZ (hw _ (mi 2 rfl))) (mvT hZ (hw _ (mi 3 rfl))) (mvT hZ (hw _ (mi 4 rfl))) (by decide) (backOf (W := 3) (rmDD l Z a0 hw [] p3 (0 : Int32) ((a35, Ar Z .double 4 zD) :: (a21, Ar Z .double 4 (upd (upd (upd (upd zD 0 (kD dz23)) 1 (kD dz26)) 2 (kD dz29)) 3 (kD dz32))) :: (a7, Ar Z .double 4 (upd (upd (upd (upd zD 0 (kD dz9)) 1 (kD dz12)) 2 (kD dz15)) 3 (kD dz18))) :: []) h35 n0 W35q) hZ (hw _ (mi 4 rfl)) (hw _ (mi 3 rfl)) (by decide) (by decide)) (g := K36.g) rfl (by rw [hml]; rfl) (argsL := [(.int p3), (.int (0 : Int32))]) (rest := [(.int (0 : Int32)), (.ref a35), (.ref a35)]) (lenOf pd_dd rfl) rfl (by show 2 * 0 + _ ≤ _; exact Nat.le_of_eq rfl) (hb hby at_115) (fun _ _ => ⟨rfl, e35, (by decide : 3 + 0 ≤ _), (by decide : 12 + 0 ≤ _)⟩)
  dsimp only [Pt.U, Pt.locs, Pt.cells, Pt.slots] at X37 l37 y37 z37 st37 hQ37
  subst l37 y37 z37
  obtain ⟨dz37, rfl, N37q, W37⟩ := hQ37
  have N37 := Fr.app N33 N37q
  obtain ⟨T38, h38, L38, X38, e38, N38, W38q, st38⟩ := dasW X37 hx hZ (rfl : T37.heap = T37.heap) W37 N37 (i := 0) (a := a35) rfl (j := (0 : Int32)) (x := dz37) (k := 0) (by decide) (by decide) (by decide) (g := (mkF m 118 #[sI p1, sI p2, sI p3, sI p4, sI (Int32.ofNat u), sI (own_bi fb), sI (own_bi ab), sR a7, sR a21, sU, sU, sU, sU, sU, sU, sU, sU] [(kD dz37), (kI 0), (kR a35), (kR a35)])) rfl rfl (hb hby at_118)
  have W38 : Wo n0 h38 [(a35, Ar Z .double 4 (upd zD 0 (kD dz37))), (a21, Ar Z .double 4 (upd (upd (upd (upd zD 0 (kD dz23)) 1 (kD dz26)) 2 (kD dz29)) 3 (kD dz32))), (a7, Ar Z .double 4 (upd (upd (upd (upd zD 0 (kD dz9)) 1 (kD dz12)) 2 (kD dz15)) 3 (kD dz18)))] := W38q
  have K39 : Rc K0 T38 (mkF m 123 #[sI p1, sI p2, sI p3, sI p4, sI (Int32.ofNat u), sI (own_bi fb), sI (own_bi ab), sR a7, sR a21, sU, sU, sU, sU, sU, sU, sU, sU] [(kI 1), (kI p3), (kI 1), (kR a35), (kR a35)]) := fun t k => K36 t (st37 t (st38 t (by
    refine XS.dup X38.here hx rfl (hb hby at_119) rfl rfl ?_
    refine XS.iconst X38.here hx rfl (hb hby at_120) ?_
    refine XS.iloadN X38.here hx rfl (hb hby at_121) rfl ?_
    refine XS.iconst X38.here hx rfl (hb hby at_122) ?_
    exact k)))
  obtain ⟨_, _, ⟨T40, L40, k40, n40⟩, -, X40, ⟨Lc40, hQ40, l40, y40, z40⟩, st40⟩ := Jvm.LawKit.callS X38 hx (y := y_dd) hown (mvT hZ (hw _ (mi 1 rfl))) (mvT hZ (hw _ (mi 2 rfl))) (mvT hZ (hw _ (mi 3 rfl))) (mvT hZ (hw _ (mi 4 rfl))) (by decide) (backOf (W := 3) (rmDD l Z a0 hw [] p3 (1 : Int32) ((a35, Ar Z .double 4 (upd zD 0 (kD dz37))) :: (a21, Ar Z .double 4 (upd (upd (upd (upd zD 0 (kD dz23)) 1 (kD dz26)) 2 (kD dz29)) 3 (kD dz32))) :: (a7, Ar Z .double 4 (upd (upd (upd (upd zD 0 (kD dz9)) 1 (kD dz12)) 2 (kD dz15)) 3 (kD dz18))) :: []) h38 n0 W38) hZ (hw _ (mi 4 rfl)) (hw _ (mi 3 rfl)) (by decide) (by decide)) (g := K39.g) rfl (by rw [hml]; rfl) (argsL := [(.int p3), (.int (1 : Int32))]) (rest := [(.int (1 : Int32)), (.ref a35), (.ref a35)]) (lenOf pd_dd rfl) rfl (by show 2 * 0 + _ ≤ _; exact Nat.le_of_eq rfl) (hb hby at_123) (fun _ _ => ⟨rfl, e38, (by decide : 3 + 0 ≤ _), (by decide : 12 + 0 ≤ _)⟩)
  dsimp only [Pt.U, Pt.locs, Pt.cells, Pt.slots] at X40 l40 y40 z40 st40 hQ40
  subst l40 y40 z40
  obtain ⟨dz40, rfl, N40q, W40⟩ := hQ40
  have N40 := Fr.app N38 N40q
  obtain ⟨T41, h41, L41, X41, e41, N41, W41q, st41⟩ := dasW X40 hx hZ (rfl : T40.heap = T40.heap) W40 N40 (i := 0) (a := a35) rfl (j := (1 : Int32)) (x := dz40) (k := 1) (by decide) (by decide) (by decide) (g := (mkF m 126 #[sI p1, sI p2, sI p3, sI p4, sI (Int32.ofNat u), sI (own_bi fb), sI (own_bi ab), sR a7, sR a21, sU, sU, sU, sU, sU, sU, sU, sU] [(kD dz40), (kI 1), (kR a35), (kR a35)])) rfl rfl (hb hby at_126)
  have K42 : Rc K0 T41 (mkF m 131 #[sI p1, sI p2, sI p3, sI p4, sI (Int32.ofNat u), sI (own_bi fb), sI (own_bi ab), sR a7, sR a21, sU, sU, sU, sU, sU, sU, sU, sU] [(kI 2), (kI p3), (kI 2), (kR a35), (kR a35)]) := fun t k => K39 t (st40 t (st41 t (by
    refine XS.dup X41.here hx rfl (hb hby at_127) rfl rfl ?_
    refine XS.iconst X41.here hx rfl (hb hby at_128) ?_
    refine XS.iloadN X41.here hx rfl (hb hby at_129) rfl ?_
    refine XS.iconst X41.here hx rfl (hb hby at_130) ?_
    exact k)))
  obtain ⟨_, _, ⟨T43, L43, k43, n43⟩, -, X43, ⟨Lc43, hQ43, l43, y43, z43⟩, st43⟩ := Jvm.LawKit.callS X41 hx (y := y_dd) hown (mvT hZ (hw _ (mi 1 rfl))) (mvT hZ (hw _ (mi 2 rfl))) (mvT hZ (hw _ (mi 3 rfl))) (mvT hZ (hw _ (mi 4 rfl))) (by decide) (backOf (W := 3) (rmDD l Z a0 hw [] p3 (2 : Int32) ((a35, Ar Z .double 4 (upd (upd zD 0 (kD dz37)) 1 (kD dz40))) :: (a21, Ar Z .double 4 (upd (upd (upd (upd zD 0 (kD dz23)) 1 (kD dz26)) 2 (kD dz29)) 3 (kD dz32))) :: (a7, Ar Z .double 4 (upd (upd (upd (upd zD 0 (kD dz9)) 1 (kD dz12)) 2 (kD dz15)) 3 (kD dz18))) :: []) h41 n0 W41q) hZ (hw _ (mi 4 rfl)) (hw _ (mi 3 rfl)) (by decide) (by decide)) (g := K42.g) rfl (by rw [hml]; rfl) (argsL := [(.int p3), (.int (2 : Int32))]) (rest := [(.int (2 : Int32)), (.ref a35), (.ref a35)]) (lenOf pd_dd rfl) rfl (by show 2 * 0 + _ ≤ _; exact Nat.le_of_eq rfl) (hb hby at_131) (fun _ _ => ⟨rfl, e41, (by decide : 3 + 0 ≤ _), (by decide : 12 + 0 ≤ _)⟩)
  dsimp only [Pt.U, Pt.locs, Pt.cells, Pt.slots] at X43 l43 y43 z43 st43 hQ43
  subst l43 y43 z43
  obtain ⟨dz43, rfl, N43q, W43⟩ := hQ43
  have N43 := Fr.app N41 N43q
  obtain ⟨T44, h44, L44, X44, e44, N44, W44q, st44⟩ := dasW X43 hx hZ (rfl : T43.heap = T43.heap) W43 N43 (i := 0) (a := a35) rfl (j := (2 : Int32)) (x := dz43) (k := 2) (by decide) (by decide) (by decide) (g := (mkF m 134 #[sI p1, sI p2, sI p3, sI p4, sI (Int32.ofNat u), sI (own_bi fb), sI (own_bi ab), sR a7, sR a21, sU, sU, sU, sU, sU, sU, sU, sU] [(kD dz43), (kI 2), (kR a35), (kR a35)])) rfl rfl (hb hby at_134)
  have K45 : Rc K0 T44 (mkF m 139 #[sI p1, sI p2, sI p3, sI p4, sI (Int32.ofNat u), sI (own_bi fb), sI (own_bi ab), sR a7, sR a21, sU, sU, sU, sU, sU, sU, sU, sU] [(kI 3), (kI p3), (kI 3), (kR a35), (kR a35)]) := fun t k => K42 t (st43 t (st44 t (by
    refine XS.dup X44.here hx rfl (hb hby at_135) rfl rfl ?_
    refine XS.iconst X44.here hx rfl (hb hby at_136) ?_
    refine XS.iloadN X44.here hx rfl (hb hby at_137) rfl ?_
    refine XS.iconst X44.here hx rfl (hb hby at_138) ?_
    exact k)))
  obtain ⟨_, _, ⟨T46, L46, k46, n46⟩, -, X46, ⟨Lc46, hQ46, l46, y46, z46⟩, st46⟩ := Jvm.LawKit.callS X44 hx (y := y_dd) hown (mvT hZ (hw _ (mi 1 rfl))) (mvT hZ (hw _ (mi 2 rfl))) (mvT hZ (hw _ (mi 3 rfl))) (mvT hZ (hw _ (mi 4 rfl))) (by decide) (backOf (W := 3) (rmDD l Z a0 hw [] p3 (3 : Int32) ((a35, Ar Z .double 4 (upd (upd (upd zD 0 (kD dz37)) 1 (kD dz40)) 2 (kD dz43))) :: (a21, Ar Z .double 4 (upd (upd (upd (upd zD 0 (kD dz23)) 1 (kD dz26)) 2 (kD dz29)) 3 (kD dz32))) :: (a7, Ar Z .double 4 (upd (upd (upd (upd zD 0 (kD dz9)) 1 (kD dz12)) 2 (kD dz15)) 3 (kD dz18))) :: []) h44 n0 W44q) hZ (hw _ (mi 4 rfl)) (hw _ (mi 3 rfl)) (by decide) (by decide)) (g := K45.g) rfl (by rw [hml]; rfl) (argsL := [(.int p3), (.int (3 : Int32))]) (rest := [(.int (3 : Int32)), (.ref a35), (.ref a35)]) (lenOf pd_dd rfl) rfl (by show 2 * 0 + _ ≤ _; exact Nat.le_of_eq rfl) (hb hby at_139) (fun _ _ => ⟨rfl, e44, (by decide : 3 + 0 ≤ _), (by decide : 12 + 0 ≤ _)⟩)
  dsimp only [Pt.U, Pt.locs, Pt.cells, Pt.slots] at X46 l46 y46 z46 st46 hQ46
  subst l46 y46 z46
  obtain ⟨dz46, rfl, N46q, W46⟩ := hQ46
  have N46 := Fr.app N44 N46q
  obtain ⟨T47, h47, L47, X47, e47, N47, W47q, st47⟩ := dasW X46 hx hZ (rfl : T46.heap = T46.heap) W46 N46 (i := 0) (a := a35) rfl (j := (3 : Int32)) (x := dz46) (k := 3) (by decide) (by decide) (by decide) (g := (mkF m 142 #[sI p1, sI p2, sI p3, sI p4, sI (Int32.ofNat u), sI (own_bi fb), sI (own_bi ab), sR a7, sR a21, sU, sU, sU, sU, sU, sU, sU, sU] [(kD dz46), (kI 3), (kR a35), (kR a35)])) rfl rfl (hb hby at_142)
  have K48 : Rc K0 T47 (mkF m 146 #[sI p1, sI p2, sI p3, sI p4, sI (Int32.ofNat u), sI (own_bi fb), sI (own_bi ab), sR a7, sR a21, sR a35, sU, sU, sU, sU, sU, sU, sU] [(kI 1)]) := fun t k => K45 t (st46 t (st47 t (by
    refine XS.astore X47.here hx rfl (hb hby at_143) rfl rfl (l' := #[sI p1, sI p2, sI p3, sI p4, sI (Int32.ofNat u), sI (own_bi fb), sI (own_bi ab), sR a7, sR a21, sR a35, sU, sU, sU, sU, sU, sU, sU]) rfl ?_
    refine XS.iconst X47.here hx rfl (hb hby at_145) ?_
    exact k)))
  obtain ⟨T49, h49, a49, X49, e49, W49q, st49⟩ := newWA X47 hx hZ (aty := .double) (ty := .double) rfl (hw _ (mi 0 rfl)) e47 W47q (g := K48.g) rfl (hb hby at_146) (z := (1 : Int32)) (n := 1) rfl (by decide) (by decide) (cap := 1) (by decide) (by decide) (by decide : 3 + 1 ≤ _) (by decide : 12 + 1 ≤ _)
  have W49 : Wo n0 h49 [(a49, Ar Z .double 1 zD), (a35, Ar Z .double 4 (upd (upd (upd (upd zD 0 (kD dz37)) 1 (kD dz40)) 2 (kD dz43)) 3 (kD dz46))), (a21, Ar Z .double 4 (upd (upd (upd (upd zD 0 (kD dz23)) 1 (kD dz26)) 2 (kD dz29)) 3 (kD dz32))), (a7, Ar Z .double 4 (upd (upd (upd (upd zD 0 (kD dz9)) 1 (kD dz12)) 2 (kD dz15)) 3 (kD dz18)))] := W49q
  have K50 : Rc K0 T49 (mkF m 153 #[sI p1, sI p2, sI p3, sI p4, sI (Int32.ofNat u), sI (own_bi fb), sI (own_bi ab), sR a7, sR a21, sR a35, sU, sU, sU, sU, sU, sU, sU] [(kD 4602678819172646912), (kI 0), (kR a49), (kR a49)]) := fun t k => K48 t (st49 t (by
    refine XS.dup X49.here hx rfl (hb hby at_148) rfl rfl ?_
    refine XS.iconst X49.here hx rfl (hb hby at_149) ?_
    refine X49.ldc2DoubleC hx hown (mvT hZ (hw _ (mi 5 rfl))) (g := (mkF m 150 #[sI p1, sI p2, sI p3, sI p4, sI (Int32.ofNat u), sI (own_bi fb), sI (own_bi ab), sR a7, sR a21, sR a35, sU, sU, sU, sU, sU, sU, sU] [(kI 0), (kR a49), (kR a49)])) rfl (hb hby at_150) _ ?_
    exact k))
  obtain ⟨T51, h51, L51, X51, e51, N51, W51q, st51⟩ := dasW X49 hx hZ e49 W49 N47 (i := 0) (a := a49) rfl (j := (0 : Int32)) (x := (4602678819172646912 : UInt64)) (k := 0) (by decide) (by decide) (by decide) (g := K50.g) rfl rfl (hb hby at_153)
  have K52 : Rc K0 T51 (mkF m 157 #[sI p1, sI p2, sI p3, sI p4, sI (Int32.ofNat u), sI (own_bi fb), sI (own_bi ab), sR a7, sR a21, sR a35, sR a49, sU, sU, sU, sU, sU, sU] [(kI 0)]) := fun t k => K50 t (st51 t (by
    refine XS.astore X51.here hx rfl (hb hby at_154) rfl rfl (l' := #[sI p1, sI p2, sI p3, sI p4, sI (Int32.ofNat u), sI (own_bi fb), sI (own_bi ab), sR a7, sR a21, sR a35, sR a49, sU, sU, sU, sU, sU, sU]) rfl ?_
    refine XS.iconst X51.here hx rfl (hb hby at_156) ?_
    exact k))
  obtain ⟨T53, h53, a53, X53, e53, W53q, st53⟩ := newWA X51 hx hZ (aty := .int) (ty := .int) rfl (hw _ (mi 6 rfl)) e51 W51q (g := K52.g) rfl (hb hby at_157) (z := (0 : Int32)) (n := 0) rfl (by decide) (by decide) (cap := 0) (by decide) (by decide) (by decide : 4 + 1 ≤ _) (by decide : 13 + 0 ≤ _)
  have K54 : Rc K0 T53 (mkF m 161 #[sI p1, sI p2, sI p3, sI p4, sI (Int32.ofNat u), sI (own_bi fb), sI (own_bi ab), sR a7, sR a21, sR a35, sR a49, sR a53, sU, sU, sU, sU, sU] []) := fun t k => K52 t (st53 t (XS.astore X53.here hx rfl (hb hby at_159) rfl rfl (l' := #[sI p1, sI p2, sI p3, sI p4, sI (Int32.ofNat u), sI (own_bi fb), sI (own_bi ab), sR a7, sR a21, sR a35, sR a49, sR a53, sU, sU, sU, sU, sU]) rfl k))
  obtain ⟨T55, h55, a55, X55, e55, W55q, st55⟩ := newWO X53 hx hZ hown (hw _ (mi 7 rfl)) (hw _ (mi 8 rfl)) (hw _ (mi 9 rfl)) e53 W53q (own_lR hw) (vs := [.null, .null, .null, .null, .null, .null, .null, .null, .null, .null, .null, .null, .null, .null, (.int (0 : Int32)), .null, (.int (0 : Int32)), .null, .null, .null, .null, .null, .null, (.int (0 : Int32)), (.int (0 : Int32))]) own_vR (g := K54.g) rfl (hb hby at_161) (by decide : 5 + 1 ≤ _) (by decide : 13 + 29 ≤ _)
  have K56 : Rc K0 T55 (mkF m 165 #[sI p1, sI p2, sI p3, sI p4, sI (Int32.ofNat u), sI (own_bi fb), sI (own_bi ab), sR a7, sR a21, sR a35, sR a49, sR a53, sU, sU, sU, sU, sU] [(kR a55), (kR a55)]) := fun t k => K54 t (st55 t (XS.dup X55.here hx rfl (hb hby at_164) rfl rfl k))
  obtain ⟨_, _, ⟨T57, L57, k57, n57⟩, -, X57, ⟨Lc57, hQ57, l57, y57, z57⟩, st57⟩ := X55.specialBack hx (y := y_ri) rfl hown (mvT hZ (hw _ (mi 10 rfl))) (mvT hZ (hw _ (mi 11 rfl))) (mvT hZ (hw _ (mi 12 rfl))) (by decide) (backOf (W := 1) (rmRI l Z a0 hw [] a55 ((a53, Ar Z .int 0 zI) :: (a49, Ar Z .double 1 (upd zD 0 (kD 4602678819172646912))) :: (a35, Ar Z .double 4 (upd (upd (upd (upd zD 0 (kD dz37)) 1 (kD dz40)) 2 (kD dz43)) 3 (kD dz46))) :: (a21, Ar Z .double 4 (upd (upd (upd (upd zD 0 (kD dz23)) 1 (kD dz26)) 2 (kD dz29)) 3 (kD dz32))) :: (a7, Ar Z .double 4 (upd (upd (upd (upd zD 0 (kD dz9)) 1 (kD dz12)) 2 (kD dz15)) 3 (kD dz18))) :: []) h55 n0 W55q) hZ (hw _ (mi 12 rfl)) (hw _ (mi 9 rfl)) (by decide) (by decide)) (g := K56.g) rfl (by rw [hml]; rfl) (Steps.refl _) (a := a55) (argsL := []) (rest := [(.ref a55)]) (lenOf pd_ri rfl) rfl (by show 2 * 0 + _ ≤ _; exact Nat.le_of_eq rfl) (hb hby at_165) (fun _ _ => ⟨rfl, e55, (by decide : 6 + 14 ≤ _), (by decide : 42 + 294 ≤ _)⟩)
  dsimp only [Pt.U, Pt.locs, Pt.cells, Pt.slots] at X57 l57 y57 z57 st57 hQ57
  subst l57 y57 z57
  obtain ⟨a43_57, a40_57, a37_57, a34_57, a31_57, a28_57, a25_57, a22_57, a19_57, a16_57, a13_57, a10_57, a7_57, a4_57, rfl, N57q, W57⟩ := hQ57
  have N57 := Fr.app N51 N57q
  have K58 : Rc K0 T57 (mkF m 170 #[sI p1, sI p2, sI p3, sI p4, sI (Int32.ofNat u), sI (own_bi fb), sI (own_bi ab), sR a7, sR a21, sR a35, sR a49, sR a53, sR a55, sU, sU, sU, sU] []) := fun t k => K56 t (st57.trans (XS.astore X57.here hx rfl (hb hby at_168) rfl rfl (l' := #[sI p1, sI p2, sI p3, sI p4, sI (Int32.ofNat u), sI (own_bi fb), sI (own_bi ab), sR a7, sR a21, sR a35, sR a49, sR a53, sR a55, sU, sU, sU, sU]) rfl k))
  obtain ⟨T59, h59, a59, X59, e59, W59q, st59⟩ := newWO X57 hx hZ hown (hw _ (mi 44 rfl)) (hw _ (mi 45 rfl)) (hw _ (mi 46 rfl)) (rfl : T57.heap = T57.heap) W57 (own_lB hw) (vs := [.null, (.int (0 : Int32)), .null, (.int (0 : Int32)), .null, .null, .null, .null, .null, .null, .null, (.int (0 : Int32)), (.int (0 : Int32)), (.int (0 : Int32)), (.int (0 : Int32)), .null]) own_vB (g := K58.g) rfl (hb hby at_170) (by decide : 20 + 1 ≤ _) (by decide : 336 + 16 ≤ _)
  have W59 : Wo n0 h59 [(a59, oB Z [.null, (kI 0), .null, (kI 0), .null, .null, .null, .null, .null, .null, .null, (kI 0), (kI 0), (kI 0), (kI 0), .null]), (a43_57, Ar Z .double 64 zD), (a40_57, Ar Z .int 64 zI), (a37_57, Ar Z .int 16 zI), (a34_57, Ar Z .int 16 zI), (a31_57, Ar Z .int 17 zI), (a28_57, Ar Z .int 17 zI), (a25_57, Ar Z .int 17 zI), (a22_57, Ar Z .int 17 zI), (a19_57, Ar Z .int 16 zI), (a16_57, Ar Z .int 17 zI), (a13_57, Ar Z .int 17 zI), (a10_57, Ar Z .int 16 zI), (a7_57, Ar Z .int 0 zI), (a4_57, Ar Z .int 0 zI), (a55, oR Z [(kR a4_57), (kR a7_57), (kR a10_57), (kR a13_57), (kR a16_57), (kR a19_57), (kR a22_57), (kR a25_57), (kR a28_57), (kR a31_57), (kR a34_57), (kR a37_57), (kR a40_57), (kR a43_57), (kI 0), .null, (kI 0), .null, .null, .null, .null, .null, .null, (kI 0), (kI 0)]), (a53, Ar Z .int 0 zI), (a49, Ar Z .double 1 (upd zD 0 (kD 4602678819172646912))), (a35, Ar Z .double 4 (upd (upd (upd (upd zD 0 (kD dz37)) 1 (kD dz40)) 2 (kD dz43)) 3 (kD dz46))), (a21, Ar Z .double 4 (upd (upd (upd (upd zD 0 (kD dz23)) 1 (kD dz26)) 2 (kD dz29)) 3 (kD dz32))), (a7, Ar Z .double 4 (upd (upd (upd (upd zD 0 (kD dz9)) 1 (kD dz12)) 2 (kD dz15)) 3 (kD dz18)))] := W59q
  have K60 : Rc K0 T59 (mkF m 174 #[sI p1, sI p2, sI p3, sI p4, sI (Int32.ofNat u), sI (own_bi fb), sI (own_bi ab), sR a7, sR a21, sR a35, sR a49, sR a53, sR a55, sU, sU, sU, sU] [(kR a59), (kR a59)]) := fun t k => K58 t (st59 t (XS.dup X59.here hx rfl (hb hby at_173) rfl rfl k))
  obtain ⟨_, _, ⟨T61, L61, k61, n61⟩, -, X61, ⟨Lc61, hQ61, l61, y61, z61⟩, st61⟩ := X59.specialBack hx (y := y_bi) rfl hown (mvT hZ (hw _ (mi 47 rfl))) (mvT hZ (hw _ (mi 48 rfl))) (mvT hZ (hw _ (mi 49 rfl))) (by decide) (backOf (W := 1) (rmBI l Z a0 hw [] a59 ((a43_57, Ar Z .double 64 zD) :: (a40_57, Ar Z .int 64 zI) :: (a37_57, Ar Z .int 16 zI) :: (a34_57, Ar Z .int 16 zI) :: (a31_57, Ar Z .int 17 zI) :: (a28_57, Ar Z .int 17 zI) :: (a25_57, Ar Z .int 17 zI) :: (a22_57, Ar Z .int 17 zI) :: (a19_57, Ar Z .int 16 zI) :: (a16_57, Ar Z .int 17 zI) :: (a13_57, Ar Z .int 17 zI) :: (a10_57, Ar Z .int 16 zI) :: (a7_57, Ar Z .int 0 zI) :: (a4_57, Ar Z .int 0 zI) :: (a55, oR Z [(kR a4_57), (kR a7_57), (kR a10_57), (kR a13_57), (kR a16_57), (kR a19_57), (kR a22_57), (kR a25_57), (kR a28_57), (kR a31_57), (kR a34_57), (kR a37_57), (kR a40_57), (kR a43_57), (kI 0), .null, (kI 0), .null, .null, .null, .null, .null, .null, (kI 0), (kI 0)]) :: (a53, Ar Z .int 0 zI) :: (a49, Ar Z .double 1 (upd zD 0 (kD 4602678819172646912))) :: (a35, Ar Z .double 4 (upd (upd (upd (upd zD 0 (kD dz37)) 1 (kD dz40)) 2 (kD dz43)) 3 (kD dz46))) :: (a21, Ar Z .double 4 (upd (upd (upd (upd zD 0 (kD dz23)) 1 (kD dz26)) 2 (kD dz29)) 3 (kD dz32))) :: (a7, Ar Z .double 4 (upd (upd (upd (upd zD 0 (kD dz9)) 1 (kD dz12)) 2 (kD dz15)) 3 (kD dz18))) :: []) h59 n0 W59) hZ (hw _ (mi 49 rfl)) (hw _ (mi 46 rfl)) (by decide) (by decide)) (g := K60.g) rfl (by rw [hml]; rfl) (Steps.refl _) (a := a59) (argsL := []) (rest := [(.ref a59)]) (lenOf pd_bi rfl) rfl (by show 2 * 0 + _ ≤ _; exact Nat.le_of_eq rfl) (hb hby at_174) (fun _ _ => ⟨rfl, e59, (by decide : 21 + 7 ≤ _), (by decide : 352 + 18 ≤ _)⟩)
  dsimp only [Pt.U, Pt.locs, Pt.cells, Pt.slots] at X61 l61 y61 z61 st61 hQ61
  subst l61 y61 z61
  obtain ⟨a22_61, a19_61, a16_61, a13_61, a10_61, a7_61, a4_61, rfl, N61q, W61⟩ := hQ61
  have N61 := Fr.app N57 N61q
  have K62 : Rc K0 T61 (mkF m 184 #[sI p1, sI p2, sI p3, sI p4, sI (Int32.ofNat u), sI (own_bi fb), sI (own_bi ab), sR a7, sR a21, sR a35, sR a49, sR a53, sR a55, sR a59, sI 0, sU, sU] [(kI (own_bi fb))]) := fun t k => K60 t (st61.trans (by
    refine XS.astore X61.here hx rfl (hb hby at_177) rfl rfl (l' := #[sI p1, sI p2, sI p3, sI p4, sI (Int32.ofNat u), sI (own_bi fb), sI (own_bi ab), sR a7, sR a21, sR a35, sR a49, sR a53, sR a55, sR a59, sU, sU, sU]) rfl ?_
    refine XS.iconst X61.here hx rfl (hb hby at_179) ?_
    refine XS.istore X61.here hx rfl (hb hby at_180) rfl (l' := #[sI p1, sI p2, sI p3, sI p4, sI (Int32.ofNat u), sI (own_bi fb), sI (own_bi ab), sR a7, sR a21, sR a35, sR a49, sR a53, sR a55, sR a59, sI 0, sU, sU]) rfl ?_
    refine XS.iload X61.here hx rfl (hb hby at_182) rfl ?_
    exact k))
  by_cases hf : fb = true
  · have hfb := hf
    have K63 : Rc K0 T61 (mkF m 193 #[sI p1, sI p2, sI p3, sI p4, sI (Int32.ofNat u), sI (own_bi fb), sI (own_bi ab), sR a7, sR a21, sR a35, sR a49, sR a53, sR a55, sR a59, sI 0, sU, sU] [(kI 0), .null, (kI 0), .null, (kR a59)]) := fun t k => K62 t (by
      refine XS.ifNo X61.here hx rfl (hb hby at_184) rfl ((if0 _ _).trans (feq (show ¬ (own_bi fb = 0) from by rw [hfb]; decide)).1) ?_
      refine XS.aload X61.here hx rfl (hb hby at_187) rfl rfl ?_
      refine XS.aconstNull X61.here hx rfl (hb hby at_189) ?_
      refine XS.iconst X61.here hx rfl (hb hby at_190) ?_
      refine XS.aconstNull X61.here hx rfl (hb hby at_191) ?_
      refine XS.iconst X61.here hx rfl (hb hby at_192) ?_
      exact k)
    have W64 : Wo n0 T61.heap [(a59, oB Z [.null, (kI 0), .null, (kI 0), (kR a4_61), (kR a7_61), (kR a10_61), (kR a13_61), (kR a16_61), (kR a19_61), (kR a22_61), (kI 0), (kI 0), (kI 0), (kI 0), .null]), (a22_61, Ar Z .double 4 zD), (a19_61, Ar Z .int 4 zI), (a16_61, Ar Z .int 2 zI), (a13_61, Ar Z .int 2 zI), (a10_61, Ar Z .int 2 zI), (a7_61, Ar Z .int 2 zI), (a4_61, Ar Z .int 2 zI), (a43_57, Ar Z .double 64 zD), (a40_57, Ar Z .int 64 zI), (a37_57, Ar Z .int 16 zI), (a34_57, Ar Z .int 16 zI), (a31_57, Ar Z .int 17 zI), (a28_57, Ar Z .int 17 zI), (a25_57, Ar Z .int 17 zI), (a22_57, Ar Z .int 17 zI), (a19_57, Ar Z .int 16 zI), (a16_57, Ar Z .int 17 zI), (a13_57, Ar Z .int 17 zI), (a10_57, Ar Z .int 16 zI), (a7_57, Ar Z .int 0 zI), (a4_57, Ar Z .int 0 zI), (a55, oR Z [(kR a4_57), (kR a7_57), (kR a10_57), (kR a13_57), (kR a16_57), (kR a19_57), (kR a22_57), (kR a25_57), (kR a28_57), (kR a31_57), (kR a34_57), (kR a37_57), (kR a40_57), (kR a43_57), (kI 0), .null, (kI 0), .null, .null, .null, .null, .null, .null, (kI 0), (kI 0)]), (a53, Ar Z .int 0 zI), (a49, Ar Z .double 1 (upd zD 0 (kD 4602678819172646912))), (a35, Ar Z .double 4 (upd (upd (upd (upd zD 0 (kD dz37)) 1 (kD dz40)) 2 (kD dz43)) 3 (kD dz46))), (a21, Ar Z .double 4 (upd (upd (upd (upd zD 0 (kD dz23)) 1 (kD dz26)) 2 (kD dz29)) 3 (kD dz32))), (a7, Ar Z .double 4 (upd (upd (upd (upd zD 0 (kD dz9)) 1 (kD dz12)) 2 (kD dz15)) 3 (kD dz18)))] := Wo.pick W61 [7, 0, 1, 2, 3, 4, 5, 6, 8, 9, 10, 11, 12, 13, 14, 15, 16, 17, 18, 19, 20, 21, 22, 23, 24, 25, 26, 27] 28 (by decide +kernel) rfl
    obtain ⟨cq65, kq65, q65a, q65b, q65c⟩ := isOf hZ (rfl : T61.heap = T61.heap) (W64.exa (i := 0) rfl)
    obtain ⟨_, _, ⟨T65, L65, k65, n65⟩, -, X65, ⟨Lc65, hQ65, l65, y65, z65⟩, st65⟩ := X61.virtualBack hx (y := y_st) (z := y_st) hown (mvT hZ (hw _ (mi 65 rfl))) (mvT hZ (hw _ (mi 66 rfl))) (notFace_of_selects (args := #[]) (mvT hZ (hw _ (mi 68 rfl)))) (mvT hZ (hw _ (mi 68 rfl))) (mvT hZ (hw _ (mi 67 rfl))) (by decide) (backOf (W := 0) (rmSTn l Z a0 hw [] a59 a4_61 a7_61 a10_61 a13_61 a16_61 a19_61 a22_61 (0 : Int32) (0 : Int32) ((a22_61, Ar Z .double 4 zD) :: (a19_61, Ar Z .int 4 zI) :: (a16_61, Ar Z .int 2 zI) :: (a13_61, Ar Z .int 2 zI) :: (a10_61, Ar Z .int 2 zI) :: (a7_61, Ar Z .int 2 zI) :: (a4_61, Ar Z .int 2 zI) :: (a43_57, Ar Z .double 64 zD) :: (a40_57, Ar Z .int 64 zI) :: (a37_57, Ar Z .int 16 zI) :: (a34_57, Ar Z .int 16 zI) :: (a31_57, Ar Z .int 17 zI) :: (a28_57, Ar Z .int 17 zI) :: (a25_57, Ar Z .int 17 zI) :: (a22_57, Ar Z .int 17 zI) :: (a19_57, Ar Z .int 16 zI) :: (a16_57, Ar Z .int 17 zI) :: (a13_57, Ar Z .int 17 zI) :: (a10_57, Ar Z .int 16 zI) :: (a7_57, Ar Z .int 0 zI) :: (a4_57, Ar Z .int 0 zI) :: (a55, oR Z [(kR a4_57), (kR a7_57), (kR a10_57), (kR a13_57), (kR a16_57), (kR a19_57), (kR a22_57), (kR a25_57), (kR a28_57), (kR a31_57), (kR a34_57), (kR a37_57), (kR a40_57), (kR a43_57), (kI 0), .null, (kI 0), .null, .null, .null, .null, .null, .null, (kI 0), (kI 0)]) :: (a53, Ar Z .int 0 zI) :: (a49, Ar Z .double 1 (upd zD 0 (kD 4602678819172646912))) :: (a35, Ar Z .double 4 (upd (upd (upd (upd zD 0 (kD dz37)) 1 (kD dz40)) 2 (kD dz43)) 3 (kD dz46))) :: (a21, Ar Z .double 4 (upd (upd (upd (upd zD 0 (kD dz23)) 1 (kD dz26)) 2 (kD dz29)) 3 (kD dz32))) :: (a7, Ar Z .double 4 (upd (upd (upd (upd zD 0 (kD dz9)) 1 (kD dz12)) 2 (kD dz15)) 3 (kD dz18))) :: []) T61.heap n0 W64) hZ (hw _ (mi 69 rfl)) (hw _ (mi 46 rfl)) (by decide) (by decide)) q65a q65c (g := K63.g) rfl (by rw [hml]; rfl) (Steps.refl _) (argsL := [.null, (.int (0 : Int32)), .null, (.int (0 : Int32))]) (rest := []) (lenOf pd_st rfl) rfl (by show 2 * 0 + _ ≤ _; exact Nat.le_of_eq rfl) (hb hby at_193) (fun _ _ => ⟨rfl, (rfl : T61.heap = T61.heap), (by decide : 28 + 0 ≤ _), (by decide : 370 + 0 ≤ _)⟩)
    dsimp only [Pt.U, Pt.locs, Pt.cells, Pt.slots] at X65 l65 y65 z65 st65 hQ65
    subst l65 y65 z65
    obtain ⟨rfl, N65q, W65⟩ := hQ65
    have N65 := Fr.app N61 N65q
    have K66 : Rc K0 T65 (mkF m 198 #[sI p1, sI p2, sI p3, sI p4, sI (Int32.ofNat u), sI (own_bi fb), sI (own_bi ab), sR a7, sR a21, sR a35, sR a49, sR a53, sR a55, sR a59, sI 0, sU, sU] [(kR a59)]) := fun t k => K63 t (st65.trans (XS.aload X65.here hx rfl (hb hby at_196) rfl rfl k))
    have W67 : Wo n0 T65.heap [(a59, oB Z [.null, (kI 0), .null, (kI 0), (kR a4_61), (kR a7_61), (kR a10_61), (kR a13_61), (kR a16_61), (kR a19_61), (kR a22_61), (kI 0), (kI 0), (kI 0), (kI 0), .null]), (a4_61, Ar Z .int 2 zI), (a10_61, Ar Z .int 2 zI), (a16_61, Ar Z .int 2 zI), (a22_61, Ar Z .double 4 zD), (a19_61, Ar Z .int 4 zI), (a13_61, Ar Z .int 2 zI), (a7_61, Ar Z .int 2 zI), (a43_57, Ar Z .double 64 zD), (a40_57, Ar Z .int 64 zI), (a37_57, Ar Z .int 16 zI), (a34_57, Ar Z .int 16 zI), (a31_57, Ar Z .int 17 zI), (a28_57, Ar Z .int 17 zI), (a25_57, Ar Z .int 17 zI), (a22_57, Ar Z .int 17 zI), (a19_57, Ar Z .int 16 zI), (a16_57, Ar Z .int 17 zI), (a13_57, Ar Z .int 17 zI), (a10_57, Ar Z .int 16 zI), (a7_57, Ar Z .int 0 zI), (a4_57, Ar Z .int 0 zI), (a55, oR Z [(kR a4_57), (kR a7_57), (kR a10_57), (kR a13_57), (kR a16_57), (kR a19_57), (kR a22_57), (kR a25_57), (kR a28_57), (kR a31_57), (kR a34_57), (kR a37_57), (kR a40_57), (kR a43_57), (kI 0), .null, (kI 0), .null, .null, .null, .null, .null, .null, (kI 0), (kI 0)]), (a53, Ar Z .int 0 zI), (a49, Ar Z .double 1 (upd zD 0 (kD 4602678819172646912))), (a35, Ar Z .double 4 (upd (upd (upd (upd zD 0 (kD dz37)) 1 (kD dz40)) 2 (kD dz43)) 3 (kD dz46))), (a21, Ar Z .double 4 (upd (upd (upd (upd zD 0 (kD dz23)) 1 (kD dz26)) 2 (kD dz29)) 3 (kD dz32))), (a7, Ar Z .double 4 (upd (upd (upd (upd zD 0 (kD dz9)) 1 (kD dz12)) 2 (kD dz15)) 3 (kD dz18)))] := Wo.pick W65 [0, 7, 5, 3, 1, 2, 4, 6, 8, 9, 10, 11, 12, 13, 14, 15, 16, 17, 18, 19, 20, 21, 22, 23, 24, 25, 26, 27] 28 (by decide +kernel) rfl
    obtain ⟨cq68, kq68, q68a, q68b, q68c⟩ := isOf hZ (rfl : T65.heap = T65.heap) (W67.exa (i := 0) rfl)
    obtain ⟨_, _, ⟨T68, L68, k68, n68⟩, -, X68, ⟨Lc68, hQ68, l68, y68, z68⟩, st68⟩ := X65.virtualBack hx (y := y_sc) (z := y_sc) hown (mvT hZ (hw _ (mi 88 rfl))) (mvT hZ (hw _ (mi 89 rfl))) (notFace_of_selects (args := #[]) (mvT hZ (hw _ (mi 91 rfl)))) (mvT hZ (hw _ (mi 91 rfl))) (mvT hZ (hw _ (mi 90 rfl))) (by decide) (backOf (W := 0) (rmSCn l Z a0 hw [] a59 a4_61 a7_61 a10_61 a13_61 a16_61 a19_61 a22_61 (0 : Int32) zI zI zI ((a22_61, Ar Z .double 4 zD) :: (a19_61, Ar Z .int 4 zI) :: (a13_61, Ar Z .int 2 zI) :: (a7_61, Ar Z .int 2 zI) :: (a43_57, Ar Z .double 64 zD) :: (a40_57, Ar Z .int 64 zI) :: (a37_57, Ar Z .int 16 zI) :: (a34_57, Ar Z .int 16 zI) :: (a31_57, Ar Z .int 17 zI) :: (a28_57, Ar Z .int 17 zI) :: (a25_57, Ar Z .int 17 zI) :: (a22_57, Ar Z .int 17 zI) :: (a19_57, Ar Z .int 16 zI) :: (a16_57, Ar Z .int 17 zI) :: (a13_57, Ar Z .int 17 zI) :: (a10_57, Ar Z .int 16 zI) :: (a7_57, Ar Z .int 0 zI) :: (a4_57, Ar Z .int 0 zI) :: (a55, oR Z [(kR a4_57), (kR a7_57), (kR a10_57), (kR a13_57), (kR a16_57), (kR a19_57), (kR a22_57), (kR a25_57), (kR a28_57), (kR a31_57), (kR a34_57), (kR a37_57), (kR a40_57), (kR a43_57), (kI 0), .null, (kI 0), .null, .null, .null, .null, .null, .null, (kI 0), (kI 0)]) :: (a53, Ar Z .int 0 zI) :: (a49, Ar Z .double 1 (upd zD 0 (kD 4602678819172646912))) :: (a35, Ar Z .double 4 (upd (upd (upd (upd zD 0 (kD dz37)) 1 (kD dz40)) 2 (kD dz43)) 3 (kD dz46))) :: (a21, Ar Z .double 4 (upd (upd (upd (upd zD 0 (kD dz23)) 1 (kD dz26)) 2 (kD dz29)) 3 (kD dz32))) :: (a7, Ar Z .double 4 (upd (upd (upd (upd zD 0 (kD dz9)) 1 (kD dz12)) 2 (kD dz15)) 3 (kD dz18))) :: []) T65.heap n0 W67) hZ (hw _ (mi 92 rfl)) (hw _ (mi 46 rfl)) (by decide) (by decide)) q68a q68c (g := K66.g) rfl (by rw [hml]; rfl) (Steps.refl _) (argsL := []) (rest := []) (lenOf pd_sc rfl) rfl (by show 2 * 0 + _ ≤ _; exact Nat.le_of_eq rfl) (hb hby at_198) (fun _ _ => ⟨rfl, (rfl : T65.heap = T65.heap), (by decide : 28 + 0 ≤ _), (by decide : 370 + 0 ≤ _)⟩)
    dsimp only [Pt.U, Pt.locs, Pt.cells, Pt.slots] at X68 l68 y68 z68 st68 hQ68
    subst l68 y68 z68
    obtain ⟨rfl, N68q, W68⟩ := hQ68
    have N68 := Fr.app N65 N68q
    have K69 : Rc K0 T68 (mkF m 205 #[sI p1, sI p2, sI p3, sI p4, sI (Int32.ofNat u), sI (own_bi fb), sI (own_bi ab), sR a7, sR a21, sR a35, sR a49, sR a53, sR a55, sR a59, sI 0, sU, sU] [(kD 4607182418800017408), (kI 0), (kR a59)]) := fun t k => K66 t (st68.trans (by
      refine XS.aload X68.here hx rfl (hb hby at_201) rfl rfl ?_
      refine XS.iconst X68.here hx rfl (hb hby at_203) ?_
      refine XS.dconst1 X68.here hx rfl (hb hby at_204) rfl ?_
      exact k))
    have W70 : Wo n0 T68.heap [(a59, oB Z [.null, (kI 0), .null, (kI 0), (kR a4_61), (kR a7_61), (kR a10_61), (kR a13_61), (kR a16_61), (kR a19_61), (kR a22_61), (kI 1), (kI 0), (kI 0), (kI 0), .null]), (a16_61, Ar Z .int 2 (upd zI 0 (kI 0))), (a19_61, Ar Z .int 4 zI), (a22_61, Ar Z .double 4 zD), (a4_61, Ar Z .int 2 (upd zI 0 (kI 0))), (a10_61, Ar Z .int 2 (upd zI 0 (kI 0))), (a13_61, Ar Z .int 2 zI), (a7_61, Ar Z .int 2 zI), (a43_57, Ar Z .double 64 zD), (a40_57, Ar Z .int 64 zI), (a37_57, Ar Z .int 16 zI), (a34_57, Ar Z .int 16 zI), (a31_57, Ar Z .int 17 zI), (a28_57, Ar Z .int 17 zI), (a25_57, Ar Z .int 17 zI), (a22_57, Ar Z .int 17 zI), (a19_57, Ar Z .int 16 zI), (a16_57, Ar Z .int 17 zI), (a13_57, Ar Z .int 17 zI), (a10_57, Ar Z .int 16 zI), (a7_57, Ar Z .int 0 zI), (a4_57, Ar Z .int 0 zI), (a55, oR Z [(kR a4_57), (kR a7_57), (kR a10_57), (kR a13_57), (kR a16_57), (kR a19_57), (kR a22_57), (kR a25_57), (kR a28_57), (kR a31_57), (kR a34_57), (kR a37_57), (kR a40_57), (kR a43_57), (kI 0), .null, (kI 0), .null, .null, .null, .null, .null, .null, (kI 0), (kI 0)]), (a53, Ar Z .int 0 zI), (a49, Ar Z .double 1 (upd zD 0 (kD 4602678819172646912))), (a35, Ar Z .double 4 (upd (upd (upd (upd zD 0 (kD dz37)) 1 (kD dz40)) 2 (kD dz43)) 3 (kD dz46))), (a21, Ar Z .double 4 (upd (upd (upd (upd zD 0 (kD dz23)) 1 (kD dz26)) 2 (kD dz29)) 3 (kD dz32))), (a7, Ar Z .double 4 (upd (upd (upd (upd zD 0 (kD dz9)) 1 (kD dz12)) 2 (kD dz15)) 3 (kD dz18)))] := Wo.pick W68 [0, 3, 5, 4, 1, 2, 6, 7, 8, 9, 10, 11, 12, 13, 14, 15, 16, 17, 18, 19, 20, 21, 22, 23, 24, 25, 26, 27] 28 (by decide +kernel) rfl
    obtain ⟨cq71, kq71, q71a, q71b, q71c⟩ := isOf hZ (rfl : T68.heap = T68.heap) (W70.exa (i := 0) rfl)
    obtain ⟨_, _, ⟨T71, L71, k71, n71⟩, -, X71, ⟨Lc71, hQ71, l71, y71, z71⟩, st71⟩ := X68.virtualBack hx (y := y_am) (z := y_am) hown (mvT hZ (hw _ (mi 93 rfl))) (mvT hZ (hw _ (mi 94 rfl))) (notFace_of_selects (args := #[]) (mvT hZ (hw _ (mi 96 rfl)))) (mvT hZ (hw _ (mi 96 rfl))) (mvT hZ (hw _ (mi 95 rfl))) (by decide) (backOf (W := 0) (rmAMn l Z a0 hw [] a59 a4_61 a7_61 a10_61 a13_61 a16_61 a19_61 a22_61 (0 : Int32) (upd zI 0 (kI 0)) zI zD ((a4_61, Ar Z .int 2 (upd zI 0 (kI 0))) :: (a10_61, Ar Z .int 2 (upd zI 0 (kI 0))) :: (a13_61, Ar Z .int 2 zI) :: (a7_61, Ar Z .int 2 zI) :: (a43_57, Ar Z .double 64 zD) :: (a40_57, Ar Z .int 64 zI) :: (a37_57, Ar Z .int 16 zI) :: (a34_57, Ar Z .int 16 zI) :: (a31_57, Ar Z .int 17 zI) :: (a28_57, Ar Z .int 17 zI) :: (a25_57, Ar Z .int 17 zI) :: (a22_57, Ar Z .int 17 zI) :: (a19_57, Ar Z .int 16 zI) :: (a16_57, Ar Z .int 17 zI) :: (a13_57, Ar Z .int 17 zI) :: (a10_57, Ar Z .int 16 zI) :: (a7_57, Ar Z .int 0 zI) :: (a4_57, Ar Z .int 0 zI) :: (a55, oR Z [(kR a4_57), (kR a7_57), (kR a10_57), (kR a13_57), (kR a16_57), (kR a19_57), (kR a22_57), (kR a25_57), (kR a28_57), (kR a31_57), (kR a34_57), (kR a37_57), (kR a40_57), (kR a43_57), (kI 0), .null, (kI 0), .null, .null, .null, .null, .null, .null, (kI 0), (kI 0)]) :: (a53, Ar Z .int 0 zI) :: (a49, Ar Z .double 1 (upd zD 0 (kD 4602678819172646912))) :: (a35, Ar Z .double 4 (upd (upd (upd (upd zD 0 (kD dz37)) 1 (kD dz40)) 2 (kD dz43)) 3 (kD dz46))) :: (a21, Ar Z .double 4 (upd (upd (upd (upd zD 0 (kD dz23)) 1 (kD dz26)) 2 (kD dz29)) 3 (kD dz32))) :: (a7, Ar Z .double 4 (upd (upd (upd (upd zD 0 (kD dz9)) 1 (kD dz12)) 2 (kD dz15)) 3 (kD dz18))) :: []) T68.heap n0 W70 rfl) hZ (hw _ (mi 97 rfl)) (hw _ (mi 46 rfl)) (by decide) (by decide)) q71a q71c (g := K69.g) rfl (by rw [hml]; rfl) (Steps.refl _) (argsL := [(.int (0 : Int32)), (.double (4607182418800017408 : UInt64))]) (rest := []) (lenOf pd_am rfl) rfl (by show 2 * 0 + _ ≤ _; exact Nat.le_of_eq rfl) (hb hby at_205) (fun _ _ => ⟨rfl, (rfl : T68.heap = T68.heap), (by decide : 28 + 0 ≤ _), (by decide : 370 + 0 ≤ _)⟩)
    dsimp only [Pt.U, Pt.locs, Pt.cells, Pt.slots] at X71 l71 y71 z71 st71 hQ71
    subst l71 y71 z71
    obtain ⟨rfl, N71q, W71⟩ := hQ71
    have N71 := Fr.app N68 N71q
    have K72 : Rc K0 T71 (mkF m 216 #[sI p1, sI p2, sI p3, sI p4, sI (Int32.ofNat u), sI (own_bi fb), sI (own_bi ab), sR a7, sR a21, sR a35, sR a49, sR a53, sR a55, sR a59, sI 0, sU, sU] [(kI (-1)), (kR a53), (kR a59), (kR a55)]) := fun t k => K69 t (st71.trans (by
      refine XS.pop X71.here hx rfl (hb hby at_208) rfl rfl ?_
      refine XS.aload X71.here hx rfl (hb hby at_209) rfl rfl ?_
      refine XS.aload X71.here hx rfl (hb hby at_211) rfl rfl ?_
      refine XS.aload X71.here hx rfl (hb hby at_213) rfl rfl ?_
      refine XS.iconst X71.here hx rfl (hb hby at_215) ?_
      exact k))
    have W73 : Wo n0 T71.heap [(a55, oR Z [(kR a4_57), (kR a7_57), (kR a10_57), (kR a13_57), (kR a16_57), (kR a19_57), (kR a22_57), (kR a25_57), (kR a28_57), (kR a31_57), (kR a34_57), (kR a37_57), (kR a40_57), (kR a43_57), (kI 0), .null, (kI 0), .null, .null, .null, .null, .null, .null, (kI 0), (kI 0)]), (a59, oB Z [.null, (kI 0), .null, (kI 0), (kR a4_61), (kR a7_61), (kR a10_61), (kR a13_61), (kR a16_61), (kR a19_61), (kR a22_61), (kI 1), (kI 0), (kI 0), (kI 1), .null]), (a4_57, Ar Z .int 0 zI), (a7_57, Ar Z .int 0 zI), (a10_57, Ar Z .int 16 zI), (a13_57, Ar Z .int 17 zI), (a16_57, Ar Z .int 17 zI), (a19_57, Ar Z .int 16 zI), (a22_57, Ar Z .int 17 zI), (a25_57, Ar Z .int 17 zI), (a28_57, Ar Z .int 17 zI), (a31_57, Ar Z .int 17 zI), (a34_57, Ar Z .int 16 zI), (a37_57, Ar Z .int 16 zI), (a40_57, Ar Z .int 64 zI), (a43_57, Ar Z .double 64 zD), (a4_61, Ar Z .int 2 (upd zI 0 (kI 0))), (a10_61, Ar Z .int 2 (upd zI 0 (kI 0))), (a16_61, Ar Z .int 2 (upd zI 0 (kI 0))), (a7_61, Ar Z .int 2 zI), (a13_61, Ar Z .int 2 zI), (a19_61, Ar Z .int 4 (upd zI 0 (kI 0))), (a22_61, Ar Z .double 4 (upd zD 0 (kD 4607182418800017408))), (a53, Ar Z .int 0 zI), (a49, Ar Z .double 1 (upd zD 0 (kD 4602678819172646912))), (a35, Ar Z .double 4 (upd (upd (upd (upd zD 0 (kD dz37)) 1 (kD dz40)) 2 (kD dz43)) 3 (kD dz46))), (a21, Ar Z .double 4 (upd (upd (upd (upd zD 0 (kD dz23)) 1 (kD dz26)) 2 (kD dz29)) 3 (kD dz32))), (a7, Ar Z .double 4 (upd (upd (upd (upd zD 0 (kD dz9)) 1 (kD dz12)) 2 (kD dz15)) 3 (kD dz18)))] := Wo.pick W71 [22, 0, 21, 20, 19, 18, 17, 16, 15, 14, 13, 12, 11, 10, 9, 8, 4, 5, 1, 7, 6, 2, 3, 23, 24, 25, 26, 27] 28 (by decide +kernel) rfl
    obtain ⟨cq74, kq74, q74a, q74b, q74c⟩ := isOf hZ (rfl : T71.heap = T71.heap) (W73.exa (i := 0) rfl)
    obtain ⟨_, _, ⟨T74, L74, k74, n74⟩, -, X74, ⟨Lc74, hQ74, l74, y74, z74⟩, st74⟩ := X71.virtualBack hx (y := y_add) (z := y_add) hown (mvT hZ (hw _ (mi 98 rfl))) (mvT hZ (hw _ (mi 99 rfl))) (notFace_of_selects (args := #[]) (mvT hZ (hw _ (mi 101 rfl)))) (mvT hZ (hw _ (mi 101 rfl))) (mvT hZ (hw _ (mi 100 rfl))) (by decide) (backOf (W := 0) (rmADF l Z a0 hw [] a55 a4_57 a7_57 a10_57 a13_57 a16_57 a19_57 a22_57 a25_57 a28_57 a31_57 a34_57 a37_57 a40_57 a43_57 a59 a4_61 a7_61 a10_61 a13_61 a16_61 a19_61 a22_61 a53 zI zI zI zI zI zI zI zI zI zI zI zI zI zD (upd zI 0 (kI 0)) (upd zI 0 (kI 0)) (upd zI 0 (kI 0)) zI zI (upd zI 0 (kI 0)) (upd zD 0 (kD 4607182418800017408)) zI ((a49, Ar Z .double 1 (upd zD 0 (kD 4602678819172646912))) :: (a35, Ar Z .double 4 (upd (upd (upd (upd zD 0 (kD dz37)) 1 (kD dz40)) 2 (kD dz43)) 3 (kD dz46))) :: (a21, Ar Z .double 4 (upd (upd (upd (upd zD 0 (kD dz23)) 1 (kD dz26)) 2 (kD dz29)) 3 (kD dz32))) :: (a7, Ar Z .double 4 (upd (upd (upd (upd zD 0 (kD dz9)) 1 (kD dz12)) 2 (kD dz15)) 3 (kD dz18))) :: []) T71.heap n0 W73 rfl rfl rfl rfl rfl rfl rfl rfl rfl) hZ (hw _ (mi 102 rfl)) (hw _ (mi 9 rfl)) (by decide) (by decide)) q74a q74c (g := K72.g) rfl (by rw [hml]; rfl) (Steps.refl _) (argsL := [(.ref a59), (.ref a53), (.int (-1 : Int32))]) (rest := []) (lenOf pd_add rfl) rfl (by show 2 * 0 + _ ≤ _; exact Nat.le_of_eq rfl) (hb hby at_216) (fun _ _ => ⟨rfl, (rfl : T71.heap = T71.heap), (by decide : 28 + 0 ≤ _), (by decide : 370 + 0 ≤ _)⟩)
    dsimp only [Pt.U, Pt.locs, Pt.cells, Pt.slots] at X74 l74 y74 z74 st74 hQ74
    subst l74 y74 z74
    obtain ⟨rfl, N74q, W74⟩ := hQ74
    have N74 := Fr.app N71 N74q
    have K75 : Rc K0 T74 (mkF m 231 #[sI p1, sI p2, sI p3, sI p4, sI (Int32.ofNat u), sI (own_bi fb), sI (own_bi ab), sR a7, sR a21, sR a35, sR a49, sR a53, sR a55, sR a59, sI 1, sU, sU] [(kI (Int32.ofNat u)), (kR a7), (kI 0), .null, (kR a59)]) := fun t k => K72 t (st74.trans (by
      refine XS.pop X74.here hx rfl (hb hby at_219) rfl rfl ?_
      refine XS.iconst X74.here hx rfl (hb hby at_220) ?_
      refine XS.istore X74.here hx rfl (hb hby at_221) rfl (l' := #[sI p1, sI p2, sI p3, sI p4, sI (Int32.ofNat u), sI (own_bi fb), sI (own_bi ab), sR a7, sR a21, sR a35, sR a49, sR a53, sR a55, sR a59, sI 1, sU, sU]) rfl ?_
      refine XS.aload X74.here hx rfl (hb hby at_223) rfl rfl ?_
      refine XS.aconstNull X74.here hx rfl (hb hby at_225) ?_
      refine XS.iconst X74.here hx rfl (hb hby at_226) ?_
      refine XS.aload X74.here hx rfl (hb hby at_227) rfl rfl ?_
      refine XS.iload X74.here hx rfl (hb hby at_229) rfl ?_
      exact k))
    have W76 : Wo n0 T74.heap [(a59, oB Z [.null, (kI 0), .null, (kI 0), (kR a4_61), (kR a7_61), (kR a10_61), (kR a13_61), (kR a16_61), (kR a19_61), (kR a22_61), (kI 1), (kI 0), (kI 0), (kI 1), .null]), (a55, oR Z [(kR a4_57), (kR a7_57), (kR a10_57), (kR a13_57), (kR a16_57), (kR a19_57), (kR a22_57), (kR a25_57), (kR a28_57), (kR a31_57), (kR a34_57), (kR a37_57), (kR a40_57), (kR a43_57), (kI 1), .null, (kI 1), .null, .null, .null, .null, .null, .null, (kI 0), (kI 0)]), (a4_57, Ar Z .int 0 zI), (a7_57, Ar Z .int 0 (cpy zI zI 0 0 0)), (a10_57, Ar Z .int 16 (upd zI 0 (kI (-1)))), (a13_57, Ar Z .int 17 (upd zI 1 (kI 1))), (a16_57, Ar Z .int 17 (upd zI 1 (kI 0))), (a19_57, Ar Z .int 16 (upd zI 0 (kI (-1)))), (a22_57, Ar Z .int 17 (upd zI 1 (kI 0))), (a25_57, Ar Z .int 17 (upd (upd zI 0 (kI 0)) 1 (kI 0))), (a28_57, Ar Z .int 17 (upd (upd zI 0 (kI 0)) 1 (kI 0))), (a31_57, Ar Z .int 17 (upd (upd zI 0 (kI 0)) 1 (kI 1))), (a34_57, Ar Z .int 16 (cpy zI zI 0 0 0)), (a37_57, Ar Z .int 16 (cpy zI zI 0 0 0)), (a40_57, Ar Z .int 64 (cpy (upd zI 0 (kI 0)) zI 0 0 1)), (a43_57, Ar Z .double 64 (cpy (upd zD 0 (kD 4607182418800017408)) zD 0 0 1)), (a4_61, Ar Z .int 2 (upd zI 0 (kI 0))), (a10_61, Ar Z .int 2 (upd zI 0 (kI 0))), (a16_61, Ar Z .int 2 (upd zI 0 (kI 0))), (a7_61, Ar Z .int 2 zI), (a13_61, Ar Z .int 2 zI), (a19_61, Ar Z .int 4 (upd zI 0 (kI 0))), (a22_61, Ar Z .double 4 (upd zD 0 (kD 4607182418800017408))), (a53, Ar Z .int 0 zI), (a49, Ar Z .double 1 (upd zD 0 (kD 4602678819172646912))), (a35, Ar Z .double 4 (upd (upd (upd (upd zD 0 (kD dz37)) 1 (kD dz40)) 2 (kD dz43)) 3 (kD dz46))), (a21, Ar Z .double 4 (upd (upd (upd (upd zD 0 (kD dz23)) 1 (kD dz26)) 2 (kD dz29)) 3 (kD dz32))), (a7, Ar Z .double 4 (upd (upd (upd (upd zD 0 (kD dz9)) 1 (kD dz12)) 2 (kD dz15)) 3 (kD dz18)))] := Wo.pick W74 [1, 0, 2, 3, 4, 5, 6, 7, 8, 9, 10, 11, 12, 13, 14, 15, 16, 17, 18, 19, 20, 21, 22, 23, 24, 25, 26, 27] 28 (by decide +kernel) rfl
    obtain ⟨cq77, kq77, q77a, q77b, q77c⟩ := isOf hZ (rfl : T74.heap = T74.heap) (W76.exa (i := 0) rfl)
    obtain ⟨_, _, ⟨T77, L77, k77, n77⟩, -, X77, ⟨Lc77, hQ77, l77, y77, z77⟩, st77⟩ := X74.virtualBack hx (y := y_st) (z := y_st) hown (mvT hZ (hw _ (mi 65 rfl))) (mvT hZ (hw _ (mi 66 rfl))) (notFace_of_selects (args := #[]) (mvT hZ (hw _ (mi 68 rfl)))) (mvT hZ (hw _ (mi 68 rfl))) (mvT hZ (hw _ (mi 67 rfl))) (by decide) (backOf (W := 0) (rmSTv l Z a0 hw [] a59 a4_61 a7_61 a10_61 a13_61 a16_61 a19_61 a22_61 (1 : Int32) (1 : Int32) a7 (Int32.ofNat u) ((a55, oR Z [(kR a4_57), (kR a7_57), (kR a10_57), (kR a13_57), (kR a16_57), (kR a19_57), (kR a22_57), (kR a25_57), (kR a28_57), (kR a31_57), (kR a34_57), (kR a37_57), (kR a40_57), (kR a43_57), (kI 1), .null, (kI 1), .null, .null, .null, .null, .null, .null, (kI 0), (kI 0)]) :: (a4_57, Ar Z .int 0 zI) :: (a7_57, Ar Z .int 0 (cpy zI zI 0 0 0)) :: (a10_57, Ar Z .int 16 (upd zI 0 (kI (-1)))) :: (a13_57, Ar Z .int 17 (upd zI 1 (kI 1))) :: (a16_57, Ar Z .int 17 (upd zI 1 (kI 0))) :: (a19_57, Ar Z .int 16 (upd zI 0 (kI (-1)))) :: (a22_57, Ar Z .int 17 (upd zI 1 (kI 0))) :: (a25_57, Ar Z .int 17 (upd (upd zI 0 (kI 0)) 1 (kI 0))) :: (a28_57, Ar Z .int 17 (upd (upd zI 0 (kI 0)) 1 (kI 0))) :: (a31_57, Ar Z .int 17 (upd (upd zI 0 (kI 0)) 1 (kI 1))) :: (a34_57, Ar Z .int 16 (cpy zI zI 0 0 0)) :: (a37_57, Ar Z .int 16 (cpy zI zI 0 0 0)) :: (a40_57, Ar Z .int 64 (cpy (upd zI 0 (kI 0)) zI 0 0 1)) :: (a43_57, Ar Z .double 64 (cpy (upd zD 0 (kD 4607182418800017408)) zD 0 0 1)) :: (a4_61, Ar Z .int 2 (upd zI 0 (kI 0))) :: (a10_61, Ar Z .int 2 (upd zI 0 (kI 0))) :: (a16_61, Ar Z .int 2 (upd zI 0 (kI 0))) :: (a7_61, Ar Z .int 2 zI) :: (a13_61, Ar Z .int 2 zI) :: (a19_61, Ar Z .int 4 (upd zI 0 (kI 0))) :: (a22_61, Ar Z .double 4 (upd zD 0 (kD 4607182418800017408))) :: (a53, Ar Z .int 0 zI) :: (a49, Ar Z .double 1 (upd zD 0 (kD 4602678819172646912))) :: (a35, Ar Z .double 4 (upd (upd (upd (upd zD 0 (kD dz37)) 1 (kD dz40)) 2 (kD dz43)) 3 (kD dz46))) :: (a21, Ar Z .double 4 (upd (upd (upd (upd zD 0 (kD dz23)) 1 (kD dz26)) 2 (kD dz29)) 3 (kD dz32))) :: (a7, Ar Z .double 4 (upd (upd (upd (upd zD 0 (kD dz9)) 1 (kD dz12)) 2 (kD dz15)) 3 (kD dz18))) :: []) T74.heap n0 W76) hZ (hw _ (mi 69 rfl)) (hw _ (mi 46 rfl)) (by decide) (by decide)) q77a q77c (g := K75.g) rfl (by rw [hml]; rfl) (Steps.refl _) (argsL := [.null, (.int (0 : Int32)), (.ref a7), (.int (Int32.ofNat u))]) (rest := []) (lenOf pd_st rfl) rfl (by show 2 * 0 + _ ≤ _; exact Nat.le_of_eq rfl) (hb hby at_231) (fun _ _ => ⟨rfl, (rfl : T74.heap = T74.heap), (by decide : 28 + 0 ≤ _), (by decide : 370 + 0 ≤ _)⟩)
    dsimp only [Pt.U, Pt.locs, Pt.cells, Pt.slots] at X77 l77 y77 z77 st77 hQ77
    subst l77 y77 z77
    obtain ⟨rfl, N77q, W77⟩ := hQ77
    have N77 := Fr.app N74 N77q
    have K78 : Rc K0 T77 (mkF m 236 #[sI p1, sI p2, sI p3, sI p4, sI (Int32.ofNat u), sI (own_bi fb), sI (own_bi ab), sR a7, sR a21, sR a35, sR a49, sR a53, sR a55, sR a59, sI 1, sU, sU] [(kR a59)]) := fun t k => K75 t (st77.trans (XS.aload X77.here hx rfl (hb hby at_234) rfl rfl k))
    have W79 : Wo n0 T77.heap [(a59, oB Z [.null, (kI 0), (kR a7), (kI (Int32.ofNat u)), (kR a4_61), (kR a7_61), (kR a10_61), (kR a13_61), (kR a16_61), (kR a19_61), (kR a22_61), (kI 0), (kI 0), (kI 0), (kI 0), .null]), (a4_61, Ar Z .int 2 (upd zI 0 (kI 0))), (a10_61, Ar Z .int 2 (upd zI 0 (kI 0))), (a16_61, Ar Z .int 2 (upd zI 0 (kI 0))), (a55, oR Z [(kR a4_57), (kR a7_57), (kR a10_57), (kR a13_57), (kR a16_57), (kR a19_57), (kR a22_57), (kR a25_57), (kR a28_57), (kR a31_57), (kR a34_57), (kR a37_57), (kR a40_57), (kR a43_57), (kI 1), .null, (kI 1), .null, .null, .null, .null, .null, .null, (kI 0), (kI 0)]), (a4_57, Ar Z .int 0 zI), (a7_57, Ar Z .int 0 (cpy zI zI 0 0 0)), (a10_57, Ar Z .int 16 (upd zI 0 (kI (-1)))), (a13_57, Ar Z .int 17 (upd zI 1 (kI 1))), (a16_57, Ar Z .int 17 (upd zI 1 (kI 0))), (a19_57, Ar Z .int 16 (upd zI 0 (kI (-1)))), (a22_57, Ar Z .int 17 (upd zI 1 (kI 0))), (a25_57, Ar Z .int 17 (upd (upd zI 0 (kI 0)) 1 (kI 0))), (a28_57, Ar Z .int 17 (upd (upd zI 0 (kI 0)) 1 (kI 0))), (a31_57, Ar Z .int 17 (upd (upd zI 0 (kI 0)) 1 (kI 1))), (a34_57, Ar Z .int 16 (cpy zI zI 0 0 0)), (a37_57, Ar Z .int 16 (cpy zI zI 0 0 0)), (a40_57, Ar Z .int 64 (cpy (upd zI 0 (kI 0)) zI 0 0 1)), (a43_57, Ar Z .double 64 (cpy (upd zD 0 (kD 4607182418800017408)) zD 0 0 1)), (a7_61, Ar Z .int 2 zI), (a13_61, Ar Z .int 2 zI), (a19_61, Ar Z .int 4 (upd zI 0 (kI 0))), (a22_61, Ar Z .double 4 (upd zD 0 (kD 4607182418800017408))), (a53, Ar Z .int 0 zI), (a49, Ar Z .double 1 (upd zD 0 (kD 4602678819172646912))), (a35, Ar Z .double 4 (upd (upd (upd (upd zD 0 (kD dz37)) 1 (kD dz40)) 2 (kD dz43)) 3 (kD dz46))), (a21, Ar Z .double 4 (upd (upd (upd (upd zD 0 (kD dz23)) 1 (kD dz26)) 2 (kD dz29)) 3 (kD dz32))), (a7, Ar Z .double 4 (upd (upd (upd (upd zD 0 (kD dz9)) 1 (kD dz12)) 2 (kD dz15)) 3 (kD dz18)))] := Wo.pick W77 [0, 16, 17, 18, 1, 2, 3, 4, 5, 6, 7, 8, 9, 10, 11, 12, 13, 14, 15, 19, 20, 21, 22, 23, 24, 25, 26, 27] 28 (by decide +kernel) rfl
    obtain ⟨cq80, kq80, q80a, q80b, q80c⟩ := isOf hZ (rfl : T77.heap = T77.heap) (W79.exa (i := 0) rfl)
    obtain ⟨_, _, ⟨T80, L80, k80, n80⟩, -, X80, ⟨Lc80, hQ80, l80, y80, z80⟩, st80⟩ := X77.virtualBack hx (y := y_sc) (z := y_sc) hown (mvT hZ (hw _ (mi 88 rfl))) (mvT hZ (hw _ (mi 89 rfl))) (notFace_of_selects (args := #[]) (mvT hZ (hw _ (mi 91 rfl)))) (mvT hZ (hw _ (mi 91 rfl))) (mvT hZ (hw _ (mi 90 rfl))) (by decide) (backOf (W := 0) (rmSCv l Z a0 hw [] a59 a4_61 a7_61 a10_61 a13_61 a16_61 a19_61 a22_61 a7 (Int32.ofNat u) (upd zI 0 (kI 0)) (upd zI 0 (kI 0)) (upd zI 0 (kI 0)) ((a55, oR Z [(kR a4_57), (kR a7_57), (kR a10_57), (kR a13_57), (kR a16_57), (kR a19_57), (kR a22_57), (kR a25_57), (kR a28_57), (kR a31_57), (kR a34_57), (kR a37_57), (kR a40_57), (kR a43_57), (kI 1), .null, (kI 1), .null, .null, .null, .null, .null, .null, (kI 0), (kI 0)]) :: (a4_57, Ar Z .int 0 zI) :: (a7_57, Ar Z .int 0 (cpy zI zI 0 0 0)) :: (a10_57, Ar Z .int 16 (upd zI 0 (kI (-1)))) :: (a13_57, Ar Z .int 17 (upd zI 1 (kI 1))) :: (a16_57, Ar Z .int 17 (upd zI 1 (kI 0))) :: (a19_57, Ar Z .int 16 (upd zI 0 (kI (-1)))) :: (a22_57, Ar Z .int 17 (upd zI 1 (kI 0))) :: (a25_57, Ar Z .int 17 (upd (upd zI 0 (kI 0)) 1 (kI 0))) :: (a28_57, Ar Z .int 17 (upd (upd zI 0 (kI 0)) 1 (kI 0))) :: (a31_57, Ar Z .int 17 (upd (upd zI 0 (kI 0)) 1 (kI 1))) :: (a34_57, Ar Z .int 16 (cpy zI zI 0 0 0)) :: (a37_57, Ar Z .int 16 (cpy zI zI 0 0 0)) :: (a40_57, Ar Z .int 64 (cpy (upd zI 0 (kI 0)) zI 0 0 1)) :: (a43_57, Ar Z .double 64 (cpy (upd zD 0 (kD 4607182418800017408)) zD 0 0 1)) :: (a7_61, Ar Z .int 2 zI) :: (a13_61, Ar Z .int 2 zI) :: (a19_61, Ar Z .int 4 (upd zI 0 (kI 0))) :: (a22_61, Ar Z .double 4 (upd zD 0 (kD 4607182418800017408))) :: (a53, Ar Z .int 0 zI) :: (a49, Ar Z .double 1 (upd zD 0 (kD 4602678819172646912))) :: (a35, Ar Z .double 4 (upd (upd (upd (upd zD 0 (kD dz37)) 1 (kD dz40)) 2 (kD dz43)) 3 (kD dz46))) :: (a21, Ar Z .double 4 (upd (upd (upd (upd zD 0 (kD dz23)) 1 (kD dz26)) 2 (kD dz29)) 3 (kD dz32))) :: (a7, Ar Z .double 4 (upd (upd (upd (upd zD 0 (kD dz9)) 1 (kD dz12)) 2 (kD dz15)) 3 (kD dz18))) :: []) T77.heap n0 W79) hZ (hw _ (mi 92 rfl)) (hw _ (mi 46 rfl)) (by decide) (by decide)) q80a q80c (g := K78.g) rfl (by rw [hml]; rfl) (Steps.refl _) (argsL := []) (rest := []) (lenOf pd_sc rfl) rfl (by show 2 * 0 + _ ≤ _; exact Nat.le_of_eq rfl) (hb hby at_236) (fun _ _ => ⟨rfl, (rfl : T77.heap = T77.heap), (by decide : 28 + 0 ≤ _), (by decide : 370 + 0 ≤ _)⟩)
    dsimp only [Pt.U, Pt.locs, Pt.cells, Pt.slots] at X80 l80 y80 z80 st80 hQ80
    subst l80 y80 z80
    obtain ⟨rfl, N80q, W80⟩ := hQ80
    have N80 := Fr.app N77 N80q
    have K81 : Rc K0 T80 (mkF m 243 #[sI p1, sI p2, sI p3, sI p4, sI (Int32.ofNat u), sI (own_bi fb), sI (own_bi ab), sR a7, sR a21, sR a35, sR a49, sR a53, sR a55, sR a59, sI 1, sU, sU] [(kD 4607182418800017408), (kI 0), (kR a59)]) := fun t k => K78 t (st80.trans (by
      refine XS.aload X80.here hx rfl (hb hby at_239) rfl rfl ?_
      refine XS.iconst X80.here hx rfl (hb hby at_241) ?_
      refine XS.dconst1 X80.here hx rfl (hb hby at_242) rfl ?_
      exact k))
    have W82 : Wo n0 T80.heap [(a59, oB Z [.null, (kI 0), (kR a7), (kI (Int32.ofNat u)), (kR a4_61), (kR a7_61), (kR a10_61), (kR a13_61), (kR a16_61), (kR a19_61), (kR a22_61), (kI 1), (kI 0), (kI 0), (kI 0), .null]), (a16_61, Ar Z .int 2 (upd (upd zI 0 (kI 0)) 0 (kI 0))), (a19_61, Ar Z .int 4 (upd zI 0 (kI 0))), (a22_61, Ar Z .double 4 (upd zD 0 (kD 4607182418800017408))), (a4_61, Ar Z .int 2 (upd (upd zI 0 (kI 0)) 0 (kI 0))), (a10_61, Ar Z .int 2 (upd (upd zI 0 (kI 0)) 0 (kI 0))), (a55, oR Z [(kR a4_57), (kR a7_57), (kR a10_57), (kR a13_57), (kR a16_57), (kR a19_57), (kR a22_57), (kR a25_57), (kR a28_57), (kR a31_57), (kR a34_57), (kR a37_57), (kR a40_57), (kR a43_57), (kI 1), .null, (kI 1), .null, .null, .null, .null, .null, .null, (kI 0), (kI 0)]), (a4_57, Ar Z .int 0 zI), (a7_57, Ar Z .int 0 (cpy zI zI 0 0 0)), (a10_57, Ar Z .int 16 (upd zI 0 (kI (-1)))), (a13_57, Ar Z .int 17 (upd zI 1 (kI 1))), (a16_57, Ar Z .int 17 (upd zI 1 (kI 0))), (a19_57, Ar Z .int 16 (upd zI 0 (kI (-1)))), (a22_57, Ar Z .int 17 (upd zI 1 (kI 0))), (a25_57, Ar Z .int 17 (upd (upd zI 0 (kI 0)) 1 (kI 0))), (a28_57, Ar Z .int 17 (upd (upd zI 0 (kI 0)) 1 (kI 0))), (a31_57, Ar Z .int 17 (upd (upd zI 0 (kI 0)) 1 (kI 1))), (a34_57, Ar Z .int 16 (cpy zI zI 0 0 0)), (a37_57, Ar Z .int 16 (cpy zI zI 0 0 0)), (a40_57, Ar Z .int 64 (cpy (upd zI 0 (kI 0)) zI 0 0 1)), (a43_57, Ar Z .double 64 (cpy (upd zD 0 (kD 4607182418800017408)) zD 0 0 1)), (a7_61, Ar Z .int 2 zI), (a13_61, Ar Z .int 2 zI), (a53, Ar Z .int 0 zI), (a49, Ar Z .double 1 (upd zD 0 (kD 4602678819172646912))), (a35, Ar Z .double 4 (upd (upd (upd (upd zD 0 (kD dz37)) 1 (kD dz40)) 2 (kD dz43)) 3 (kD dz46))), (a21, Ar Z .double 4 (upd (upd (upd (upd zD 0 (kD dz23)) 1 (kD dz26)) 2 (kD dz29)) 3 (kD dz32))), (a7, Ar Z .double 4 (upd (upd (upd (upd zD 0 (kD dz9)) 1 (kD dz12)) 2 (kD dz15)) 3 (kD dz18)))] := Wo.pick W80 [0, 3, 21, 22, 1, 2, 4, 5, 6, 7, 8, 9, 10, 11, 12, 13, 14, 15, 16, 17, 18, 19, 20, 23, 24, 25, 26, 27] 28 (by decide +kernel) rfl
    obtain ⟨cq83, kq83, q83a, q83b, q83c⟩ := isOf hZ (rfl : T80.heap = T80.heap) (W82.exa (i := 0) rfl)
    obtain ⟨_, _, ⟨T83, L83, k83, n83⟩, -, X83, ⟨Lc83, hQ83, l83, y83, z83⟩, st83⟩ := X80.virtualBack hx (y := y_am) (z := y_am) hown (mvT hZ (hw _ (mi 93 rfl))) (mvT hZ (hw _ (mi 94 rfl))) (notFace_of_selects (args := #[]) (mvT hZ (hw _ (mi 96 rfl)))) (mvT hZ (hw _ (mi 96 rfl))) (mvT hZ (hw _ (mi 95 rfl))) (by decide) (backOf (W := 0) (rmAMv l Z a0 hw [] a59 a4_61 a7_61 a10_61 a13_61 a16_61 a19_61 a22_61 a7 (Int32.ofNat u) (upd (upd zI 0 (kI 0)) 0 (kI 0)) (upd zI 0 (kI 0)) (upd zD 0 (kD 4607182418800017408)) ((a4_61, Ar Z .int 2 (upd (upd zI 0 (kI 0)) 0 (kI 0))) :: (a10_61, Ar Z .int 2 (upd (upd zI 0 (kI 0)) 0 (kI 0))) :: (a55, oR Z [(kR a4_57), (kR a7_57), (kR a10_57), (kR a13_57), (kR a16_57), (kR a19_57), (kR a22_57), (kR a25_57), (kR a28_57), (kR a31_57), (kR a34_57), (kR a37_57), (kR a40_57), (kR a43_57), (kI 1), .null, (kI 1), .null, .null, .null, .null, .null, .null, (kI 0), (kI 0)]) :: (a4_57, Ar Z .int 0 zI) :: (a7_57, Ar Z .int 0 (cpy zI zI 0 0 0)) :: (a10_57, Ar Z .int 16 (upd zI 0 (kI (-1)))) :: (a13_57, Ar Z .int 17 (upd zI 1 (kI 1))) :: (a16_57, Ar Z .int 17 (upd zI 1 (kI 0))) :: (a19_57, Ar Z .int 16 (upd zI 0 (kI (-1)))) :: (a22_57, Ar Z .int 17 (upd zI 1 (kI 0))) :: (a25_57, Ar Z .int 17 (upd (upd zI 0 (kI 0)) 1 (kI 0))) :: (a28_57, Ar Z .int 17 (upd (upd zI 0 (kI 0)) 1 (kI 0))) :: (a31_57, Ar Z .int 17 (upd (upd zI 0 (kI 0)) 1 (kI 1))) :: (a34_57, Ar Z .int 16 (cpy zI zI 0 0 0)) :: (a37_57, Ar Z .int 16 (cpy zI zI 0 0 0)) :: (a40_57, Ar Z .int 64 (cpy (upd zI 0 (kI 0)) zI 0 0 1)) :: (a43_57, Ar Z .double 64 (cpy (upd zD 0 (kD 4607182418800017408)) zD 0 0 1)) :: (a7_61, Ar Z .int 2 zI) :: (a13_61, Ar Z .int 2 zI) :: (a53, Ar Z .int 0 zI) :: (a49, Ar Z .double 1 (upd zD 0 (kD 4602678819172646912))) :: (a35, Ar Z .double 4 (upd (upd (upd (upd zD 0 (kD dz37)) 1 (kD dz40)) 2 (kD dz43)) 3 (kD dz46))) :: (a21, Ar Z .double 4 (upd (upd (upd (upd zD 0 (kD dz23)) 1 (kD dz26)) 2 (kD dz29)) 3 (kD dz32))) :: (a7, Ar Z .double 4 (upd (upd (upd (upd zD 0 (kD dz9)) 1 (kD dz12)) 2 (kD dz15)) 3 (kD dz18))) :: []) T80.heap n0 W82 rfl) hZ (hw _ (mi 97 rfl)) (hw _ (mi 46 rfl)) (by decide) (by decide)) q83a q83c (g := K81.g) rfl (by rw [hml]; rfl) (Steps.refl _) (argsL := [(.int (0 : Int32)), (.double (4607182418800017408 : UInt64))]) (rest := []) (lenOf pd_am rfl) rfl (by show 2 * 0 + _ ≤ _; exact Nat.le_of_eq rfl) (hb hby at_243) (fun _ _ => ⟨rfl, (rfl : T80.heap = T80.heap), (by decide : 28 + 0 ≤ _), (by decide : 370 + 0 ≤ _)⟩)
    dsimp only [Pt.U, Pt.locs, Pt.cells, Pt.slots] at X83 l83 y83 z83 st83 hQ83
    subst l83 y83 z83
    obtain ⟨rfl, N83q, W83⟩ := hQ83
    have N83 := Fr.app N80 N83q
    have K84 : Rc K0 T83 (mkF m 254 #[sI p1, sI p2, sI p3, sI p4, sI (Int32.ofNat u), sI (own_bi fb), sI (own_bi ab), sR a7, sR a21, sR a35, sR a49, sR a53, sR a55, sR a59, sI 1, sU, sU] [(kI (-1)), (kR a53), (kR a59), (kR a55)]) := fun t k => K81 t (st83.trans (by
      refine XS.pop X83.here hx rfl (hb hby at_246) rfl rfl ?_
      refine XS.aload X83.here hx rfl (hb hby at_247) rfl rfl ?_
      refine XS.aload X83.here hx rfl (hb hby at_249) rfl rfl ?_
      refine XS.aload X83.here hx rfl (hb hby at_251) rfl rfl ?_
      refine XS.iconst X83.here hx rfl (hb hby at_253) ?_
      exact k))
    have W85 : Wo n0 T83.heap [(a55, oR Z [(kR a4_57), (kR a7_57), (kR a10_57), (kR a13_57), (kR a16_57), (kR a19_57), (kR a22_57), (kR a25_57), (kR a28_57), (kR a31_57), (kR a34_57), (kR a37_57), (kR a40_57), (kR a43_57), (kI 1), .null, (kI 1), .null, .null, .null, .null, .null, .null, (kI 0), (kI 0)]), (a59, oB Z [.null, (kI 0), (kR a7), (kI (Int32.ofNat u)), (kR a4_61), (kR a7_61), (kR a10_61), (kR a13_61), (kR a16_61), (kR a19_61), (kR a22_61), (kI 1), (kI 0), (kI 0), (kI 1), .null]), (a4_57, Ar Z .int 0 zI), (a7_57, Ar Z .int 0 (cpy zI zI 0 0 0)), (a10_57, Ar Z .int 16 (upd zI 0 (kI (-1)))), (a13_57, Ar Z .int 17 (upd zI 1 (kI 1))), (a16_57, Ar Z .int 17 (upd zI 1 (kI 0))), (a19_57, Ar Z .int 16 (upd zI 0 (kI (-1)))), (a22_57, Ar Z .int 17 (upd zI 1 (kI 0))), (a25_57, Ar Z .int 17 (upd (upd zI 0 (kI 0)) 1 (kI 0))), (a28_57, Ar Z .int 17 (upd (upd zI 0 (kI 0)) 1 (kI 0))), (a31_57, Ar Z .int 17 (upd (upd zI 0 (kI 0)) 1 (kI 1))), (a34_57, Ar Z .int 16 (cpy zI zI 0 0 0)), (a37_57, Ar Z .int 16 (cpy zI zI 0 0 0)), (a40_57, Ar Z .int 64 (cpy (upd zI 0 (kI 0)) zI 0 0 1)), (a43_57, Ar Z .double 64 (cpy (upd zD 0 (kD 4607182418800017408)) zD 0 0 1)), (a4_61, Ar Z .int 2 (upd (upd zI 0 (kI 0)) 0 (kI 0))), (a10_61, Ar Z .int 2 (upd (upd zI 0 (kI 0)) 0 (kI 0))), (a16_61, Ar Z .int 2 (upd (upd zI 0 (kI 0)) 0 (kI 0))), (a7_61, Ar Z .int 2 zI), (a13_61, Ar Z .int 2 zI), (a19_61, Ar Z .int 4 (upd (upd zI 0 (kI 0)) 0 (kI 0))), (a22_61, Ar Z .double 4 (upd (upd zD 0 (kD 4607182418800017408)) 0 (kD 4607182418800017408))), (a53, Ar Z .int 0 zI), (a7, Ar Z .double 4 (upd (upd (upd (upd zD 0 (kD dz9)) 1 (kD dz12)) 2 (kD dz15)) 3 (kD dz18))), (a49, Ar Z .double 1 (upd zD 0 (kD 4602678819172646912))), (a35, Ar Z .double 4 (upd (upd (upd (upd zD 0 (kD dz37)) 1 (kD dz40)) 2 (kD dz43)) 3 (kD dz46))), (a21, Ar Z .double 4 (upd (upd (upd (upd zD 0 (kD dz23)) 1 (kD dz26)) 2 (kD dz29)) 3 (kD dz32)))] := Wo.pick W83 [6, 0, 7, 8, 9, 10, 11, 12, 13, 14, 15, 16, 17, 18, 19, 20, 4, 5, 1, 21, 22, 2, 3, 23, 27, 24, 25, 26] 28 (by decide +kernel) rfl
    obtain ⟨cq86, kq86, q86a, q86b, q86c⟩ := isOf hZ (rfl : T83.heap = T83.heap) (W85.exa (i := 0) rfl)
    obtain ⟨_, _, ⟨T86, L86, k86, n86⟩, -, X86, ⟨Lc86, hQ86, l86, y86, z86⟩, st86⟩ := X83.virtualBack hx (y := y_add) (z := y_add) hown (mvT hZ (hw _ (mi 98 rfl))) (mvT hZ (hw _ (mi 99 rfl))) (notFace_of_selects (args := #[]) (mvT hZ (hw _ (mi 101 rfl)))) (mvT hZ (hw _ (mi 101 rfl))) (mvT hZ (hw _ (mi 100 rfl))) (by decide) (backOf (W := 0) (rmADV1 l Z a0 hw [] a55 a4_57 a7_57 a10_57 a13_57 a16_57 a19_57 a22_57 a25_57 a28_57 a31_57 a34_57 a37_57 a40_57 a43_57 a59 a4_61 a7_61 a10_61 a13_61 a16_61 a19_61 a22_61 a53 a7 u zI (cpy zI zI 0 0 0) (upd zI 0 (kI (-1))) (upd zI 1 (kI 1)) (upd zI 1 (kI 0)) (upd zI 0 (kI (-1))) (upd zI 1 (kI 0)) (upd (upd zI 0 (kI 0)) 1 (kI 0)) (upd (upd zI 0 (kI 0)) 1 (kI 0)) (upd (upd zI 0 (kI 0)) 1 (kI 1)) (cpy zI zI 0 0 0) (cpy zI zI 0 0 0) (cpy (upd zI 0 (kI 0)) zI 0 0 1) (cpy (upd zD 0 (kD 4607182418800017408)) zD 0 0 1) (upd (upd zI 0 (kI 0)) 0 (kI 0)) (upd (upd zI 0 (kI 0)) 0 (kI 0)) (upd (upd zI 0 (kI 0)) 0 (kI 0)) zI zI (upd (upd zI 0 (kI 0)) 0 (kI 0)) (upd (upd zD 0 (kD 4607182418800017408)) 0 (kD 4607182418800017408)) zI (upd (upd (upd (upd zD 0 (kD dz9)) 1 (kD dz12)) 2 (kD dz15)) 3 (kD dz18)) ((a49, Ar Z .double 1 (upd zD 0 (kD 4602678819172646912))) :: (a35, Ar Z .double 4 (upd (upd (upd (upd zD 0 (kD dz37)) 1 (kD dz40)) 2 (kD dz43)) 3 (kD dz46))) :: (a21, Ar Z .double 4 (upd (upd (upd (upd zD 0 (kD dz23)) 1 (kD dz26)) 2 (kD dz29)) 3 (kD dz32))) :: []) T83.heap n0 W85 (by omega) (by omega) rfl rfl rfl rfl rfl rfl rfl rfl rfl) hZ (hw _ (mi 102 rfl)) (hw _ (mi 9 rfl)) (by decide) (by decide)) q86a q86c (g := K84.g) rfl (by rw [hml]; rfl) (Steps.refl _) (argsL := [(.ref a59), (.ref a53), (.int (-1 : Int32))]) (rest := []) (lenOf pd_add rfl) rfl (by show 2 * 0 + _ ≤ _; exact Nat.le_of_eq rfl) (hb hby at_254) (fun _ _ => ⟨rfl, (rfl : T83.heap = T83.heap), (by decide : 28 + 8 ≤ _), (by decide : 370 + 92 ≤ _)⟩)
    dsimp only [Pt.U, Pt.locs, Pt.cells, Pt.slots] at X86 l86 y86 z86 st86 hQ86
    subst l86 y86 z86
    obtain ⟨a40_138_86, a50_138_86, a6_138_86, a9_138_86, a12_138_86, a15_138_86, a18_138_86, a21_138_86, rfl, N86q, W86⟩ := hQ86
    have N86 := Fr.app N83 N86q
    have K87 : Rc K0 T86 (mkF m 260 #[sI p1, sI p2, sI p3, sI p4, sI (Int32.ofNat u), sI (own_bi fb), sI (own_bi ab), sR a7, sR a21, sR a35, sR a49, sR a53, sR a55, sR a59, sI 1, sU, sU] [(kI (own_bi ab))]) := fun t k => K84 t (st86.trans (by
      refine XS.pop X86.here hx rfl (hb hby at_257) rfl rfl ?_
      refine XS.iload X86.here hx rfl (hb hby at_258) rfl ?_
      exact k))
    by_cases ha : ab = true
    · have hab := ha
      have K88 : Rc K0 T86 (mkF m 273 #[sI p1, sI p2, sI p3, sI p4, sI (Int32.ofNat u), sI (own_bi fb), sI (own_bi ab), sR a7, sR a21, sR a35, sR a49, sR a53, sR a55, sR a59, sI 1, sU, sU] [(kI (Int32.ofNat u)), (kR a21), (kR a49), (kI 1), (kR a55)]) := fun t k => K87 t (by
        refine XS.ifNo X86.here hx rfl (hb hby at_260) rfl ((if0 _ _).trans (feq (show ¬ (own_bi ab = 0) from by rw [hab]; decide)).1) ?_
        refine XS.aload X86.here hx rfl (hb hby at_263) rfl rfl ?_
        refine XS.iload X86.here hx rfl (hb hby at_265) rfl ?_
        refine XS.aload X86.here hx rfl (hb hby at_267) rfl rfl ?_
        refine XS.aload X86.here hx rfl (hb hby at_269) rfl rfl ?_
        refine XS.iload X86.here hx rfl (hb hby at_271) rfl ?_
        exact k)
      have W89 : Wo n0 T86.heap [(a55, oR Z [(kR a4_57), (kR a7_57), (kR a10_57), (kR a13_57), (kR a16_57), (kR a19_57), (kR a22_57), (kR a25_57), (kR a28_57), (kR a31_57), (kR a34_57), (kR a37_57), (kR a40_57), (kR a43_57), (kI 2), (kR a6_138_86), (kI 2), (kR a9_138_86), (kR a12_138_86), (kR a15_138_86), (kR a18_138_86), (kR a21_138_86), (kR a40_138_86), (kI 2), (kI (Int32.ofNat (u + 1)))]), (a31_57, Ar Z .int 17 (upd (upd (upd (upd zI 0 (kI 0)) 1 (kI 1)) 1 (kI 1)) 2 (kI 2))), (a13_57, Ar Z .int 17 (upd (upd zI 1 (kI 1)) 2 (kI 2))), (a40_138_86, Pg Z .double 4 (upd (upd zN 0 (kR a43_57)) 1 (kR a50_138_86))), (a50_138_86, Ar Z .double 64 (cpy (upd (upd zD 0 (kD 4607182418800017408)) 0 (kD 4607182418800017408)) (cpy (upd (upd (upd (upd zD 0 (kD dz9)) 1 (kD dz12)) 2 (kD dz15)) 3 (kD dz18)) zD 0 0 u) 0 u 1)), (a6_138_86, Ar Z .int 4 (upd (upd (upd zI 0 (kI 0)) 1 (kI (-1))) 1 (kI 1))), (a9_138_86, Ar Z .int 4 (upd (upd zI 0 (kI 0)) 1 (kI 1))), (a12_138_86, Ar Z .int 4 (upd (upd zI 0 (kI (-1))) 1 (kI (-1)))), (a15_138_86, Ar Z .int 4 (upd zI 1 (kI 1))), (a18_138_86, Ar Z .int 4 (upd zI 1 (kI ((Int32.ofNat u) - (1 : Int32))))), (a21_138_86, Ar Z .int 4 (upd zI 1 (kI (Int32.ofNat u)))), (a21, Ar Z .double 4 (upd (upd (upd (upd zD 0 (kD dz23)) 1 (kD dz26)) 2 (kD dz29)) 3 (kD dz32))), (a49, Ar Z .double 1 (upd zD 0 (kD 4602678819172646912))), (a7, Ar Z .double 4 (upd (upd (upd (upd zD 0 (kD dz9)) 1 (kD dz12)) 2 (kD dz15)) 3 (kD dz18))), (a22_61, Ar Z .double 4 (upd (upd zD 0 (kD 4607182418800017408)) 0 (kD 4607182418800017408))), (a43_57, Ar Z .double 64 (cpy (upd zD 0 (kD 4607182418800017408)) zD 0 0 1)), (a59, oB Z [.null, (kI 0), (kR a7), (kI (Int32.ofNat u)), (kR a4_61), (kR a7_61), (kR a10_61), (kR a13_61), (kR a16_61), (kR a19_61), (kR a22_61), (kI 1), (kI 0), (kI 0), (kI 1), .null]), (a4_57, Ar Z .int 0 zI), (a7_57, Ar Z .int 0 (cpy zI (cpy zI zI 0 0 0) 0 0 0)), (a10_57, Ar Z .int 16 (upd (upd zI 0 (kI (-1))) 1 (kI (-1)))), (a16_57, Ar Z .int 17 (upd (upd zI 1 (kI 0)) 2 (kI 0))), (a19_57, Ar Z .int 16 (upd (upd zI 0 (kI (-1))) 1 (kI (-1)))), (a22_57, Ar Z .int 17 (upd (upd zI 1 (kI 0)) 2 (kI 0))), (a25_57, Ar Z .int 17 (upd (upd (upd (upd zI 0 (kI 0)) 1 (kI 0)) 1 (kI 0)) 2 (kI 0))), (a28_57, Ar Z .int 17 (upd (upd (upd (upd zI 0 (kI 0)) 1 (kI 0)) 1 (kI 0)) 2 (kI 0))), (a34_57, Ar Z .int 16 (cpy zI (cpy zI zI 0 0 0) 0 0 0)), (a37_57, Ar Z .int 16 (cpy zI (cpy zI zI 0 0 0) 0 0 0)), (a40_57, Ar Z .int 64 (cpy (upd (upd zI 0 (kI 0)) 0 (kI 0)) (cpy (upd zI 0 (kI 0)) zI 0 0 1) 0 1 1)), (a4_61, Ar Z .int 2 (upd (upd zI 0 (kI 0)) 0 (kI 0))), (a10_61, Ar Z .int 2 (upd (upd zI 0 (kI 0)) 0 (kI 0))), (a16_61, Ar Z .int 2 (upd (upd zI 0 (kI 0)) 0 (kI 0))), (a7_61, Ar Z .int 2 zI), (a13_61, Ar Z .int 2 zI), (a19_61, Ar Z .int 4 (upd (upd zI 0 (kI 0)) 0 (kI 0))), (a53, Ar Z .int 0 zI), (a35, Ar Z .double 4 (upd (upd (upd (upd zD 0 (kD dz37)) 1 (kD dz40)) 2 (kD dz43)) 3 (kD dz46)))] := Wo.pick W86 [0, 1, 2, 3, 4, 5, 6, 7, 8, 9, 10, 35, 33, 11, 12, 13, 14, 15, 16, 17, 18, 19, 20, 21, 22, 23, 24, 25, 26, 27, 28, 29, 30, 31, 32, 34] 36 (by decide +kernel) rfl
      obtain ⟨cq90, kq90, q90a, q90b, q90c⟩ := isOf hZ (rfl : T86.heap = T86.heap) (W89.exa (i := 0) rfl)
      obtain ⟨_, _, ⟨T90, L90, k90, n90⟩, -, X90, ⟨Lc90, hQ90, l90, y90, z90⟩, st90⟩ := X86.virtualBack hx (y := y_ts) (z := y_ts) hown (mvT hZ (hw _ (mi 191 rfl))) (mvT hZ (hw _ (mi 192 rfl))) (notFace_of_selects (args := #[]) (mvT hZ (hw _ (mi 194 rfl)))) (mvT hZ (hw _ (mi 194 rfl))) (mvT hZ (hw _ (mi 193 rfl))) (by decide) (backOf (W := 0) (rmTS12 l Z a0 hw [] a55 a4_57 a7_57 a10_57 a13_57 a16_57 a19_57 a22_57 a25_57 a28_57 a31_57 a34_57 a37_57 a40_57 a43_57 a6_138_86 a9_138_86 a12_138_86 a15_138_86 a18_138_86 a21_138_86 a40_138_86 a50_138_86 a21 a49 u (upd (upd (upd (upd zI 0 (kI 0)) 1 (kI 1)) 1 (kI 1)) 2 (kI 2)) (upd (upd zI 1 (kI 1)) 2 (kI 2)) (upd (upd zN 0 (kR a43_57)) 1 (kR a50_138_86)) (cpy (upd (upd zD 0 (kD 4607182418800017408)) 0 (kD 4607182418800017408)) (cpy (upd (upd (upd (upd zD 0 (kD dz9)) 1 (kD dz12)) 2 (kD dz15)) 3 (kD dz18)) zD 0 0 u) 0 u 1) (upd (upd (upd zI 0 (kI 0)) 1 (kI (-1))) 1 (kI 1)) (upd (upd zI 0 (kI 0)) 1 (kI 1)) (upd (upd zI 0 (kI (-1))) 1 (kI (-1))) (upd zI 1 (kI 1)) (upd zI 1 (kI ((Int32.ofNat u) - (1 : Int32)))) (upd zI 1 (kI (Int32.ofNat u))) (upd (upd (upd (upd zD 0 (kD dz23)) 1 (kD dz26)) 2 (kD dz29)) 3 (kD dz32)) (upd zD 0 (kD 4602678819172646912)) ((a7, Ar Z .double 4 (upd (upd (upd (upd zD 0 (kD dz9)) 1 (kD dz12)) 2 (kD dz15)) 3 (kD dz18))) :: (a22_61, Ar Z .double 4 (upd (upd zD 0 (kD 4607182418800017408)) 0 (kD 4607182418800017408))) :: (a43_57, Ar Z .double 64 (cpy (upd zD 0 (kD 4607182418800017408)) zD 0 0 1)) :: (a59, oB Z [.null, (kI 0), (kR a7), (kI (Int32.ofNat u)), (kR a4_61), (kR a7_61), (kR a10_61), (kR a13_61), (kR a16_61), (kR a19_61), (kR a22_61), (kI 1), (kI 0), (kI 0), (kI 1), .null]) :: (a4_57, Ar Z .int 0 zI) :: (a7_57, Ar Z .int 0 (cpy zI (cpy zI zI 0 0 0) 0 0 0)) :: (a10_57, Ar Z .int 16 (upd (upd zI 0 (kI (-1))) 1 (kI (-1)))) :: (a16_57, Ar Z .int 17 (upd (upd zI 1 (kI 0)) 2 (kI 0))) :: (a19_57, Ar Z .int 16 (upd (upd zI 0 (kI (-1))) 1 (kI (-1)))) :: (a22_57, Ar Z .int 17 (upd (upd zI 1 (kI 0)) 2 (kI 0))) :: (a25_57, Ar Z .int 17 (upd (upd (upd (upd zI 0 (kI 0)) 1 (kI 0)) 1 (kI 0)) 2 (kI 0))) :: (a28_57, Ar Z .int 17 (upd (upd (upd (upd zI 0 (kI 0)) 1 (kI 0)) 1 (kI 0)) 2 (kI 0))) :: (a34_57, Ar Z .int 16 (cpy zI (cpy zI zI 0 0 0) 0 0 0)) :: (a37_57, Ar Z .int 16 (cpy zI (cpy zI zI 0 0 0) 0 0 0)) :: (a40_57, Ar Z .int 64 (cpy (upd (upd zI 0 (kI 0)) 0 (kI 0)) (cpy (upd zI 0 (kI 0)) zI 0 0 1) 0 1 1)) :: (a4_61, Ar Z .int 2 (upd (upd zI 0 (kI 0)) 0 (kI 0))) :: (a10_61, Ar Z .int 2 (upd (upd zI 0 (kI 0)) 0 (kI 0))) :: (a16_61, Ar Z .int 2 (upd (upd zI 0 (kI 0)) 0 (kI 0))) :: (a7_61, Ar Z .int 2 zI) :: (a13_61, Ar Z .int 2 zI) :: (a19_61, Ar Z .int 4 (upd (upd zI 0 (kI 0)) 0 (kI 0))) :: (a53, Ar Z .int 0 zI) :: (a35, Ar Z .double 4 (upd (upd (upd (upd zD 0 (kD dz37)) 1 (kD dz40)) 2 (kD dz43)) 3 (kD dz46))) :: []) T86.heap n0 W89 (by omega) (by omega) rfl rfl rfl rfl rfl rfl) hZ (hw _ (mi 195 rfl)) (hw _ (mi 9 rfl)) (by decide) (by decide)) q90a q90c (g := K88.g) rfl (by rw [hml]; rfl) (Steps.refl _) (argsL := [(.int (1 : Int32)), (.ref a49), (.ref a21), (.int (Int32.ofNat u))]) (rest := []) (lenOf pd_ts rfl) rfl (by show 2 * 0 + _ ≤ _; exact Nat.le_of_eq rfl) (hb hby at_273) (fun _ _ => ⟨rfl, (rfl : T86.heap = T86.heap), (by decide : 36 + 0 ≤ _), (by decide : 462 + 0 ≤ _)⟩)
      dsimp only [Pt.U, Pt.locs, Pt.cells, Pt.slots] at X90 l90 y90 z90 st90 hQ90
      subst l90 y90 z90
      obtain ⟨rfl, N90q, W90⟩ := hQ90
      have N90 := Fr.app N86 N90q
      have K91 : Rc K0 T90 (mkF m 291 #[sI p1, sI p2, sI p3, sI p4, sI (Int32.ofNat u), sI (own_bi fb), sI (own_bi ab), sR a7, sR a21, sR a35, sR a49, sR a53, sR a55, sR a59, sI 1, sR a21, sU] []) := fun t k => K88 t (st90.trans (by
        refine XS.pop X90.here hx rfl (hb hby at_276) rfl rfl ?_
        refine XS.iload X90.here hx rfl (hb hby at_277) rfl ?_
        refine XS.ifNo X90.here hx rfl (hb hby at_279) rfl ((if0 _ _).trans (feq (show ¬ (own_bi ab = 0) from by rw [hab]; decide)).1) ?_
        refine XS.aload X90.here hx rfl (hb hby at_282) rfl rfl ?_
        refine XS.goto X90.here hx rfl (pc0 := 284) (pc' := 289) rfl (hb hby at_284) (by decide) (by decide) ?_
        refine XS.astore X90.here hx rfl (hb hby at_289) rfl rfl (l' := #[sI p1, sI p2, sI p3, sI p4, sI (Int32.ofNat u), sI (own_bi fb), sI (own_bi ab), sR a7, sR a21, sR a35, sR a49, sR a53, sR a55, sR a59, sI 1, sR a21, sU]) rfl ?_
        exact k))
      have W92 : Wo n0 T90.heap [(a21, Ar Z .double 4 (upd (upd (upd (upd zD 0 (kD dz23)) 1 (kD dz26)) 2 (kD dz29)) 3 (kD dz32))), (a35, Ar Z .double 4 (upd (upd (upd (upd zD 0 (kD dz37)) 1 (kD dz40)) 2 (kD dz43)) 3 (kD dz46))), (a55, oR Z [(kR a4_57), (kR a7_57), (kR a10_57), (kR a13_57), (kR a16_57), (kR a19_57), (kR a22_57), (kR a25_57), (kR a28_57), (kR a31_57), (kR a34_57), (kR a37_57), (kR a40_57), (kR a43_57), (kI 2), (kR a6_138_86), (kI 3), (kR a9_138_86), (kR a12_138_86), (kR a15_138_86), (kR a18_138_86), (kR a21_138_86), (kR a40_138_86), (kI 2), (kI (Int32.ofNat ((u + 1) + (u + 1))))]), (a31_57, Ar Z .int 17 (upd (upd (upd (upd zI 0 (kI 0)) 1 (kI 1)) 1 (kI 1)) 2 (kI 2))), (a13_57, Ar Z .int 17 (upd (upd zI 1 (kI 1)) 2 (kI 2))), (a40_138_86, Pg Z .double 4 (upd (upd zN 0 (kR a43_57)) 1 (kR a50_138_86))), (a50_138_86, Ar Z .double 64 (cpy (upd zD 0 (kD 4602678819172646912)) (cpy (upd (upd (upd (upd zD 0 (kD dz23)) 1 (kD dz26)) 2 (kD dz29)) 3 (kD dz32)) (cpy (upd (upd zD 0 (kD 4607182418800017408)) 0 (kD 4607182418800017408)) (cpy (upd (upd (upd (upd zD 0 (kD dz9)) 1 (kD dz12)) 2 (kD dz15)) 3 (kD dz18)) zD 0 0 u) 0 u 1) 0 (u + 1) u) 0 ((u + 1) + u) 1)), (a6_138_86, Ar Z .int 4 (upd (upd (upd (upd zI 0 (kI 0)) 1 (kI (-1))) 1 (kI 1)) 1 (kI 2))), (a9_138_86, Ar Z .int 4 (upd (upd (upd zI 0 (kI 0)) 1 (kI 1)) 2 (kI 1))), (a12_138_86, Ar Z .int 4 (upd (upd (upd zI 0 (kI (-1))) 1 (kI (-1))) 2 (kI 1))), (a15_138_86, Ar Z .int 4 (upd (upd zI 1 (kI 1)) 2 (kI 1))), (a18_138_86, Ar Z .int 4 (upd (upd zI 1 (kI ((Int32.ofNat u) - (1 : Int32)))) 2 (kI ((Int32.ofNat ((u + 1) + u)) - (1 : Int32))))), (a21_138_86, Ar Z .int 4 (upd (upd zI 1 (kI (Int32.ofNat u))) 2 (kI (Int32.ofNat u)))), (a49, Ar Z .double 1 (upd zD 0 (kD 4602678819172646912))), (a7, Ar Z .double 4 (upd (upd (upd (upd zD 0 (kD dz9)) 1 (kD dz12)) 2 (kD dz15)) 3 (kD dz18))), (a22_61, Ar Z .double 4 (upd (upd zD 0 (kD 4607182418800017408)) 0 (kD 4607182418800017408))), (a43_57, Ar Z .double 64 (cpy (upd zD 0 (kD 4607182418800017408)) zD 0 0 1)), (a59, oB Z [.null, (kI 0), (kR a7), (kI (Int32.ofNat u)), (kR a4_61), (kR a7_61), (kR a10_61), (kR a13_61), (kR a16_61), (kR a19_61), (kR a22_61), (kI 1), (kI 0), (kI 0), (kI 1), .null]), (a4_57, Ar Z .int 0 zI), (a7_57, Ar Z .int 0 (cpy zI (cpy zI zI 0 0 0) 0 0 0)), (a10_57, Ar Z .int 16 (upd (upd zI 0 (kI (-1))) 1 (kI (-1)))), (a16_57, Ar Z .int 17 (upd (upd zI 1 (kI 0)) 2 (kI 0))), (a19_57, Ar Z .int 16 (upd (upd zI 0 (kI (-1))) 1 (kI (-1)))), (a22_57, Ar Z .int 17 (upd (upd zI 1 (kI 0)) 2 (kI 0))), (a25_57, Ar Z .int 17 (upd (upd (upd (upd zI 0 (kI 0)) 1 (kI 0)) 1 (kI 0)) 2 (kI 0))), (a28_57, Ar Z .int 17 (upd (upd (upd (upd zI 0 (kI 0)) 1 (kI 0)) 1 (kI 0)) 2 (kI 0))), (a34_57, Ar Z .int 16 (cpy zI (cpy zI zI 0 0 0) 0 0 0)), (a37_57, Ar Z .int 16 (cpy zI (cpy zI zI 0 0 0) 0 0 0)), (a40_57, Ar Z .int 64 (cpy (upd (upd zI 0 (kI 0)) 0 (kI 0)) (cpy (upd zI 0 (kI 0)) zI 0 0 1) 0 1 1)), (a4_61, Ar Z .int 2 (upd (upd zI 0 (kI 0)) 0 (kI 0))), (a10_61, Ar Z .int 2 (upd (upd zI 0 (kI 0)) 0 (kI 0))), (a16_61, Ar Z .int 2 (upd (upd zI 0 (kI 0)) 0 (kI 0))), (a7_61, Ar Z .int 2 zI), (a13_61, Ar Z .int 2 zI), (a19_61, Ar Z .int 4 (upd (upd zI 0 (kI 0)) 0 (kI 0))), (a53, Ar Z .int 0 zI)] := Wo.pick W90 [11, 35, 0, 1, 2, 3, 4, 5, 6, 7, 8, 9, 10, 12, 13, 14, 15, 16, 17, 18, 19, 20, 21, 22, 23, 24, 25, 26, 27, 28, 29, 30, 31, 32, 33, 34] 36 (by decide +kernel) rfl
      obtain ⟨T93, L93, X93, N93, W93, K93⟩ := tnT a21 a35 (upd (upd (upd (upd zD 0 (kD dz23)) 1 (kD dz26)) 2 (kD dz29)) 3 (kD dz32)) (upd (upd (upd (upd zD 0 (kD dz37)) 1 (kD dz40)) 2 (kD dz43)) 3 (kD dz46)) u (.val (.int p1)) (.val (.int p2)) (.val (.int p3)) (.val (.int p4)) (.val (.int (own_bi fb))) (.val (.int (own_bi ab))) (.val (.ref a7)) (.val (.ref a21)) (.val (.ref a49)) (.val (.ref a53)) (.val (.ref a55)) (.val (.ref a59)) (.val (.int (1 : Int32))) ((a55, oR Z [(kR a4_57), (kR a7_57), (kR a10_57), (kR a13_57), (kR a16_57), (kR a19_57), (kR a22_57), (kR a25_57), (kR a28_57), (kR a31_57), (kR a34_57), (kR a37_57), (kR a40_57), (kR a43_57), (kI 2), (kR a6_138_86), (kI 3), (kR a9_138_86), (kR a12_138_86), (kR a15_138_86), (kR a18_138_86), (kR a21_138_86), (kR a40_138_86), (kI 2), (kI (Int32.ofNat ((u + 1) + (u + 1))))]) :: (a31_57, Ar Z .int 17 (upd (upd (upd (upd zI 0 (kI 0)) 1 (kI 1)) 1 (kI 1)) 2 (kI 2))) :: (a13_57, Ar Z .int 17 (upd (upd zI 1 (kI 1)) 2 (kI 2))) :: (a40_138_86, Pg Z .double 4 (upd (upd zN 0 (kR a43_57)) 1 (kR a50_138_86))) :: (a50_138_86, Ar Z .double 64 (cpy (upd zD 0 (kD 4602678819172646912)) (cpy (upd (upd (upd (upd zD 0 (kD dz23)) 1 (kD dz26)) 2 (kD dz29)) 3 (kD dz32)) (cpy (upd (upd zD 0 (kD 4607182418800017408)) 0 (kD 4607182418800017408)) (cpy (upd (upd (upd (upd zD 0 (kD dz9)) 1 (kD dz12)) 2 (kD dz15)) 3 (kD dz18)) zD 0 0 u) 0 u 1) 0 (u + 1) u) 0 ((u + 1) + u) 1)) :: (a6_138_86, Ar Z .int 4 (upd (upd (upd (upd zI 0 (kI 0)) 1 (kI (-1))) 1 (kI 1)) 1 (kI 2))) :: (a9_138_86, Ar Z .int 4 (upd (upd (upd zI 0 (kI 0)) 1 (kI 1)) 2 (kI 1))) :: (a12_138_86, Ar Z .int 4 (upd (upd (upd zI 0 (kI (-1))) 1 (kI (-1))) 2 (kI 1))) :: (a15_138_86, Ar Z .int 4 (upd (upd zI 1 (kI 1)) 2 (kI 1))) :: (a18_138_86, Ar Z .int 4 (upd (upd zI 1 (kI ((Int32.ofNat u) - (1 : Int32)))) 2 (kI ((Int32.ofNat ((u + 1) + u)) - (1 : Int32))))) :: (a21_138_86, Ar Z .int 4 (upd (upd zI 1 (kI (Int32.ofNat u))) 2 (kI (Int32.ofNat u)))) :: (a49, Ar Z .double 1 (upd zD 0 (kD 4602678819172646912))) :: (a7, Ar Z .double 4 (upd (upd (upd (upd zD 0 (kD dz9)) 1 (kD dz12)) 2 (kD dz15)) 3 (kD dz18))) :: (a22_61, Ar Z .double 4 (upd (upd zD 0 (kD 4607182418800017408)) 0 (kD 4607182418800017408))) :: (a43_57, Ar Z .double 64 (cpy (upd zD 0 (kD 4607182418800017408)) zD 0 0 1)) :: (a59, oB Z [.null, (kI 0), (kR a7), (kI (Int32.ofNat u)), (kR a4_61), (kR a7_61), (kR a10_61), (kR a13_61), (kR a16_61), (kR a19_61), (kR a22_61), (kI 1), (kI 0), (kI 0), (kI 1), .null]) :: (a4_57, Ar Z .int 0 zI) :: (a7_57, Ar Z .int 0 (cpy zI (cpy zI zI 0 0 0) 0 0 0)) :: (a10_57, Ar Z .int 16 (upd (upd zI 0 (kI (-1))) 1 (kI (-1)))) :: (a16_57, Ar Z .int 17 (upd (upd zI 1 (kI 0)) 2 (kI 0))) :: (a19_57, Ar Z .int 16 (upd (upd zI 0 (kI (-1))) 1 (kI (-1)))) :: (a22_57, Ar Z .int 17 (upd (upd zI 1 (kI 0)) 2 (kI 0))) :: (a25_57, Ar Z .int 17 (upd (upd (upd (upd zI 0 (kI 0)) 1 (kI 0)) 1 (kI 0)) 2 (kI 0))) :: (a28_57, Ar Z .int 17 (upd (upd (upd (upd zI 0 (kI 0)) 1 (kI 0)) 1 (kI 0)) 2 (kI 0))) :: (a34_57, Ar Z .int 16 (cpy zI (cpy zI zI 0 0 0) 0 0 0)) :: (a37_57, Ar Z .int 16 (cpy zI (cpy zI zI 0 0 0) 0 0 0)) :: (a40_57, Ar Z .int 64 (cpy (upd (upd zI 0 (kI 0)) 0 (kI 0)) (cpy (upd zI 0 (kI 0)) zI 0 0 1) 0 1 1)) :: (a4_61, Ar Z .int 2 (upd (upd zI 0 (kI 0)) 0 (kI 0))) :: (a10_61, Ar Z .int 2 (upd (upd zI 0 (kI 0)) 0 (kI 0))) :: (a16_61, Ar Z .int 2 (upd (upd zI 0 (kI 0)) 0 (kI 0))) :: (a7_61, Ar Z .int 2 zI) :: (a13_61, Ar Z .int 2 zI) :: (a19_61, Ar Z .int 4 (upd (upd zI 0 (kI 0)) 0 (kI 0))) :: (a53, Ar Z .int 0 zI) :: []) X90 hx hZ hw hby hml hown (rfl : T90.heap = T90.heap) W92 N90 (by decide : 36 + 0 ≤ _) (by decide : 462 + 0 ≤ _) hu1 hu4 K91
      have K94 : Rc K0 T93 (mkF m 378 #[sI p1, sI p2, sI p3, sI p4, sI (Int32.ofNat u), sI (own_bi fb), sI (own_bi ab), sR a7, sR a21, sR a35, sR a49, sR a53, sR a55, sR a59, sI 1, sR a21, sI (own_bi (own_exp (upd (upd (upd (upd zD 0 (kD dz23)) 1 (kD dz26)) 2 (kD dz29)) 3 (kD dz32)) (upd (upd (upd (upd zD 0 (kD dz37)) 1 (kD dz40)) 2 (kD dz43)) 3 (kD dz46)) u))] [(kR a35), (kI 1), (kR a55)]) := fun t k => K93 t (by
        refine XS.aload X93.here hx rfl (hb hby at_372) rfl rfl ?_
        refine XS.iload X93.here hx rfl (hb hby at_374) rfl ?_
        refine XS.aload X93.here hx rfl (hb hby at_376) rfl rfl ?_
        exact k)
      have W95 : Wo n0 T93.heap [(a55, oR Z [(kR a4_57), (kR a7_57), (kR a10_57), (kR a13_57), (kR a16_57), (kR a19_57), (kR a22_57), (kR a25_57), (kR a28_57), (kR a31_57), (kR a34_57), (kR a37_57), (kR a40_57), (kR a43_57), (kI 2), (kR a6_138_86), (kI 3), (kR a9_138_86), (kR a12_138_86), (kR a15_138_86), (kR a18_138_86), (kR a21_138_86), (kR a40_138_86), (kI 2), (kI (Int32.ofNat ((u + 1) + (u + 1))))]), (a50_138_86, Ar Z .double 64 (cpy (upd zD 0 (kD 4602678819172646912)) (cpy (upd (upd (upd (upd zD 0 (kD dz23)) 1 (kD dz26)) 2 (kD dz29)) 3 (kD dz32)) (cpy (upd (upd zD 0 (kD 4607182418800017408)) 0 (kD 4607182418800017408)) (cpy (upd (upd (upd (upd zD 0 (kD dz9)) 1 (kD dz12)) 2 (kD dz15)) 3 (kD dz18)) zD 0 0 u) 0 u 1) 0 (u + 1) u) 0 ((u + 1) + u) 1)), (a35, Ar Z .double 4 (upd (upd (upd (upd zD 0 (kD dz37)) 1 (kD dz40)) 2 (kD dz43)) 3 (kD dz46))), (a31_57, Ar Z .int 17 (upd (upd (upd (upd zI 0 (kI 0)) 1 (kI 1)) 1 (kI 1)) 2 (kI 2))), (a13_57, Ar Z .int 17 (upd (upd zI 1 (kI 1)) 2 (kI 2))), (a40_138_86, Pg Z .double 4 (upd (upd zN 0 (kR a43_57)) 1 (kR a50_138_86))), (a6_138_86, Ar Z .int 4 (upd (upd (upd (upd zI 0 (kI 0)) 1 (kI (-1))) 1 (kI 1)) 1 (kI 2))), (a15_138_86, Ar Z .int 4 (upd (upd zI 1 (kI 1)) 2 (kI 1))), (a21_138_86, Ar Z .int 4 (upd (upd zI 1 (kI (Int32.ofNat u))) 2 (kI (Int32.ofNat u)))), (a18_138_86, Ar Z .int 4 (upd (upd zI 1 (kI ((Int32.ofNat u) - (1 : Int32)))) 2 (kI ((Int32.ofNat ((u + 1) + u)) - (1 : Int32))))), (a21, Ar Z .double 4 (upd (upd (upd (upd zD 0 (kD dz23)) 1 (kD dz26)) 2 (kD dz29)) 3 (kD dz32))), (a9_138_86, Ar Z .int 4 (upd (upd (upd zI 0 (kI 0)) 1 (kI 1)) 2 (kI 1))), (a12_138_86, Ar Z .int 4 (upd (upd (upd zI 0 (kI (-1))) 1 (kI (-1))) 2 (kI 1))), (a49, Ar Z .double 1 (upd zD 0 (kD 4602678819172646912))), (a7, Ar Z .double 4 (upd (upd (upd (upd zD 0 (kD dz9)) 1 (kD dz12)) 2 (kD dz15)) 3 (kD dz18))), (a22_61, Ar Z .double 4 (upd (upd zD 0 (kD 4607182418800017408)) 0 (kD 4607182418800017408))), (a43_57, Ar Z .double 64 (cpy (upd zD 0 (kD 4607182418800017408)) zD 0 0 1)), (a59, oB Z [.null, (kI 0), (kR a7), (kI (Int32.ofNat u)), (kR a4_61), (kR a7_61), (kR a10_61), (kR a13_61), (kR a16_61), (kR a19_61), (kR a22_61), (kI 1), (kI 0), (kI 0), (kI 1), .null]), (a4_57, Ar Z .int 0 zI), (a7_57, Ar Z .int 0 (cpy zI (cpy zI zI 0 0 0) 0 0 0)), (a10_57, Ar Z .int 16 (upd (upd zI 0 (kI (-1))) 1 (kI (-1)))), (a16_57, Ar Z .int 17 (upd (upd zI 1 (kI 0)) 2 (kI 0))), (a19_57, Ar Z .int 16 (upd (upd zI 0 (kI (-1))) 1 (kI (-1)))), (a22_57, Ar Z .int 17 (upd (upd zI 1 (kI 0)) 2 (kI 0))), (a25_57, Ar Z .int 17 (upd (upd (upd (upd zI 0 (kI 0)) 1 (kI 0)) 1 (kI 0)) 2 (kI 0))), (a28_57, Ar Z .int 17 (upd (upd (upd (upd zI 0 (kI 0)) 1 (kI 0)) 1 (kI 0)) 2 (kI 0))), (a34_57, Ar Z .int 16 (cpy zI (cpy zI zI 0 0 0) 0 0 0)), (a37_57, Ar Z .int 16 (cpy zI (cpy zI zI 0 0 0) 0 0 0)), (a40_57, Ar Z .int 64 (cpy (upd (upd zI 0 (kI 0)) 0 (kI 0)) (cpy (upd zI 0 (kI 0)) zI 0 0 1) 0 1 1)), (a4_61, Ar Z .int 2 (upd (upd zI 0 (kI 0)) 0 (kI 0))), (a10_61, Ar Z .int 2 (upd (upd zI 0 (kI 0)) 0 (kI 0))), (a16_61, Ar Z .int 2 (upd (upd zI 0 (kI 0)) 0 (kI 0))), (a7_61, Ar Z .int 2 zI), (a13_61, Ar Z .int 2 zI), (a19_61, Ar Z .int 4 (upd (upd zI 0 (kI 0)) 0 (kI 0))), (a53, Ar Z .int 0 zI)] := Wo.pick W93 [2, 6, 1, 3, 4, 5, 7, 10, 12, 11, 0, 8, 9, 13, 14, 15, 16, 17, 18, 19, 20, 21, 22, 23, 24, 25, 26, 27, 28, 29, 30, 31, 32, 33, 34, 35] 36 (by decide +kernel) rfl
      obtain ⟨cq96, kq96, q96a, q96b, q96c⟩ := isOf hZ (rfl : T93.heap = T93.heap) (W95.exa (i := 0) rfl)
      obtain ⟨_, _, ⟨T96, L96, k96, n96⟩, -, X96, ⟨Lc96, hQ96, l96, y96, z96⟩, st96⟩ := X93.virtualBack hx (y := y_za) (z := y_za) hown (mvT hZ (hw _ (mi 186 rfl))) (mvT hZ (hw _ (mi 187 rfl))) (notFace_of_selects (args := #[]) (mvT hZ (hw _ (mi 189 rfl)))) (mvT hZ (hw _ (mi 189 rfl))) (mvT hZ (hw _ (mi 188 rfl))) (by decide) (backOf (W := 0) (rmZA12 l Z a0 hw [] a55 a4_57 a7_57 a10_57 a13_57 a16_57 a19_57 a22_57 a25_57 a28_57 a31_57 a34_57 a37_57 a40_57 a43_57 a6_138_86 a9_138_86 a12_138_86 a15_138_86 a18_138_86 a21_138_86 a40_138_86 a50_138_86 a35 (2 : Int32) (3 : Int32) (Int32.ofNat ((u + 1) + (u + 1))) ((Int32.ofNat ((u + 1) + u)) - (1 : Int32)) u (u + 1) (cpy (upd zD 0 (kD 4602678819172646912)) (cpy (upd (upd (upd (upd zD 0 (kD dz23)) 1 (kD dz26)) 2 (kD dz29)) 3 (kD dz32)) (cpy (upd (upd zD 0 (kD 4607182418800017408)) 0 (kD 4607182418800017408)) (cpy (upd (upd (upd (upd zD 0 (kD dz9)) 1 (kD dz12)) 2 (kD dz15)) 3 (kD dz18)) zD 0 0 u) 0 u 1) 0 (u + 1) u) 0 ((u + 1) + u) 1) (upd (upd (upd (upd zD 0 (kD dz37)) 1 (kD dz40)) 2 (kD dz43)) 3 (kD dz46)) (upd (upd (upd (upd zI 0 (kI 0)) 1 (kI 1)) 1 (kI 1)) 2 (kI 2)) (upd (upd zI 1 (kI 1)) 2 (kI 2)) (upd (upd zN 0 (kR a43_57)) 1 (kR a50_138_86)) (upd (upd (upd (upd zI 0 (kI 0)) 1 (kI (-1))) 1 (kI 1)) 1 (kI 2)) (upd (upd zI 1 (kI 1)) 2 (kI 1)) (upd (upd zI 1 (kI (Int32.ofNat u))) 2 (kI (Int32.ofNat u))) (upd (upd zI 1 (kI ((Int32.ofNat u) - (1 : Int32)))) 2 (kI ((Int32.ofNat ((u + 1) + u)) - (1 : Int32)))) ((a21, Ar Z .double 4 (upd (upd (upd (upd zD 0 (kD dz23)) 1 (kD dz26)) 2 (kD dz29)) 3 (kD dz32))) :: (a9_138_86, Ar Z .int 4 (upd (upd (upd zI 0 (kI 0)) 1 (kI 1)) 2 (kI 1))) :: (a12_138_86, Ar Z .int 4 (upd (upd (upd zI 0 (kI (-1))) 1 (kI (-1))) 2 (kI 1))) :: (a49, Ar Z .double 1 (upd zD 0 (kD 4602678819172646912))) :: (a7, Ar Z .double 4 (upd (upd (upd (upd zD 0 (kD dz9)) 1 (kD dz12)) 2 (kD dz15)) 3 (kD dz18))) :: (a22_61, Ar Z .double 4 (upd (upd zD 0 (kD 4607182418800017408)) 0 (kD 4607182418800017408))) :: (a43_57, Ar Z .double 64 (cpy (upd zD 0 (kD 4607182418800017408)) zD 0 0 1)) :: (a59, oB Z [.null, (kI 0), (kR a7), (kI (Int32.ofNat u)), (kR a4_61), (kR a7_61), (kR a10_61), (kR a13_61), (kR a16_61), (kR a19_61), (kR a22_61), (kI 1), (kI 0), (kI 0), (kI 1), .null]) :: (a4_57, Ar Z .int 0 zI) :: (a7_57, Ar Z .int 0 (cpy zI (cpy zI zI 0 0 0) 0 0 0)) :: (a10_57, Ar Z .int 16 (upd (upd zI 0 (kI (-1))) 1 (kI (-1)))) :: (a16_57, Ar Z .int 17 (upd (upd zI 1 (kI 0)) 2 (kI 0))) :: (a19_57, Ar Z .int 16 (upd (upd zI 0 (kI (-1))) 1 (kI (-1)))) :: (a22_57, Ar Z .int 17 (upd (upd zI 1 (kI 0)) 2 (kI 0))) :: (a25_57, Ar Z .int 17 (upd (upd (upd (upd zI 0 (kI 0)) 1 (kI 0)) 1 (kI 0)) 2 (kI 0))) :: (a28_57, Ar Z .int 17 (upd (upd (upd (upd zI 0 (kI 0)) 1 (kI 0)) 1 (kI 0)) 2 (kI 0))) :: (a34_57, Ar Z .int 16 (cpy zI (cpy zI zI 0 0 0) 0 0 0)) :: (a37_57, Ar Z .int 16 (cpy zI (cpy zI zI 0 0 0) 0 0 0)) :: (a40_57, Ar Z .int 64 (cpy (upd (upd zI 0 (kI 0)) 0 (kI 0)) (cpy (upd zI 0 (kI 0)) zI 0 0 1) 0 1 1)) :: (a4_61, Ar Z .int 2 (upd (upd zI 0 (kI 0)) 0 (kI 0))) :: (a10_61, Ar Z .int 2 (upd (upd zI 0 (kI 0)) 0 (kI 0))) :: (a16_61, Ar Z .int 2 (upd (upd zI 0 (kI 0)) 0 (kI 0))) :: (a7_61, Ar Z .int 2 zI) :: (a13_61, Ar Z .int 2 zI) :: (a19_61, Ar Z .int 4 (upd (upd zI 0 (kI 0)) 0 (kI 0))) :: (a53, Ar Z .int 0 zI) :: []) T93.heap n0 W95 (by omega) (by omega) (by omega) rfl rfl rfl rfl rfl rfl rfl (own_s1 (by omega) (by omega))) hZ (hw _ (mi 190 rfl)) (hw _ (mi 9 rfl)) (by decide) (by decide)) q96a q96c (g := K94.g) rfl (by rw [hml]; rfl) (Steps.refl _) (argsL := [(.int (1 : Int32)), (.ref a35)]) (rest := []) (lenOf pd_za rfl) rfl (by show 2 * 0 + _ ≤ _; exact Nat.le_of_eq rfl) (hb hby at_378) (fun _ _ => ⟨rfl, (rfl : T93.heap = T93.heap), (by decide : 36 + 0 ≤ _), (by decide : 462 + 0 ≤ _)⟩)
      dsimp only [Pt.U, Pt.locs, Pt.cells, Pt.slots] at X96 l96 y96 z96 st96 hQ96
      subst l96 y96 z96
      obtain ⟨rfl, N96q, W96⟩ := hQ96
      have N96 := Fr.app N93 N96q
      have K97 : Rc K0 T96 (mkF m 391 #[sI p1, sI p2, sI p3, sI p4, sI (Int32.ofNat u), sI (own_bi fb), sI (own_bi ab), sR a7, sR a21, sR a35, sR a49, sR a53, sR a55, sR a59, sI 1, sR a21, sI (own_bi (own_exp (upd (upd (upd (upd zD 0 (kD dz23)) 1 (kD dz26)) 2 (kD dz29)) 3 (kD dz32)) (upd (upd (upd (upd zD 0 (kD dz37)) 1 (kD dz40)) 2 (kD dz43)) 3 (kD dz46)) u))] [(kI 1)]) := fun t k => K94 t (st96.trans (by
        refine XS.iload X96.here hx rfl (hb hby at_381) rfl ?_
        refine XS.icmpNo X96.here hx rfl (hb hby at_383) rfl (teq (congrArg own_bi (own_zr_exp hu1 hu4 (fun j hj => congrArg own_dv (own_blk (d := (u + 1)) (by omega) hj)) (fun j => rfl)))).2 ?_
        refine XS.iconst X96.here hx rfl (hb hby at_386) ?_
        refine XS.goto X96.here hx rfl (pc0 := 387) (pc' := 391) rfl (hb hby at_387) (by decide) (by decide) ?_
        exact k))
      obtain ⟨fs, hr, hrun, hended, hWm, hsame⟩ := X96.leave (v := some (.int (1 : Int32))) (fun h => by rw [Bd.returns] at h; cases h)
      refine ⟨_, _, pre0 _ (K97 _ (retN X96 hx (t := .boolean) Bd.returns (by simp) (hb hby at_391) hr)), hrun, hended, _, _, rfl, ?_, ⟨_, rfl⟩, hWm, hsame.mono (by decide) (by decide)⟩
      show Qrm0 Z p1 p2 p3 p4 n0 _ T96.heap _
      exact ⟨rfl, N96⟩
    · have hab := Bool.eq_false_iff.mpr ha
      have K98 : Rc K0 T86 (mkF m 291 #[sI p1, sI p2, sI p3, sI p4, sI (Int32.ofNat u), sI (own_bi fb), sI (own_bi ab), sR a7, sR a21, sR a35, sR a49, sR a53, sR a55, sR a59, sI 1, sR a7, sU] []) := fun t k => K87 t (by
        refine XS.ifYes X86.here hx rfl (pc0 := 260) (pc' := 277) rfl (hb hby at_260) rfl ((if0 _ _).trans (teq (show own_bi ab = 0 from by rw [hab]; rfl)).1) (by decide) (by decide) ?_
        refine XS.iload X86.here hx rfl (hb hby at_277) rfl ?_
        refine XS.ifYes X86.here hx rfl (pc0 := 279) (pc' := 287) rfl (hb hby at_279) rfl ((if0 _ _).trans (teq (show own_bi ab = 0 from by rw [hab]; rfl)).1) (by decide) (by decide) ?_
        refine XS.aload X86.here hx rfl (hb hby at_287) rfl rfl ?_
        refine XS.astore X86.here hx rfl (hb hby at_289) rfl rfl (l' := #[sI p1, sI p2, sI p3, sI p4, sI (Int32.ofNat u), sI (own_bi fb), sI (own_bi ab), sR a7, sR a21, sR a35, sR a49, sR a53, sR a55, sR a59, sI 1, sR a7, sU]) rfl ?_
        exact k)
      have W99 : Wo n0 T86.heap [(a7, Ar Z .double 4 (upd (upd (upd (upd zD 0 (kD dz9)) 1 (kD dz12)) 2 (kD dz15)) 3 (kD dz18))), (a35, Ar Z .double 4 (upd (upd (upd (upd zD 0 (kD dz37)) 1 (kD dz40)) 2 (kD dz43)) 3 (kD dz46))), (a55, oR Z [(kR a4_57), (kR a7_57), (kR a10_57), (kR a13_57), (kR a16_57), (kR a19_57), (kR a22_57), (kR a25_57), (kR a28_57), (kR a31_57), (kR a34_57), (kR a37_57), (kR a40_57), (kR a43_57), (kI 2), (kR a6_138_86), (kI 2), (kR a9_138_86), (kR a12_138_86), (kR a15_138_86), (kR a18_138_86), (kR a21_138_86), (kR a40_138_86), (kI 2), (kI (Int32.ofNat (u + 1)))]), (a31_57, Ar Z .int 17 (upd (upd (upd (upd zI 0 (kI 0)) 1 (kI 1)) 1 (kI 1)) 2 (kI 2))), (a13_57, Ar Z .int 17 (upd (upd zI 1 (kI 1)) 2 (kI 2))), (a40_138_86, Pg Z .double 4 (upd (upd zN 0 (kR a43_57)) 1 (kR a50_138_86))), (a50_138_86, Ar Z .double 64 (cpy (upd (upd zD 0 (kD 4607182418800017408)) 0 (kD 4607182418800017408)) (cpy (upd (upd (upd (upd zD 0 (kD dz9)) 1 (kD dz12)) 2 (kD dz15)) 3 (kD dz18)) zD 0 0 u) 0 u 1)), (a6_138_86, Ar Z .int 4 (upd (upd (upd zI 0 (kI 0)) 1 (kI (-1))) 1 (kI 1))), (a9_138_86, Ar Z .int 4 (upd (upd zI 0 (kI 0)) 1 (kI 1))), (a12_138_86, Ar Z .int 4 (upd (upd zI 0 (kI (-1))) 1 (kI (-1)))), (a15_138_86, Ar Z .int 4 (upd zI 1 (kI 1))), (a18_138_86, Ar Z .int 4 (upd zI 1 (kI ((Int32.ofNat u) - (1 : Int32))))), (a21_138_86, Ar Z .int 4 (upd zI 1 (kI (Int32.ofNat u)))), (a22_61, Ar Z .double 4 (upd (upd zD 0 (kD 4607182418800017408)) 0 (kD 4607182418800017408))), (a43_57, Ar Z .double 64 (cpy (upd zD 0 (kD 4607182418800017408)) zD 0 0 1)), (a59, oB Z [.null, (kI 0), (kR a7), (kI (Int32.ofNat u)), (kR a4_61), (kR a7_61), (kR a10_61), (kR a13_61), (kR a16_61), (kR a19_61), (kR a22_61), (kI 1), (kI 0), (kI 0), (kI 1), .null]), (a4_57, Ar Z .int 0 zI), (a7_57, Ar Z .int 0 (cpy zI (cpy zI zI 0 0 0) 0 0 0)), (a10_57, Ar Z .int 16 (upd (upd zI 0 (kI (-1))) 1 (kI (-1)))), (a16_57, Ar Z .int 17 (upd (upd zI 1 (kI 0)) 2 (kI 0))), (a19_57, Ar Z .int 16 (upd (upd zI 0 (kI (-1))) 1 (kI (-1)))), (a22_57, Ar Z .int 17 (upd (upd zI 1 (kI 0)) 2 (kI 0))), (a25_57, Ar Z .int 17 (upd (upd (upd (upd zI 0 (kI 0)) 1 (kI 0)) 1 (kI 0)) 2 (kI 0))), (a28_57, Ar Z .int 17 (upd (upd (upd (upd zI 0 (kI 0)) 1 (kI 0)) 1 (kI 0)) 2 (kI 0))), (a34_57, Ar Z .int 16 (cpy zI (cpy zI zI 0 0 0) 0 0 0)), (a37_57, Ar Z .int 16 (cpy zI (cpy zI zI 0 0 0) 0 0 0)), (a40_57, Ar Z .int 64 (cpy (upd (upd zI 0 (kI 0)) 0 (kI 0)) (cpy (upd zI 0 (kI 0)) zI 0 0 1) 0 1 1)), (a4_61, Ar Z .int 2 (upd (upd zI 0 (kI 0)) 0 (kI 0))), (a10_61, Ar Z .int 2 (upd (upd zI 0 (kI 0)) 0 (kI 0))), (a16_61, Ar Z .int 2 (upd (upd zI 0 (kI 0)) 0 (kI 0))), (a7_61, Ar Z .int 2 zI), (a13_61, Ar Z .int 2 zI), (a19_61, Ar Z .int 4 (upd (upd zI 0 (kI 0)) 0 (kI 0))), (a53, Ar Z .int 0 zI), (a49, Ar Z .double 1 (upd zD 0 (kD 4602678819172646912))), (a21, Ar Z .double 4 (upd (upd (upd (upd zD 0 (kD dz23)) 1 (kD dz26)) 2 (kD dz29)) 3 (kD dz32)))] := Wo.pick W86 [11, 34, 0, 1, 2, 3, 4, 5, 6, 7, 8, 9, 10, 12, 13, 14, 15, 16, 17, 18, 19, 20, 21, 22, 23, 24, 25, 26, 27, 28, 29, 30, 31, 32, 33, 35] 36 (by decide +kernel) rfl
      obtain ⟨T100, L100, X100, N100, W100, K100⟩ := tnT a7 a35 (upd (upd (upd (upd zD 0 (kD dz9)) 1 (kD dz12)) 2 (kD dz15)) 3 (kD dz18)) (upd (upd (upd (upd zD 0 (kD dz37)) 1 (kD dz40)) 2 (kD dz43)) 3 (kD dz46)) u (.val (.int p1)) (.val (.int p2)) (.val (.int p3)) (.val (.int p4)) (.val (.int (own_bi fb))) (.val (.int (own_bi ab))) (.val (.ref a7)) (.val (.ref a21)) (.val (.ref a49)) (.val (.ref a53)) (.val (.ref a55)) (.val (.ref a59)) (.val (.int (1 : Int32))) ((a55, oR Z [(kR a4_57), (kR a7_57), (kR a10_57), (kR a13_57), (kR a16_57), (kR a19_57), (kR a22_57), (kR a25_57), (kR a28_57), (kR a31_57), (kR a34_57), (kR a37_57), (kR a40_57), (kR a43_57), (kI 2), (kR a6_138_86), (kI 2), (kR a9_138_86), (kR a12_138_86), (kR a15_138_86), (kR a18_138_86), (kR a21_138_86), (kR a40_138_86), (kI 2), (kI (Int32.ofNat (u + 1)))]) :: (a31_57, Ar Z .int 17 (upd (upd (upd (upd zI 0 (kI 0)) 1 (kI 1)) 1 (kI 1)) 2 (kI 2))) :: (a13_57, Ar Z .int 17 (upd (upd zI 1 (kI 1)) 2 (kI 2))) :: (a40_138_86, Pg Z .double 4 (upd (upd zN 0 (kR a43_57)) 1 (kR a50_138_86))) :: (a50_138_86, Ar Z .double 64 (cpy (upd (upd zD 0 (kD 4607182418800017408)) 0 (kD 4607182418800017408)) (cpy (upd (upd (upd (upd zD 0 (kD dz9)) 1 (kD dz12)) 2 (kD dz15)) 3 (kD dz18)) zD 0 0 u) 0 u 1)) :: (a6_138_86, Ar Z .int 4 (upd (upd (upd zI 0 (kI 0)) 1 (kI (-1))) 1 (kI 1))) :: (a9_138_86, Ar Z .int 4 (upd (upd zI 0 (kI 0)) 1 (kI 1))) :: (a12_138_86, Ar Z .int 4 (upd (upd zI 0 (kI (-1))) 1 (kI (-1)))) :: (a15_138_86, Ar Z .int 4 (upd zI 1 (kI 1))) :: (a18_138_86, Ar Z .int 4 (upd zI 1 (kI ((Int32.ofNat u) - (1 : Int32))))) :: (a21_138_86, Ar Z .int 4 (upd zI 1 (kI (Int32.ofNat u)))) :: (a22_61, Ar Z .double 4 (upd (upd zD 0 (kD 4607182418800017408)) 0 (kD 4607182418800017408))) :: (a43_57, Ar Z .double 64 (cpy (upd zD 0 (kD 4607182418800017408)) zD 0 0 1)) :: (a59, oB Z [.null, (kI 0), (kR a7), (kI (Int32.ofNat u)), (kR a4_61), (kR a7_61), (kR a10_61), (kR a13_61), (kR a16_61), (kR a19_61), (kR a22_61), (kI 1), (kI 0), (kI 0), (kI 1), .null]) :: (a4_57, Ar Z .int 0 zI) :: (a7_57, Ar Z .int 0 (cpy zI (cpy zI zI 0 0 0) 0 0 0)) :: (a10_57, Ar Z .int 16 (upd (upd zI 0 (kI (-1))) 1 (kI (-1)))) :: (a16_57, Ar Z .int 17 (upd (upd zI 1 (kI 0)) 2 (kI 0))) :: (a19_57, Ar Z .int 16 (upd (upd zI 0 (kI (-1))) 1 (kI (-1)))) :: (a22_57, Ar Z .int 17 (upd (upd zI 1 (kI 0)) 2 (kI 0))) :: (a25_57, Ar Z .int 17 (upd (upd (upd (upd zI 0 (kI 0)) 1 (kI 0)) 1 (kI 0)) 2 (kI 0))) :: (a28_57, Ar Z .int 17 (upd (upd (upd (upd zI 0 (kI 0)) 1 (kI 0)) 1 (kI 0)) 2 (kI 0))) :: (a34_57, Ar Z .int 16 (cpy zI (cpy zI zI 0 0 0) 0 0 0)) :: (a37_57, Ar Z .int 16 (cpy zI (cpy zI zI 0 0 0) 0 0 0)) :: (a40_57, Ar Z .int 64 (cpy (upd (upd zI 0 (kI 0)) 0 (kI 0)) (cpy (upd zI 0 (kI 0)) zI 0 0 1) 0 1 1)) :: (a4_61, Ar Z .int 2 (upd (upd zI 0 (kI 0)) 0 (kI 0))) :: (a10_61, Ar Z .int 2 (upd (upd zI 0 (kI 0)) 0 (kI 0))) :: (a16_61, Ar Z .int 2 (upd (upd zI 0 (kI 0)) 0 (kI 0))) :: (a7_61, Ar Z .int 2 zI) :: (a13_61, Ar Z .int 2 zI) :: (a19_61, Ar Z .int 4 (upd (upd zI 0 (kI 0)) 0 (kI 0))) :: (a53, Ar Z .int 0 zI) :: (a49, Ar Z .double 1 (upd zD 0 (kD 4602678819172646912))) :: (a21, Ar Z .double 4 (upd (upd (upd (upd zD 0 (kD dz23)) 1 (kD dz26)) 2 (kD dz29)) 3 (kD dz32))) :: []) X86 hx hZ hw hby hml hown (rfl : T86.heap = T86.heap) W99 N86 (by decide : 36 + 0 ≤ _) (by decide : 462 + 0 ≤ _) hu1 hu4 K98
      have K101 : Rc K0 T100 (mkF m 378 #[sI p1, sI p2, sI p3, sI p4, sI (Int32.ofNat u), sI (own_bi fb), sI (own_bi ab), sR a7, sR a21, sR a35, sR a49, sR a53, sR a55, sR a59, sI 1, sR a7, sI (own_bi (own_exp (upd (upd (upd (upd zD 0 (kD dz9)) 1 (kD dz12)) 2 (kD dz15)) 3 (kD dz18)) (upd (upd (upd (upd zD 0 (kD dz37)) 1 (kD dz40)) 2 (kD dz43)) 3 (kD dz46)) u))] [(kR a35), (kI 1), (kR a55)]) := fun t k => K100 t (by
        refine XS.aload X100.here hx rfl (hb hby at_372) rfl rfl ?_
        refine XS.iload X100.here hx rfl (hb hby at_374) rfl ?_
        refine XS.aload X100.here hx rfl (hb hby at_376) rfl rfl ?_
        exact k)
      have W102 : Wo n0 T100.heap [(a55, oR Z [(kR a4_57), (kR a7_57), (kR a10_57), (kR a13_57), (kR a16_57), (kR a19_57), (kR a22_57), (kR a25_57), (kR a28_57), (kR a31_57), (kR a34_57), (kR a37_57), (kR a40_57), (kR a43_57), (kI 2), (kR a6_138_86), (kI 2), (kR a9_138_86), (kR a12_138_86), (kR a15_138_86), (kR a18_138_86), (kR a21_138_86), (kR a40_138_86), (kI 2), (kI (Int32.ofNat (u + 1)))]), (a50_138_86, Ar Z .double 64 (cpy (upd (upd zD 0 (kD 4607182418800017408)) 0 (kD 4607182418800017408)) (cpy (upd (upd (upd (upd zD 0 (kD dz9)) 1 (kD dz12)) 2 (kD dz15)) 3 (kD dz18)) zD 0 0 u) 0 u 1)), (a35, Ar Z .double 4 (upd (upd (upd (upd zD 0 (kD dz37)) 1 (kD dz40)) 2 (kD dz43)) 3 (kD dz46))), (a31_57, Ar Z .int 17 (upd (upd (upd (upd zI 0 (kI 0)) 1 (kI 1)) 1 (kI 1)) 2 (kI 2))), (a13_57, Ar Z .int 17 (upd (upd zI 1 (kI 1)) 2 (kI 2))), (a40_138_86, Pg Z .double 4 (upd (upd zN 0 (kR a43_57)) 1 (kR a50_138_86))), (a6_138_86, Ar Z .int 4 (upd (upd (upd zI 0 (kI 0)) 1 (kI (-1))) 1 (kI 1))), (a15_138_86, Ar Z .int 4 (upd zI 1 (kI 1))), (a21_138_86, Ar Z .int 4 (upd zI 1 (kI (Int32.ofNat u)))), (a18_138_86, Ar Z .int 4 (upd zI 1 (kI ((Int32.ofNat u) - (1 : Int32))))), (a7, Ar Z .double 4 (upd (upd (upd (upd zD 0 (kD dz9)) 1 (kD dz12)) 2 (kD dz15)) 3 (kD dz18))), (a9_138_86, Ar Z .int 4 (upd (upd zI 0 (kI 0)) 1 (kI 1))), (a12_138_86, Ar Z .int 4 (upd (upd zI 0 (kI (-1))) 1 (kI (-1)))), (a22_61, Ar Z .double 4 (upd (upd zD 0 (kD 4607182418800017408)) 0 (kD 4607182418800017408))), (a43_57, Ar Z .double 64 (cpy (upd zD 0 (kD 4607182418800017408)) zD 0 0 1)), (a59, oB Z [.null, (kI 0), (kR a7), (kI (Int32.ofNat u)), (kR a4_61), (kR a7_61), (kR a10_61), (kR a13_61), (kR a16_61), (kR a19_61), (kR a22_61), (kI 1), (kI 0), (kI 0), (kI 1), .null]), (a4_57, Ar Z .int 0 zI), (a7_57, Ar Z .int 0 (cpy zI (cpy zI zI 0 0 0) 0 0 0)), (a10_57, Ar Z .int 16 (upd (upd zI 0 (kI (-1))) 1 (kI (-1)))), (a16_57, Ar Z .int 17 (upd (upd zI 1 (kI 0)) 2 (kI 0))), (a19_57, Ar Z .int 16 (upd (upd zI 0 (kI (-1))) 1 (kI (-1)))), (a22_57, Ar Z .int 17 (upd (upd zI 1 (kI 0)) 2 (kI 0))), (a25_57, Ar Z .int 17 (upd (upd (upd (upd zI 0 (kI 0)) 1 (kI 0)) 1 (kI 0)) 2 (kI 0))), (a28_57, Ar Z .int 17 (upd (upd (upd (upd zI 0 (kI 0)) 1 (kI 0)) 1 (kI 0)) 2 (kI 0))), (a34_57, Ar Z .int 16 (cpy zI (cpy zI zI 0 0 0) 0 0 0)), (a37_57, Ar Z .int 16 (cpy zI (cpy zI zI 0 0 0) 0 0 0)), (a40_57, Ar Z .int 64 (cpy (upd (upd zI 0 (kI 0)) 0 (kI 0)) (cpy (upd zI 0 (kI 0)) zI 0 0 1) 0 1 1)), (a4_61, Ar Z .int 2 (upd (upd zI 0 (kI 0)) 0 (kI 0))), (a10_61, Ar Z .int 2 (upd (upd zI 0 (kI 0)) 0 (kI 0))), (a16_61, Ar Z .int 2 (upd (upd zI 0 (kI 0)) 0 (kI 0))), (a7_61, Ar Z .int 2 zI), (a13_61, Ar Z .int 2 zI), (a19_61, Ar Z .int 4 (upd (upd zI 0 (kI 0)) 0 (kI 0))), (a53, Ar Z .int 0 zI), (a49, Ar Z .double 1 (upd zD 0 (kD 4602678819172646912))), (a21, Ar Z .double 4 (upd (upd (upd (upd zD 0 (kD dz23)) 1 (kD dz26)) 2 (kD dz29)) 3 (kD dz32)))] := Wo.pick W100 [2, 6, 1, 3, 4, 5, 7, 10, 12, 11, 0, 8, 9, 13, 14, 15, 16, 17, 18, 19, 20, 21, 22, 23, 24, 25, 26, 27, 28, 29, 30, 31, 32, 33, 34, 35] 36 (by decide +kernel) rfl
      obtain ⟨cq103, kq103, q103a, q103b, q103c⟩ := isOf hZ (rfl : T100.heap = T100.heap) (W102.exa (i := 0) rfl)
      obtain ⟨_, _, ⟨T103, L103, k103, n103⟩, -, X103, ⟨Lc103, hQ103, l103, y103, z103⟩, st103⟩ := X100.virtualBack hx (y := y_za) (z := y_za) hown (mvT hZ (hw _ (mi 186 rfl))) (mvT hZ (hw _ (mi 187 rfl))) (notFace_of_selects (args := #[]) (mvT hZ (hw _ (mi 189 rfl)))) (mvT hZ (hw _ (mi 189 rfl))) (mvT hZ (hw _ (mi 188 rfl))) (by decide) (backOf (W := 0) (rmZA11 l Z a0 hw [] a55 a4_57 a7_57 a10_57 a13_57 a16_57 a19_57 a22_57 a25_57 a28_57 a31_57 a34_57 a37_57 a40_57 a43_57 a6_138_86 a9_138_86 a12_138_86 a15_138_86 a18_138_86 a21_138_86 a40_138_86 a50_138_86 a35 (2 : Int32) (2 : Int32) (Int32.ofNat (u + 1)) ((Int32.ofNat u) - (1 : Int32)) u 0 (cpy (upd (upd zD 0 (kD 4607182418800017408)) 0 (kD 4607182418800017408)) (cpy (upd (upd (upd (upd zD 0 (kD dz9)) 1 (kD dz12)) 2 (kD dz15)) 3 (kD dz18)) zD 0 0 u) 0 u 1) (upd (upd (upd (upd zD 0 (kD dz37)) 1 (kD dz40)) 2 (kD dz43)) 3 (kD dz46)) (upd (upd (upd (upd zI 0 (kI 0)) 1 (kI 1)) 1 (kI 1)) 2 (kI 2)) (upd (upd zI 1 (kI 1)) 2 (kI 2)) (upd (upd zN 0 (kR a43_57)) 1 (kR a50_138_86)) (upd (upd (upd zI 0 (kI 0)) 1 (kI (-1))) 1 (kI 1)) (upd zI 1 (kI 1)) (upd zI 1 (kI (Int32.ofNat u))) (upd zI 1 (kI ((Int32.ofNat u) - (1 : Int32)))) ((a7, Ar Z .double 4 (upd (upd (upd (upd zD 0 (kD dz9)) 1 (kD dz12)) 2 (kD dz15)) 3 (kD dz18))) :: (a9_138_86, Ar Z .int 4 (upd (upd zI 0 (kI 0)) 1 (kI 1))) :: (a12_138_86, Ar Z .int 4 (upd (upd zI 0 (kI (-1))) 1 (kI (-1)))) :: (a22_61, Ar Z .double 4 (upd (upd zD 0 (kD 4607182418800017408)) 0 (kD 4607182418800017408))) :: (a43_57, Ar Z .double 64 (cpy (upd zD 0 (kD 4607182418800017408)) zD 0 0 1)) :: (a59, oB Z [.null, (kI 0), (kR a7), (kI (Int32.ofNat u)), (kR a4_61), (kR a7_61), (kR a10_61), (kR a13_61), (kR a16_61), (kR a19_61), (kR a22_61), (kI 1), (kI 0), (kI 0), (kI 1), .null]) :: (a4_57, Ar Z .int 0 zI) :: (a7_57, Ar Z .int 0 (cpy zI (cpy zI zI 0 0 0) 0 0 0)) :: (a10_57, Ar Z .int 16 (upd (upd zI 0 (kI (-1))) 1 (kI (-1)))) :: (a16_57, Ar Z .int 17 (upd (upd zI 1 (kI 0)) 2 (kI 0))) :: (a19_57, Ar Z .int 16 (upd (upd zI 0 (kI (-1))) 1 (kI (-1)))) :: (a22_57, Ar Z .int 17 (upd (upd zI 1 (kI 0)) 2 (kI 0))) :: (a25_57, Ar Z .int 17 (upd (upd (upd (upd zI 0 (kI 0)) 1 (kI 0)) 1 (kI 0)) 2 (kI 0))) :: (a28_57, Ar Z .int 17 (upd (upd (upd (upd zI 0 (kI 0)) 1 (kI 0)) 1 (kI 0)) 2 (kI 0))) :: (a34_57, Ar Z .int 16 (cpy zI (cpy zI zI 0 0 0) 0 0 0)) :: (a37_57, Ar Z .int 16 (cpy zI (cpy zI zI 0 0 0) 0 0 0)) :: (a40_57, Ar Z .int 64 (cpy (upd (upd zI 0 (kI 0)) 0 (kI 0)) (cpy (upd zI 0 (kI 0)) zI 0 0 1) 0 1 1)) :: (a4_61, Ar Z .int 2 (upd (upd zI 0 (kI 0)) 0 (kI 0))) :: (a10_61, Ar Z .int 2 (upd (upd zI 0 (kI 0)) 0 (kI 0))) :: (a16_61, Ar Z .int 2 (upd (upd zI 0 (kI 0)) 0 (kI 0))) :: (a7_61, Ar Z .int 2 zI) :: (a13_61, Ar Z .int 2 zI) :: (a19_61, Ar Z .int 4 (upd (upd zI 0 (kI 0)) 0 (kI 0))) :: (a53, Ar Z .int 0 zI) :: (a49, Ar Z .double 1 (upd zD 0 (kD 4602678819172646912))) :: (a21, Ar Z .double 4 (upd (upd (upd (upd zD 0 (kD dz23)) 1 (kD dz26)) 2 (kD dz29)) 3 (kD dz32))) :: []) T100.heap n0 W102 (by omega) (by omega) (by omega) rfl rfl rfl rfl rfl rfl rfl (own_s1 (by omega) (by omega))) hZ (hw _ (mi 190 rfl)) (hw _ (mi 9 rfl)) (by decide) (by decide)) q103a q103c (g := K101.g) rfl (by rw [hml]; rfl) (Steps.refl _) (argsL := [(.int (1 : Int32)), (.ref a35)]) (rest := []) (lenOf pd_za rfl) rfl (by show 2 * 0 + _ ≤ _; exact Nat.le_of_eq rfl) (hb hby at_378) (fun _ _ => ⟨rfl, (rfl : T100.heap = T100.heap), (by decide : 36 + 0 ≤ _), (by decide : 462 + 0 ≤ _)⟩)
      dsimp only [Pt.U, Pt.locs, Pt.cells, Pt.slots] at X103 l103 y103 z103 st103 hQ103
      subst l103 y103 z103
      obtain ⟨rfl, N103q, W103⟩ := hQ103
      have N103 := Fr.app N100 N103q
      have K104 : Rc K0 T103 (mkF m 391 #[sI p1, sI p2, sI p3, sI p4, sI (Int32.ofNat u), sI (own_bi fb), sI (own_bi ab), sR a7, sR a21, sR a35, sR a49, sR a53, sR a55, sR a59, sI 1, sR a7, sI (own_bi (own_exp (upd (upd (upd (upd zD 0 (kD dz9)) 1 (kD dz12)) 2 (kD dz15)) 3 (kD dz18)) (upd (upd (upd (upd zD 0 (kD dz37)) 1 (kD dz40)) 2 (kD dz43)) 3 (kD dz46)) u))] [(kI 1)]) := fun t k => K101 t (st103.trans (by
        refine XS.iload X103.here hx rfl (hb hby at_381) rfl ?_
        refine XS.icmpNo X103.here hx rfl (hb hby at_383) rfl (teq (congrArg own_bi (own_zr_exp hu1 hu4 (fun j hj => congrArg own_dv (own_blk (d := 0) (by omega) hj)) (fun j => rfl)))).2 ?_
        refine XS.iconst X103.here hx rfl (hb hby at_386) ?_
        refine XS.goto X103.here hx rfl (pc0 := 387) (pc' := 391) rfl (hb hby at_387) (by decide) (by decide) ?_
        exact k))
      obtain ⟨fs, hr, hrun, hended, hWm, hsame⟩ := X103.leave (v := some (.int (1 : Int32))) (fun h => by rw [Bd.returns] at h; cases h)
      refine ⟨_, _, pre0 _ (K104 _ (retN X103 hx (t := .boolean) Bd.returns (by simp) (hb hby at_391) hr)), hrun, hended, _, _, rfl, ?_, ⟨_, rfl⟩, hWm, hsame.mono (by decide) (by decide)⟩
      show Qrm0 Z p1 p2 p3 p4 n0 _ T103.heap _
      exact ⟨rfl, N103⟩
  · have hfb := Bool.eq_false_iff.mpr hf
    have K105 : Rc K0 T61 (mkF m 231 #[sI p1, sI p2, sI p3, sI p4, sI (Int32.ofNat u), sI (own_bi fb), sI (own_bi ab), sR a7, sR a21, sR a35, sR a49, sR a53, sR a55, sR a59, sI 0, sU, sU] [(kI (Int32.ofNat u)), (kR a7), (kI 0), .null, (kR a59)]) := fun t k => K62 t (by
      refine XS.ifYes X61.here hx rfl (pc0 := 184) (pc' := 223) rfl (hb hby at_184) rfl ((if0 _ _).trans (teq (show own_bi fb = 0 from by rw [hfb]; rfl)).1) (by decide) (by decide) ?_
      refine XS.aload X61.here hx rfl (hb hby at_223) rfl rfl ?_
      refine XS.aconstNull X61.here hx rfl (hb hby at_225) ?_
      refine XS.iconst X61.here hx rfl (hb hby at_226) ?_
      refine XS.aload X61.here hx rfl (hb hby at_227) rfl rfl ?_
      refine XS.iload X61.here hx rfl (hb hby at_229) rfl ?_
      exact k)
    have W106 : Wo n0 T61.heap [(a59, oB Z [.null, (kI 0), .null, (kI 0), (kR a4_61), (kR a7_61), (kR a10_61), (kR a13_61), (kR a16_61), (kR a19_61), (kR a22_61), (kI 0), (kI 0), (kI 0), (kI 0), .null]), (a22_61, Ar Z .double 4 zD), (a19_61, Ar Z .int 4 zI), (a16_61, Ar Z .int 2 zI), (a13_61, Ar Z .int 2 zI), (a10_61, Ar Z .int 2 zI), (a7_61, Ar Z .int 2 zI), (a4_61, Ar Z .int 2 zI), (a43_57, Ar Z .double 64 zD), (a40_57, Ar Z .int 64 zI), (a37_57, Ar Z .int 16 zI), (a34_57, Ar Z .int 16 zI), (a31_57, Ar Z .int 17 zI), (a28_57, Ar Z .int 17 zI), (a25_57, Ar Z .int 17 zI), (a22_57, Ar Z .int 17 zI), (a19_57, Ar Z .int 16 zI), (a16_57, Ar Z .int 17 zI), (a13_57, Ar Z .int 17 zI), (a10_57, Ar Z .int 16 zI), (a7_57, Ar Z .int 0 zI), (a4_57, Ar Z .int 0 zI), (a55, oR Z [(kR a4_57), (kR a7_57), (kR a10_57), (kR a13_57), (kR a16_57), (kR a19_57), (kR a22_57), (kR a25_57), (kR a28_57), (kR a31_57), (kR a34_57), (kR a37_57), (kR a40_57), (kR a43_57), (kI 0), .null, (kI 0), .null, .null, .null, .null, .null, .null, (kI 0), (kI 0)]), (a53, Ar Z .int 0 zI), (a49, Ar Z .double 1 (upd zD 0 (kD 4602678819172646912))), (a35, Ar Z .double 4 (upd (upd (upd (upd zD 0 (kD dz37)) 1 (kD dz40)) 2 (kD dz43)) 3 (kD dz46))), (a21, Ar Z .double 4 (upd (upd (upd (upd zD 0 (kD dz23)) 1 (kD dz26)) 2 (kD dz29)) 3 (kD dz32))), (a7, Ar Z .double 4 (upd (upd (upd (upd zD 0 (kD dz9)) 1 (kD dz12)) 2 (kD dz15)) 3 (kD dz18)))] := Wo.pick W61 [7, 0, 1, 2, 3, 4, 5, 6, 8, 9, 10, 11, 12, 13, 14, 15, 16, 17, 18, 19, 20, 21, 22, 23, 24, 25, 26, 27] 28 (by decide +kernel) rfl
    obtain ⟨cq107, kq107, q107a, q107b, q107c⟩ := isOf hZ (rfl : T61.heap = T61.heap) (W106.exa (i := 0) rfl)
    obtain ⟨_, _, ⟨T107, L107, k107, n107⟩, -, X107, ⟨Lc107, hQ107, l107, y107, z107⟩, st107⟩ := X61.virtualBack hx (y := y_st) (z := y_st) hown (mvT hZ (hw _ (mi 65 rfl))) (mvT hZ (hw _ (mi 66 rfl))) (notFace_of_selects (args := #[]) (mvT hZ (hw _ (mi 68 rfl)))) (mvT hZ (hw _ (mi 68 rfl))) (mvT hZ (hw _ (mi 67 rfl))) (by decide) (backOf (W := 0) (rmSTv l Z a0 hw [] a59 a4_61 a7_61 a10_61 a13_61 a16_61 a19_61 a22_61 (0 : Int32) (0 : Int32) a7 (Int32.ofNat u) ((a22_61, Ar Z .double 4 zD) :: (a19_61, Ar Z .int 4 zI) :: (a16_61, Ar Z .int 2 zI) :: (a13_61, Ar Z .int 2 zI) :: (a10_61, Ar Z .int 2 zI) :: (a7_61, Ar Z .int 2 zI) :: (a4_61, Ar Z .int 2 zI) :: (a43_57, Ar Z .double 64 zD) :: (a40_57, Ar Z .int 64 zI) :: (a37_57, Ar Z .int 16 zI) :: (a34_57, Ar Z .int 16 zI) :: (a31_57, Ar Z .int 17 zI) :: (a28_57, Ar Z .int 17 zI) :: (a25_57, Ar Z .int 17 zI) :: (a22_57, Ar Z .int 17 zI) :: (a19_57, Ar Z .int 16 zI) :: (a16_57, Ar Z .int 17 zI) :: (a13_57, Ar Z .int 17 zI) :: (a10_57, Ar Z .int 16 zI) :: (a7_57, Ar Z .int 0 zI) :: (a4_57, Ar Z .int 0 zI) :: (a55, oR Z [(kR a4_57), (kR a7_57), (kR a10_57), (kR a13_57), (kR a16_57), (kR a19_57), (kR a22_57), (kR a25_57), (kR a28_57), (kR a31_57), (kR a34_57), (kR a37_57), (kR a40_57), (kR a43_57), (kI 0), .null, (kI 0), .null, .null, .null, .null, .null, .null, (kI 0), (kI 0)]) :: (a53, Ar Z .int 0 zI) :: (a49, Ar Z .double 1 (upd zD 0 (kD 4602678819172646912))) :: (a35, Ar Z .double 4 (upd (upd (upd (upd zD 0 (kD dz37)) 1 (kD dz40)) 2 (kD dz43)) 3 (kD dz46))) :: (a21, Ar Z .double 4 (upd (upd (upd (upd zD 0 (kD dz23)) 1 (kD dz26)) 2 (kD dz29)) 3 (kD dz32))) :: (a7, Ar Z .double 4 (upd (upd (upd (upd zD 0 (kD dz9)) 1 (kD dz12)) 2 (kD dz15)) 3 (kD dz18))) :: []) T61.heap n0 W106) hZ (hw _ (mi 69 rfl)) (hw _ (mi 46 rfl)) (by decide) (by decide)) q107a q107c (g := K105.g) rfl (by rw [hml]; rfl) (Steps.refl _) (argsL := [.null, (.int (0 : Int32)), (.ref a7), (.int (Int32.ofNat u))]) (rest := []) (lenOf pd_st rfl) rfl (by show 2 * 0 + _ ≤ _; exact Nat.le_of_eq rfl) (hb hby at_231) (fun _ _ => ⟨rfl, (rfl : T61.heap = T61.heap), (by decide : 28 + 0 ≤ _), (by decide : 370 + 0 ≤ _)⟩)
    dsimp only [Pt.U, Pt.locs, Pt.cells, Pt.slots] at X107 l107 y107 z107 st107 hQ107
    subst l107 y107 z107
    obtain ⟨rfl, N107q, W107⟩ := hQ107
    have N107 := Fr.app N61 N107q
    have K108 : Rc K0 T107 (mkF m 236 #[sI p1, sI p2, sI p3, sI p4, sI (Int32.ofNat u), sI (own_bi fb), sI (own_bi ab), sR a7, sR a21, sR a35, sR a49, sR a53, sR a55, sR a59, sI 0, sU, sU] [(kR a59)]) := fun t k => K105 t (st107.trans (XS.aload X107.here hx rfl (hb hby at_234) rfl rfl k))
    have W109 : Wo n0 T107.heap [(a59, oB Z [.null, (kI 0), (kR a7), (kI (Int32.ofNat u)), (kR a4_61), (kR a7_61), (kR a10_61), (kR a13_61), (kR a16_61), (kR a19_61), (kR a22_61), (kI 0), (kI 0), (kI 0), (kI 0), .null]), (a4_61, Ar Z .int 2 zI), (a10_61, Ar Z .int 2 zI), (a16_61, Ar Z .int 2 zI), (a22_61, Ar Z .double 4 zD), (a19_61, Ar Z .int 4 zI), (a13_61, Ar Z .int 2 zI), (a7_61, Ar Z .int 2 zI), (a43_57, Ar Z .double 64 zD), (a40_57, Ar Z .int 64 zI), (a37_57, Ar Z .int 16 zI), (a34_57, Ar Z .int 16 zI), (a31_57, Ar Z .int 17 zI), (a28_57, Ar Z .int 17 zI), (a25_57, Ar Z .int 17 zI), (a22_57, Ar Z .int 17 zI), (a19_57, Ar Z .int 16 zI), (a16_57, Ar Z .int 17 zI), (a13_57, Ar Z .int 17 zI), (a10_57, Ar Z .int 16 zI), (a7_57, Ar Z .int 0 zI), (a4_57, Ar Z .int 0 zI), (a55, oR Z [(kR a4_57), (kR a7_57), (kR a10_57), (kR a13_57), (kR a16_57), (kR a19_57), (kR a22_57), (kR a25_57), (kR a28_57), (kR a31_57), (kR a34_57), (kR a37_57), (kR a40_57), (kR a43_57), (kI 0), .null, (kI 0), .null, .null, .null, .null, .null, .null, (kI 0), (kI 0)]), (a53, Ar Z .int 0 zI), (a49, Ar Z .double 1 (upd zD 0 (kD 4602678819172646912))), (a35, Ar Z .double 4 (upd (upd (upd (upd zD 0 (kD dz37)) 1 (kD dz40)) 2 (kD dz43)) 3 (kD dz46))), (a21, Ar Z .double 4 (upd (upd (upd (upd zD 0 (kD dz23)) 1 (kD dz26)) 2 (kD dz29)) 3 (kD dz32))), (a7, Ar Z .double 4 (upd (upd (upd (upd zD 0 (kD dz9)) 1 (kD dz12)) 2 (kD dz15)) 3 (kD dz18)))] := Wo.pick W107 [0, 7, 5, 3, 1, 2, 4, 6, 8, 9, 10, 11, 12, 13, 14, 15, 16, 17, 18, 19, 20, 21, 22, 23, 24, 25, 26, 27] 28 (by decide +kernel) rfl
    obtain ⟨cq110, kq110, q110a, q110b, q110c⟩ := isOf hZ (rfl : T107.heap = T107.heap) (W109.exa (i := 0) rfl)
    obtain ⟨_, _, ⟨T110, L110, k110, n110⟩, -, X110, ⟨Lc110, hQ110, l110, y110, z110⟩, st110⟩ := X107.virtualBack hx (y := y_sc) (z := y_sc) hown (mvT hZ (hw _ (mi 88 rfl))) (mvT hZ (hw _ (mi 89 rfl))) (notFace_of_selects (args := #[]) (mvT hZ (hw _ (mi 91 rfl)))) (mvT hZ (hw _ (mi 91 rfl))) (mvT hZ (hw _ (mi 90 rfl))) (by decide) (backOf (W := 0) (rmSCv l Z a0 hw [] a59 a4_61 a7_61 a10_61 a13_61 a16_61 a19_61 a22_61 a7 (Int32.ofNat u) zI zI zI ((a22_61, Ar Z .double 4 zD) :: (a19_61, Ar Z .int 4 zI) :: (a13_61, Ar Z .int 2 zI) :: (a7_61, Ar Z .int 2 zI) :: (a43_57, Ar Z .double 64 zD) :: (a40_57, Ar Z .int 64 zI) :: (a37_57, Ar Z .int 16 zI) :: (a34_57, Ar Z .int 16 zI) :: (a31_57, Ar Z .int 17 zI) :: (a28_57, Ar Z .int 17 zI) :: (a25_57, Ar Z .int 17 zI) :: (a22_57, Ar Z .int 17 zI) :: (a19_57, Ar Z .int 16 zI) :: (a16_57, Ar Z .int 17 zI) :: (a13_57, Ar Z .int 17 zI) :: (a10_57, Ar Z .int 16 zI) :: (a7_57, Ar Z .int 0 zI) :: (a4_57, Ar Z .int 0 zI) :: (a55, oR Z [(kR a4_57), (kR a7_57), (kR a10_57), (kR a13_57), (kR a16_57), (kR a19_57), (kR a22_57), (kR a25_57), (kR a28_57), (kR a31_57), (kR a34_57), (kR a37_57), (kR a40_57), (kR a43_57), (kI 0), .null, (kI 0), .null, .null, .null, .null, .null, .null, (kI 0), (kI 0)]) :: (a53, Ar Z .int 0 zI) :: (a49, Ar Z .double 1 (upd zD 0 (kD 4602678819172646912))) :: (a35, Ar Z .double 4 (upd (upd (upd (upd zD 0 (kD dz37)) 1 (kD dz40)) 2 (kD dz43)) 3 (kD dz46))) :: (a21, Ar Z .double 4 (upd (upd (upd (upd zD 0 (kD dz23)) 1 (kD dz26)) 2 (kD dz29)) 3 (kD dz32))) :: (a7, Ar Z .double 4 (upd (upd (upd (upd zD 0 (kD dz9)) 1 (kD dz12)) 2 (kD dz15)) 3 (kD dz18))) :: []) T107.heap n0 W109) hZ (hw _ (mi 92 rfl)) (hw _ (mi 46 rfl)) (by decide) (by decide)) q110a q110c (g := K108.g) rfl (by rw [hml]; rfl) (Steps.refl _) (argsL := []) (rest := []) (lenOf pd_sc rfl) rfl (by show 2 * 0 + _ ≤ _; exact Nat.le_of_eq rfl) (hb hby at_236) (fun _ _ => ⟨rfl, (rfl : T107.heap = T107.heap), (by decide : 28 + 0 ≤ _), (by decide : 370 + 0 ≤ _)⟩)
    dsimp only [Pt.U, Pt.locs, Pt.cells, Pt.slots] at X110 l110 y110 z110 st110 hQ110
    subst l110 y110 z110
    obtain ⟨rfl, N110q, W110⟩ := hQ110
    have N110 := Fr.app N107 N110q
    have K111 : Rc K0 T110 (mkF m 243 #[sI p1, sI p2, sI p3, sI p4, sI (Int32.ofNat u), sI (own_bi fb), sI (own_bi ab), sR a7, sR a21, sR a35, sR a49, sR a53, sR a55, sR a59, sI 0, sU, sU] [(kD 4607182418800017408), (kI 0), (kR a59)]) := fun t k => K108 t (st110.trans (by
      refine XS.aload X110.here hx rfl (hb hby at_239) rfl rfl ?_
      refine XS.iconst X110.here hx rfl (hb hby at_241) ?_
      refine XS.dconst1 X110.here hx rfl (hb hby at_242) rfl ?_
      exact k))
    have W112 : Wo n0 T110.heap [(a59, oB Z [.null, (kI 0), (kR a7), (kI (Int32.ofNat u)), (kR a4_61), (kR a7_61), (kR a10_61), (kR a13_61), (kR a16_61), (kR a19_61), (kR a22_61), (kI 1), (kI 0), (kI 0), (kI 0), .null]), (a16_61, Ar Z .int 2 (upd zI 0 (kI 0))), (a19_61, Ar Z .int 4 zI), (a22_61, Ar Z .double 4 zD), (a4_61, Ar Z .int 2 (upd zI 0 (kI 0))), (a10_61, Ar Z .int 2 (upd zI 0 (kI 0))), (a13_61, Ar Z .int 2 zI), (a7_61, Ar Z .int 2 zI), (a43_57, Ar Z .double 64 zD), (a40_57, Ar Z .int 64 zI), (a37_57, Ar Z .int 16 zI), (a34_57, Ar Z .int 16 zI), (a31_57, Ar Z .int 17 zI), (a28_57, Ar Z .int 17 zI), (a25_57, Ar Z .int 17 zI), (a22_57, Ar Z .int 17 zI), (a19_57, Ar Z .int 16 zI), (a16_57, Ar Z .int 17 zI), (a13_57, Ar Z .int 17 zI), (a10_57, Ar Z .int 16 zI), (a7_57, Ar Z .int 0 zI), (a4_57, Ar Z .int 0 zI), (a55, oR Z [(kR a4_57), (kR a7_57), (kR a10_57), (kR a13_57), (kR a16_57), (kR a19_57), (kR a22_57), (kR a25_57), (kR a28_57), (kR a31_57), (kR a34_57), (kR a37_57), (kR a40_57), (kR a43_57), (kI 0), .null, (kI 0), .null, .null, .null, .null, .null, .null, (kI 0), (kI 0)]), (a53, Ar Z .int 0 zI), (a49, Ar Z .double 1 (upd zD 0 (kD 4602678819172646912))), (a35, Ar Z .double 4 (upd (upd (upd (upd zD 0 (kD dz37)) 1 (kD dz40)) 2 (kD dz43)) 3 (kD dz46))), (a21, Ar Z .double 4 (upd (upd (upd (upd zD 0 (kD dz23)) 1 (kD dz26)) 2 (kD dz29)) 3 (kD dz32))), (a7, Ar Z .double 4 (upd (upd (upd (upd zD 0 (kD dz9)) 1 (kD dz12)) 2 (kD dz15)) 3 (kD dz18)))] := Wo.pick W110 [0, 3, 5, 4, 1, 2, 6, 7, 8, 9, 10, 11, 12, 13, 14, 15, 16, 17, 18, 19, 20, 21, 22, 23, 24, 25, 26, 27] 28 (by decide +kernel) rfl
    obtain ⟨cq113, kq113, q113a, q113b, q113c⟩ := isOf hZ (rfl : T110.heap = T110.heap) (W112.exa (i := 0) rfl)
    obtain ⟨_, _, ⟨T113, L113, k113, n113⟩, -, X113, ⟨Lc113, hQ113, l113, y113, z113⟩, st113⟩ := X110.virtualBack hx (y := y_am) (z := y_am) hown (mvT hZ (hw _ (mi 93 rfl))) (mvT hZ (hw _ (mi 94 rfl))) (notFace_of_selects (args := #[]) (mvT hZ (hw _ (mi 96 rfl)))) (mvT hZ (hw _ (mi 96 rfl))) (mvT hZ (hw _ (mi 95 rfl))) (by decide) (backOf (W := 0) (rmAMv l Z a0 hw [] a59 a4_61 a7_61 a10_61 a13_61 a16_61 a19_61 a22_61 a7 (Int32.ofNat u) (upd zI 0 (kI 0)) zI zD ((a4_61, Ar Z .int 2 (upd zI 0 (kI 0))) :: (a10_61, Ar Z .int 2 (upd zI 0 (kI 0))) :: (a13_61, Ar Z .int 2 zI) :: (a7_61, Ar Z .int 2 zI) :: (a43_57, Ar Z .double 64 zD) :: (a40_57, Ar Z .int 64 zI) :: (a37_57, Ar Z .int 16 zI) :: (a34_57, Ar Z .int 16 zI) :: (a31_57, Ar Z .int 17 zI) :: (a28_57, Ar Z .int 17 zI) :: (a25_57, Ar Z .int 17 zI) :: (a22_57, Ar Z .int 17 zI) :: (a19_57, Ar Z .int 16 zI) :: (a16_57, Ar Z .int 17 zI) :: (a13_57, Ar Z .int 17 zI) :: (a10_57, Ar Z .int 16 zI) :: (a7_57, Ar Z .int 0 zI) :: (a4_57, Ar Z .int 0 zI) :: (a55, oR Z [(kR a4_57), (kR a7_57), (kR a10_57), (kR a13_57), (kR a16_57), (kR a19_57), (kR a22_57), (kR a25_57), (kR a28_57), (kR a31_57), (kR a34_57), (kR a37_57), (kR a40_57), (kR a43_57), (kI 0), .null, (kI 0), .null, .null, .null, .null, .null, .null, (kI 0), (kI 0)]) :: (a53, Ar Z .int 0 zI) :: (a49, Ar Z .double 1 (upd zD 0 (kD 4602678819172646912))) :: (a35, Ar Z .double 4 (upd (upd (upd (upd zD 0 (kD dz37)) 1 (kD dz40)) 2 (kD dz43)) 3 (kD dz46))) :: (a21, Ar Z .double 4 (upd (upd (upd (upd zD 0 (kD dz23)) 1 (kD dz26)) 2 (kD dz29)) 3 (kD dz32))) :: (a7, Ar Z .double 4 (upd (upd (upd (upd zD 0 (kD dz9)) 1 (kD dz12)) 2 (kD dz15)) 3 (kD dz18))) :: []) T110.heap n0 W112 rfl) hZ (hw _ (mi 97 rfl)) (hw _ (mi 46 rfl)) (by decide) (by decide)) q113a q113c (g := K111.g) rfl (by rw [hml]; rfl) (Steps.refl _) (argsL := [(.int (0 : Int32)), (.double (4607182418800017408 : UInt64))]) (rest := []) (lenOf pd_am rfl) rfl (by show 2 * 0 + _ ≤ _; exact Nat.le_of_eq rfl) (hb hby at_243) (fun _ _ => ⟨rfl, (rfl : T110.heap = T110.heap), (by decide : 28 + 0 ≤ _), (by decide : 370 + 0 ≤ _)⟩)
    dsimp only [Pt.U, Pt.locs, Pt.cells, Pt.slots] at X113 l113 y113 z113 st113 hQ113
    subst l113 y113 z113
    obtain ⟨rfl, N113q, W113⟩ := hQ113
    have N113 := Fr.app N110 N113q
    have K114 : Rc K0 T113 (mkF m 254 #[sI p1, sI p2, sI p3, sI p4, sI (Int32.ofNat u), sI (own_bi fb), sI (own_bi ab), sR a7, sR a21, sR a35, sR a49, sR a53, sR a55, sR a59, sI 0, sU, sU] [(kI (-1)), (kR a53), (kR a59), (kR a55)]) := fun t k => K111 t (st113.trans (by
      refine XS.pop X113.here hx rfl (hb hby at_246) rfl rfl ?_
      refine XS.aload X113.here hx rfl (hb hby at_247) rfl rfl ?_
      refine XS.aload X113.here hx rfl (hb hby at_249) rfl rfl ?_
      refine XS.aload X113.here hx rfl (hb hby at_251) rfl rfl ?_
      refine XS.iconst X113.here hx rfl (hb hby at_253) ?_
      exact k))
    have W115 : Wo n0 T113.heap [(a55, oR Z [(kR a4_57), (kR a7_57), (kR a10_57), (kR a13_57), (kR a16_57), (kR a19_57), (kR a22_57), (kR a25_57), (kR a28_57), (kR a31_57), (kR a34_57), (kR a37_57), (kR a40_57), (kR a43_57), (kI 0), .null, (kI 0), .null, .null, .null, .null, .null, .null, (kI 0), (kI 0)]), (a59, oB Z [.null, (kI 0), (kR a7), (kI (Int32.ofNat u)), (kR a4_61), (kR a7_61), (kR a10_61), (kR a13_61), (kR a16_61), (kR a19_61), (kR a22_61), (kI 1), (kI 0), (kI 0), (kI 1), .null]), (a4_57, Ar Z .int 0 zI), (a7_57, Ar Z .int 0 zI), (a10_57, Ar Z .int 16 zI), (a13_57, Ar Z .int 17 zI), (a16_57, Ar Z .int 17 zI), (a19_57, Ar Z .int 16 zI), (a22_57, Ar Z .int 17 zI), (a25_57, Ar Z .int 17 zI), (a28_57, Ar Z .int 17 zI), (a31_57, Ar Z .int 17 zI), (a34_57, Ar Z .int 16 zI), (a37_57, Ar Z .int 16 zI), (a40_57, Ar Z .int 64 zI), (a43_57, Ar Z .double 64 zD), (a4_61, Ar Z .int 2 (upd zI 0 (kI 0))), (a10_61, Ar Z .int 2 (upd zI 0 (kI 0))), (a16_61, Ar Z .int 2 (upd zI 0 (kI 0))), (a7_61, Ar Z .int 2 zI), (a13_61, Ar Z .int 2 zI), (a19_61, Ar Z .int 4 (upd zI 0 (kI 0))), (a22_61, Ar Z .double 4 (upd zD 0 (kD 4607182418800017408))), (a53, Ar Z .int 0 zI), (a7, Ar Z .double 4 (upd (upd (upd (upd zD 0 (kD dz9)) 1 (kD dz12)) 2 (kD dz15)) 3 (kD dz18))), (a49, Ar Z .double 1 (upd zD 0 (kD 4602678819172646912))), (a35, Ar Z .double 4 (upd (upd (upd (upd zD 0 (kD dz37)) 1 (kD dz40)) 2 (kD dz43)) 3 (kD dz46))), (a21, Ar Z .double 4 (upd (upd (upd (upd zD 0 (kD dz23)) 1 (kD dz26)) 2 (kD dz29)) 3 (kD dz32)))] := Wo.pick W113 [22, 0, 21, 20, 19, 18, 17, 16, 15, 14, 13, 12, 11, 10, 9, 8, 4, 5, 1, 7, 6, 2, 3, 23, 27, 24, 25, 26] 28 (by decide +kernel) rfl
    obtain ⟨cq116, kq116, q116a, q116b, q116c⟩ := isOf hZ (rfl : T113.heap = T113.heap) (W115.exa (i := 0) rfl)
    obtain ⟨_, _, ⟨T116, L116, k116, n116⟩, -, X116, ⟨Lc116, hQ116, l116, y116, z116⟩, st116⟩ := X113.virtualBack hx (y := y_add) (z := y_add) hown (mvT hZ (hw _ (mi 98 rfl))) (mvT hZ (hw _ (mi 99 rfl))) (notFace_of_selects (args := #[]) (mvT hZ (hw _ (mi 101 rfl)))) (mvT hZ (hw _ (mi 101 rfl))) (mvT hZ (hw _ (mi 100 rfl))) (by decide) (backOf (W := 0) (rmADV0 l Z a0 hw [] a55 a4_57 a7_57 a10_57 a13_57 a16_57 a19_57 a22_57 a25_57 a28_57 a31_57 a34_57 a37_57 a40_57 a43_57 a59 a4_61 a7_61 a10_61 a13_61 a16_61 a19_61 a22_61 a53 a7 u zI zI zI zI zI zI zI zI zI zI zI zI zI zD (upd zI 0 (kI 0)) (upd zI 0 (kI 0)) (upd zI 0 (kI 0)) zI zI (upd zI 0 (kI 0)) (upd zD 0 (kD 4607182418800017408)) zI (upd (upd (upd (upd zD 0 (kD dz9)) 1 (kD dz12)) 2 (kD dz15)) 3 (kD dz18)) ((a49, Ar Z .double 1 (upd zD 0 (kD 4602678819172646912))) :: (a35, Ar Z .double 4 (upd (upd (upd (upd zD 0 (kD dz37)) 1 (kD dz40)) 2 (kD dz43)) 3 (kD dz46))) :: (a21, Ar Z .double 4 (upd (upd (upd (upd zD 0 (kD dz23)) 1 (kD dz26)) 2 (kD dz29)) 3 (kD dz32))) :: []) T113.heap n0 W115 (by omega) (by omega) rfl rfl rfl rfl rfl rfl rfl rfl rfl) hZ (hw _ (mi 102 rfl)) (hw _ (mi 9 rfl)) (by decide) (by decide)) q116a q116c (g := K114.g) rfl (by rw [hml]; rfl) (Steps.refl _) (argsL := [(.ref a59), (.ref a53), (.int (-1 : Int32))]) (rest := []) (lenOf pd_add rfl) rfl (by show 2 * 0 + _ ≤ _; exact Nat.le_of_eq rfl) (hb hby at_254) (fun _ _ => ⟨rfl, (rfl : T113.heap = T113.heap), (by decide : 28 + 8 ≤ _), (by decide : 370 + 92 ≤ _)⟩)
    dsimp only [Pt.U, Pt.locs, Pt.cells, Pt.slots] at X116 l116 y116 z116 st116 hQ116
    subst l116 y116 z116
    obtain ⟨a26_138_116, a36_138_116, a6_138_116, a9_138_116, a12_138_116, a15_138_116, a18_138_116, a21_138_116, rfl, N116q, W116⟩ := hQ116
    have N116 := Fr.app N113 N116q
    have K117 : Rc K0 T116 (mkF m 260 #[sI p1, sI p2, sI p3, sI p4, sI (Int32.ofNat u), sI (own_bi fb), sI (own_bi ab), sR a7, sR a21, sR a35, sR a49, sR a53, sR a55, sR a59, sI 0, sU, sU] [(kI (own_bi ab))]) := fun t k => K114 t (st116.trans (by
      refine XS.pop X116.here hx rfl (hb hby at_257) rfl rfl ?_
      refine XS.iload X116.here hx rfl (hb hby at_258) rfl ?_
      exact k))
    by_cases ha : ab = true
    · have hab := ha
      have K118 : Rc K0 T116 (mkF m 273 #[sI p1, sI p2, sI p3, sI p4, sI (Int32.ofNat u), sI (own_bi fb), sI (own_bi ab), sR a7, sR a21, sR a35, sR a49, sR a53, sR a55, sR a59, sI 0, sU, sU] [(kI (Int32.ofNat u)), (kR a21), (kR a49), (kI 0), (kR a55)]) := fun t k => K117 t (by
        refine XS.ifNo X116.here hx rfl (hb hby at_260) rfl ((if0 _ _).trans (feq (show ¬ (own_bi ab = 0) from by rw [hab]; decide)).1) ?_
        refine XS.aload X116.here hx rfl (hb hby at_263) rfl rfl ?_
        refine XS.iload X116.here hx rfl (hb hby at_265) rfl ?_
        refine XS.aload X116.here hx rfl (hb hby at_267) rfl rfl ?_
        refine XS.aload X116.here hx rfl (hb hby at_269) rfl rfl ?_
        refine XS.iload X116.here hx rfl (hb hby at_271) rfl ?_
        exact k)
      have W119 : Wo n0 T116.heap [(a55, oR Z [(kR a4_57), (kR a7_57), (kR a10_57), (kR a13_57), (kR a16_57), (kR a19_57), (kR a22_57), (kR a25_57), (kR a28_57), (kR a31_57), (kR a34_57), (kR a37_57), (kR a40_57), (kR a43_57), (kI 1), (kR a6_138_116), (kI 1), (kR a9_138_116), (kR a12_138_116), (kR a15_138_116), (kR a18_138_116), (kR a21_138_116), (kR a26_138_116), (kI 2), (kI (Int32.ofNat (u + 1)))]), (a31_57, Ar Z .int 17 (upd (upd zI 0 (kI 0)) 1 (kI 1))), (a13_57, Ar Z .int 17 (upd zI 1 (kI 1))), (a26_138_116, Pg Z .double 4 (upd (upd zN 0 (kR a43_57)) 1 (kR a36_138_116))), (a36_138_116, Ar Z .double 64 (cpy (upd zD 0 (kD 4607182418800017408)) (cpy (upd (upd (upd (upd zD 0 (kD dz9)) 1 (kD dz12)) 2 (kD dz15)) 3 (kD dz18)) zD 0 0 u) 0 u 1)), (a6_138_116, Ar Z .int 4 (upd (upd zI 0 (kI (-1))) 0 (kI 0))), (a9_138_116, Ar Z .int 4 (upd zI 0 (kI 0))), (a12_138_116, Ar Z .int 4 (upd zI 0 (kI (-1)))), (a15_138_116, Ar Z .int 4 (upd zI 0 (kI 1))), (a18_138_116, Ar Z .int 4 (upd zI 0 (kI ((Int32.ofNat u) - (0 : Int32))))), (a21_138_116, Ar Z .int 4 (upd zI 0 (kI (Int32.ofNat u)))), (a21, Ar Z .double 4 (upd (upd (upd (upd zD 0 (kD dz23)) 1 (kD dz26)) 2 (kD dz29)) 3 (kD dz32))), (a49, Ar Z .double 1 (upd zD 0 (kD 4602678819172646912))), (a7, Ar Z .double 4 (upd (upd (upd (upd zD 0 (kD dz9)) 1 (kD dz12)) 2 (kD dz15)) 3 (kD dz18))), (a22_61, Ar Z .double 4 (upd zD 0 (kD 4607182418800017408))), (a43_57, Ar Z .double 64 zD), (a59, oB Z [.null, (kI 0), (kR a7), (kI (Int32.ofNat u)), (kR a4_61), (kR a7_61), (kR a10_61), (kR a13_61), (kR a16_61), (kR a19_61), (kR a22_61), (kI 1), (kI 0), (kI 0), (kI 1), .null]), (a4_57, Ar Z .int 0 zI), (a7_57, Ar Z .int 0 (cpy zI zI 0 0 0)), (a10_57, Ar Z .int 16 (upd zI 0 (kI (-1)))), (a16_57, Ar Z .int 17 (upd zI 1 (kI 0))), (a19_57, Ar Z .int 16 (upd zI 0 (kI (-1)))), (a22_57, Ar Z .int 17 (upd zI 1 (kI 0))), (a25_57, Ar Z .int 17 (upd (upd zI 0 (kI 0)) 1 (kI 0))), (a28_57, Ar Z .int 17 (upd (upd zI 0 (kI 0)) 1 (kI 0))), (a34_57, Ar Z .int 16 (cpy zI zI 0 0 0)), (a37_57, Ar Z .int 16 (cpy zI zI 0 0 0)), (a40_57, Ar Z .int 64 (cpy (upd zI 0 (kI 0)) zI 0 0 1)), (a4_61, Ar Z .int 2 (upd zI 0 (kI 0))), (a10_61, Ar Z .int 2 (upd zI 0 (kI 0))), (a16_61, Ar Z .int 2 (upd zI 0 (kI 0))), (a7_61, Ar Z .int 2 zI), (a13_61, Ar Z .int 2 zI), (a19_61, Ar Z .int 4 (upd zI 0 (kI 0))), (a53, Ar Z .int 0 zI), (a35, Ar Z .double 4 (upd (upd (upd (upd zD 0 (kD dz37)) 1 (kD dz40)) 2 (kD dz43)) 3 (kD dz46)))] := Wo.pick W116 [0, 1, 2, 3, 4, 5, 6, 7, 8, 9, 10, 35, 33, 11, 12, 13, 14, 15, 16, 17, 18, 19, 20, 21, 22, 23, 24, 25, 26, 27, 28, 29, 30, 31, 32, 34] 36 (by decide +kernel) rfl
      obtain ⟨cq120, kq120, q120a, q120b, q120c⟩ := isOf hZ (rfl : T116.heap = T116.heap) (W119.exa (i := 0) rfl)
      obtain ⟨_, _, ⟨T120, L120, k120, n120⟩, -, X120, ⟨Lc120, hQ120, l120, y120, z120⟩, st120⟩ := X116.virtualBack hx (y := y_ts) (z := y_ts) hown (mvT hZ (hw _ (mi 191 rfl))) (mvT hZ (hw _ (mi 192 rfl))) (notFace_of_selects (args := #[]) (mvT hZ (hw _ (mi 194 rfl)))) (mvT hZ (hw _ (mi 194 rfl))) (mvT hZ (hw _ (mi 193 rfl))) (by decide) (backOf (W := 0) (rmTS01 l Z a0 hw [] a55 a4_57 a7_57 a10_57 a13_57 a16_57 a19_57 a22_57 a25_57 a28_57 a31_57 a34_57 a37_57 a40_57 a43_57 a6_138_116 a9_138_116 a12_138_116 a15_138_116 a18_138_116 a21_138_116 a26_138_116 a36_138_116 a21 a49 u (upd (upd zI 0 (kI 0)) 1 (kI 1)) (upd zI 1 (kI 1)) (upd (upd zN 0 (kR a43_57)) 1 (kR a36_138_116)) (cpy (upd zD 0 (kD 4607182418800017408)) (cpy (upd (upd (upd (upd zD 0 (kD dz9)) 1 (kD dz12)) 2 (kD dz15)) 3 (kD dz18)) zD 0 0 u) 0 u 1) (upd (upd zI 0 (kI (-1))) 0 (kI 0)) (upd zI 0 (kI 0)) (upd zI 0 (kI (-1))) (upd zI 0 (kI 1)) (upd zI 0 (kI ((Int32.ofNat u) - (0 : Int32)))) (upd zI 0 (kI (Int32.ofNat u))) (upd (upd (upd (upd zD 0 (kD dz23)) 1 (kD dz26)) 2 (kD dz29)) 3 (kD dz32)) (upd zD 0 (kD 4602678819172646912)) ((a7, Ar Z .double 4 (upd (upd (upd (upd zD 0 (kD dz9)) 1 (kD dz12)) 2 (kD dz15)) 3 (kD dz18))) :: (a22_61, Ar Z .double 4 (upd zD 0 (kD 4607182418800017408))) :: (a43_57, Ar Z .double 64 zD) :: (a59, oB Z [.null, (kI 0), (kR a7), (kI (Int32.ofNat u)), (kR a4_61), (kR a7_61), (kR a10_61), (kR a13_61), (kR a16_61), (kR a19_61), (kR a22_61), (kI 1), (kI 0), (kI 0), (kI 1), .null]) :: (a4_57, Ar Z .int 0 zI) :: (a7_57, Ar Z .int 0 (cpy zI zI 0 0 0)) :: (a10_57, Ar Z .int 16 (upd zI 0 (kI (-1)))) :: (a16_57, Ar Z .int 17 (upd zI 1 (kI 0))) :: (a19_57, Ar Z .int 16 (upd zI 0 (kI (-1)))) :: (a22_57, Ar Z .int 17 (upd zI 1 (kI 0))) :: (a25_57, Ar Z .int 17 (upd (upd zI 0 (kI 0)) 1 (kI 0))) :: (a28_57, Ar Z .int 17 (upd (upd zI 0 (kI 0)) 1 (kI 0))) :: (a34_57, Ar Z .int 16 (cpy zI zI 0 0 0)) :: (a37_57, Ar Z .int 16 (cpy zI zI 0 0 0)) :: (a40_57, Ar Z .int 64 (cpy (upd zI 0 (kI 0)) zI 0 0 1)) :: (a4_61, Ar Z .int 2 (upd zI 0 (kI 0))) :: (a10_61, Ar Z .int 2 (upd zI 0 (kI 0))) :: (a16_61, Ar Z .int 2 (upd zI 0 (kI 0))) :: (a7_61, Ar Z .int 2 zI) :: (a13_61, Ar Z .int 2 zI) :: (a19_61, Ar Z .int 4 (upd zI 0 (kI 0))) :: (a53, Ar Z .int 0 zI) :: (a35, Ar Z .double 4 (upd (upd (upd (upd zD 0 (kD dz37)) 1 (kD dz40)) 2 (kD dz43)) 3 (kD dz46))) :: []) T116.heap n0 W119 (by omega) (by omega) rfl rfl rfl rfl rfl rfl) hZ (hw _ (mi 195 rfl)) (hw _ (mi 9 rfl)) (by decide) (by decide)) q120a q120c (g := K118.g) rfl (by rw [hml]; rfl) (Steps.refl _) (argsL := [(.int (0 : Int32)), (.ref a49), (.ref a21), (.int (Int32.ofNat u))]) (rest := []) (lenOf pd_ts rfl) rfl (by show 2 * 0 + _ ≤ _; exact Nat.le_of_eq rfl) (hb hby at_273) (fun _ _ => ⟨rfl, (rfl : T116.heap = T116.heap), (by decide : 36 + 0 ≤ _), (by decide : 462 + 0 ≤ _)⟩)
      dsimp only [Pt.U, Pt.locs, Pt.cells, Pt.slots] at X120 l120 y120 z120 st120 hQ120
      subst l120 y120 z120
      obtain ⟨rfl, N120q, W120⟩ := hQ120
      have N120 := Fr.app N116 N120q
      have K121 : Rc K0 T120 (mkF m 291 #[sI p1, sI p2, sI p3, sI p4, sI (Int32.ofNat u), sI (own_bi fb), sI (own_bi ab), sR a7, sR a21, sR a35, sR a49, sR a53, sR a55, sR a59, sI 0, sR a21, sU] []) := fun t k => K118 t (st120.trans (by
        refine XS.pop X120.here hx rfl (hb hby at_276) rfl rfl ?_
        refine XS.iload X120.here hx rfl (hb hby at_277) rfl ?_
        refine XS.ifNo X120.here hx rfl (hb hby at_279) rfl ((if0 _ _).trans (feq (show ¬ (own_bi ab = 0) from by rw [hab]; decide)).1) ?_
        refine XS.aload X120.here hx rfl (hb hby at_282) rfl rfl ?_
        refine XS.goto X120.here hx rfl (pc0 := 284) (pc' := 289) rfl (hb hby at_284) (by decide) (by decide) ?_
        refine XS.astore X120.here hx rfl (hb hby at_289) rfl rfl (l' := #[sI p1, sI p2, sI p3, sI p4, sI (Int32.ofNat u), sI (own_bi fb), sI (own_bi ab), sR a7, sR a21, sR a35, sR a49, sR a53, sR a55, sR a59, sI 0, sR a21, sU]) rfl ?_
        exact k))
      have W122 : Wo n0 T120.heap [(a21, Ar Z .double 4 (upd (upd (upd (upd zD 0 (kD dz23)) 1 (kD dz26)) 2 (kD dz29)) 3 (kD dz32))), (a35, Ar Z .double 4 (upd (upd (upd (upd zD 0 (kD dz37)) 1 (kD dz40)) 2 (kD dz43)) 3 (kD dz46))), (a55, oR Z [(kR a4_57), (kR a7_57), (kR a10_57), (kR a13_57), (kR a16_57), (kR a19_57), (kR a22_57), (kR a25_57), (kR a28_57), (kR a31_57), (kR a34_57), (kR a37_57), (kR a40_57), (kR a43_57), (kI 1), (kR a6_138_116), (kI 2), (kR a9_138_116), (kR a12_138_116), (kR a15_138_116), (kR a18_138_116), (kR a21_138_116), (kR a26_138_116), (kI 2), (kI (Int32.ofNat ((u + 1) + (u + 1))))]), (a31_57, Ar Z .int 17 (upd (upd zI 0 (kI 0)) 1 (kI 1))), (a13_57, Ar Z .int 17 (upd zI 1 (kI 1))), (a26_138_116, Pg Z .double 4 (upd (upd zN 0 (kR a43_57)) 1 (kR a36_138_116))), (a36_138_116, Ar Z .double 64 (cpy (upd zD 0 (kD 4602678819172646912)) (cpy (upd (upd (upd (upd zD 0 (kD dz23)) 1 (kD dz26)) 2 (kD dz29)) 3 (kD dz32)) (cpy (upd zD 0 (kD 4607182418800017408)) (cpy (upd (upd (upd (upd zD 0 (kD dz9)) 1 (kD dz12)) 2 (kD dz15)) 3 (kD dz18)) zD 0 0 u) 0 u 1) 0 (u + 1) u) 0 ((u + 1) + u) 1)), (a6_138_116, Ar Z .int 4 (upd (upd (upd zI 0 (kI (-1))) 0 (kI 0)) 0 (kI 1))), (a9_138_116, Ar Z .int 4 (upd (upd zI 0 (kI 0)) 1 (kI 0))), (a12_138_116, Ar Z .int 4 (upd (upd zI 0 (kI (-1))) 1 (kI 0))), (a15_138_116, Ar Z .int 4 (upd (upd zI 0 (kI 1)) 1 (kI 1))), (a18_138_116, Ar Z .int 4 (upd (upd zI 0 (kI ((Int32.ofNat u) - (0 : Int32)))) 1 (kI ((Int32.ofNat ((u + 1) + u)) - (0 : Int32))))), (a21_138_116, Ar Z .int 4 (upd (upd zI 0 (kI (Int32.ofNat u))) 1 (kI (Int32.ofNat u)))), (a49, Ar Z .double 1 (upd zD 0 (kD 4602678819172646912))), (a7, Ar Z .double 4 (upd (upd (upd (upd zD 0 (kD dz9)) 1 (kD dz12)) 2 (kD dz15)) 3 (kD dz18))), (a22_61, Ar Z .double 4 (upd zD 0 (kD 4607182418800017408))), (a43_57, Ar Z .double 64 zD), (a59, oB Z [.null, (kI 0), (kR a7), (kI (Int32.ofNat u)), (kR a4_61), (kR a7_61), (kR a10_61), (kR a13_61), (kR a16_61), (kR a19_61), (kR a22_61), (kI 1), (kI 0), (kI 0), (kI 1), .null]), (a4_57, Ar Z .int 0 zI), (a7_57, Ar Z .int 0 (cpy zI zI 0 0 0)), (a10_57, Ar Z .int 16 (upd zI 0 (kI (-1)))), (a16_57, Ar Z .int 17 (upd zI 1 (kI 0))), (a19_57, Ar Z .int 16 (upd zI 0 (kI (-1)))), (a22_57, Ar Z .int 17 (upd zI 1 (kI 0))), (a25_57, Ar Z .int 17 (upd (upd zI 0 (kI 0)) 1 (kI 0))), (a28_57, Ar Z .int 17 (upd (upd zI 0 (kI 0)) 1 (kI 0))), (a34_57, Ar Z .int 16 (cpy zI zI 0 0 0)), (a37_57, Ar Z .int 16 (cpy zI zI 0 0 0)), (a40_57, Ar Z .int 64 (cpy (upd zI 0 (kI 0)) zI 0 0 1)), (a4_61, Ar Z .int 2 (upd zI 0 (kI 0))), (a10_61, Ar Z .int 2 (upd zI 0 (kI 0))), (a16_61, Ar Z .int 2 (upd zI 0 (kI 0))), (a7_61, Ar Z .int 2 zI), (a13_61, Ar Z .int 2 zI), (a19_61, Ar Z .int 4 (upd zI 0 (kI 0))), (a53, Ar Z .int 0 zI)] := Wo.pick W120 [11, 35, 0, 1, 2, 3, 4, 5, 6, 7, 8, 9, 10, 12, 13, 14, 15, 16, 17, 18, 19, 20, 21, 22, 23, 24, 25, 26, 27, 28, 29, 30, 31, 32, 33, 34] 36 (by decide +kernel) rfl
      obtain ⟨T123, L123, X123, N123, W123, K123⟩ := tnT a21 a35 (upd (upd (upd (upd zD 0 (kD dz23)) 1 (kD dz26)) 2 (kD dz29)) 3 (kD dz32)) (upd (upd (upd (upd zD 0 (kD dz37)) 1 (kD dz40)) 2 (kD dz43)) 3 (kD dz46)) u (.val (.int p1)) (.val (.int p2)) (.val (.int p3)) (.val (.int p4)) (.val (.int (own_bi fb))) (.val (.int (own_bi ab))) (.val (.ref a7)) (.val (.ref a21)) (.val (.ref a49)) (.val (.ref a53)) (.val (.ref a55)) (.val (.ref a59)) (.val (.int (0 : Int32))) ((a55, oR Z [(kR a4_57), (kR a7_57), (kR a10_57), (kR a13_57), (kR a16_57), (kR a19_57), (kR a22_57), (kR a25_57), (kR a28_57), (kR a31_57), (kR a34_57), (kR a37_57), (kR a40_57), (kR a43_57), (kI 1), (kR a6_138_116), (kI 2), (kR a9_138_116), (kR a12_138_116), (kR a15_138_116), (kR a18_138_116), (kR a21_138_116), (kR a26_138_116), (kI 2), (kI (Int32.ofNat ((u + 1) + (u + 1))))]) :: (a31_57, Ar Z .int 17 (upd (upd zI 0 (kI 0)) 1 (kI 1))) :: (a13_57, Ar Z .int 17 (upd zI 1 (kI 1))) :: (a26_138_116, Pg Z .double 4 (upd (upd zN 0 (kR a43_57)) 1 (kR a36_138_116))) :: (a36_138_116, Ar Z .double 64 (cpy (upd zD 0 (kD 4602678819172646912)) (cpy (upd (upd (upd (upd zD 0 (kD dz23)) 1 (kD dz26)) 2 (kD dz29)) 3 (kD dz32)) (cpy (upd zD 0 (kD 4607182418800017408)) (cpy (upd (upd (upd (upd zD 0 (kD dz9)) 1 (kD dz12)) 2 (kD dz15)) 3 (kD dz18)) zD 0 0 u) 0 u 1) 0 (u + 1) u) 0 ((u + 1) + u) 1)) :: (a6_138_116, Ar Z .int 4 (upd (upd (upd zI 0 (kI (-1))) 0 (kI 0)) 0 (kI 1))) :: (a9_138_116, Ar Z .int 4 (upd (upd zI 0 (kI 0)) 1 (kI 0))) :: (a12_138_116, Ar Z .int 4 (upd (upd zI 0 (kI (-1))) 1 (kI 0))) :: (a15_138_116, Ar Z .int 4 (upd (upd zI 0 (kI 1)) 1 (kI 1))) :: (a18_138_116, Ar Z .int 4 (upd (upd zI 0 (kI ((Int32.ofNat u) - (0 : Int32)))) 1 (kI ((Int32.ofNat ((u + 1) + u)) - (0 : Int32))))) :: (a21_138_116, Ar Z .int 4 (upd (upd zI 0 (kI (Int32.ofNat u))) 1 (kI (Int32.ofNat u)))) :: (a49, Ar Z .double 1 (upd zD 0 (kD 4602678819172646912))) :: (a7, Ar Z .double 4 (upd (upd (upd (upd zD 0 (kD dz9)) 1 (kD dz12)) 2 (kD dz15)) 3 (kD dz18))) :: (a22_61, Ar Z .double 4 (upd zD 0 (kD 4607182418800017408))) :: (a43_57, Ar Z .double 64 zD) :: (a59, oB Z [.null, (kI 0), (kR a7), (kI (Int32.ofNat u)), (kR a4_61), (kR a7_61), (kR a10_61), (kR a13_61), (kR a16_61), (kR a19_61), (kR a22_61), (kI 1), (kI 0), (kI 0), (kI 1), .null]) :: (a4_57, Ar Z .int 0 zI) :: (a7_57, Ar Z .int 0 (cpy zI zI 0 0 0)) :: (a10_57, Ar Z .int 16 (upd zI 0 (kI (-1)))) :: (a16_57, Ar Z .int 17 (upd zI 1 (kI 0))) :: (a19_57, Ar Z .int 16 (upd zI 0 (kI (-1)))) :: (a22_57, Ar Z .int 17 (upd zI 1 (kI 0))) :: (a25_57, Ar Z .int 17 (upd (upd zI 0 (kI 0)) 1 (kI 0))) :: (a28_57, Ar Z .int 17 (upd (upd zI 0 (kI 0)) 1 (kI 0))) :: (a34_57, Ar Z .int 16 (cpy zI zI 0 0 0)) :: (a37_57, Ar Z .int 16 (cpy zI zI 0 0 0)) :: (a40_57, Ar Z .int 64 (cpy (upd zI 0 (kI 0)) zI 0 0 1)) :: (a4_61, Ar Z .int 2 (upd zI 0 (kI 0))) :: (a10_61, Ar Z .int 2 (upd zI 0 (kI 0))) :: (a16_61, Ar Z .int 2 (upd zI 0 (kI 0))) :: (a7_61, Ar Z .int 2 zI) :: (a13_61, Ar Z .int 2 zI) :: (a19_61, Ar Z .int 4 (upd zI 0 (kI 0))) :: (a53, Ar Z .int 0 zI) :: []) X120 hx hZ hw hby hml hown (rfl : T120.heap = T120.heap) W122 N120 (by decide : 36 + 0 ≤ _) (by decide : 462 + 0 ≤ _) hu1 hu4 K121
      have K124 : Rc K0 T123 (mkF m 378 #[sI p1, sI p2, sI p3, sI p4, sI (Int32.ofNat u), sI (own_bi fb), sI (own_bi ab), sR a7, sR a21, sR a35, sR a49, sR a53, sR a55, sR a59, sI 0, sR a21, sI (own_bi (own_exp (upd (upd (upd (upd zD 0 (kD dz23)) 1 (kD dz26)) 2 (kD dz29)) 3 (kD dz32)) (upd (upd (upd (upd zD 0 (kD dz37)) 1 (kD dz40)) 2 (kD dz43)) 3 (kD dz46)) u))] [(kR a35), (kI 0), (kR a55)]) := fun t k => K123 t (by
        refine XS.aload X123.here hx rfl (hb hby at_372) rfl rfl ?_
        refine XS.iload X123.here hx rfl (hb hby at_374) rfl ?_
        refine XS.aload X123.here hx rfl (hb hby at_376) rfl rfl ?_
        exact k)
      have W125 : Wo n0 T123.heap [(a55, oR Z [(kR a4_57), (kR a7_57), (kR a10_57), (kR a13_57), (kR a16_57), (kR a19_57), (kR a22_57), (kR a25_57), (kR a28_57), (kR a31_57), (kR a34_57), (kR a37_57), (kR a40_57), (kR a43_57), (kI 1), (kR a6_138_116), (kI 2), (kR a9_138_116), (kR a12_138_116), (kR a15_138_116), (kR a18_138_116), (kR a21_138_116), (kR a26_138_116), (kI 2), (kI (Int32.ofNat ((u + 1) + (u + 1))))]), (a36_138_116, Ar Z .double 64 (cpy (upd zD 0 (kD 4602678819172646912)) (cpy (upd (upd (upd (upd zD 0 (kD dz23)) 1 (kD dz26)) 2 (kD dz29)) 3 (kD dz32)) (cpy (upd zD 0 (kD 4607182418800017408)) (cpy (upd (upd (upd (upd zD 0 (kD dz9)) 1 (kD dz12)) 2 (kD dz15)) 3 (kD dz18)) zD 0 0 u) 0 u 1) 0 (u + 1) u) 0 ((u + 1) + u) 1)), (a35, Ar Z .double 4 (upd (upd (upd (upd zD 0 (kD dz37)) 1 (kD dz40)) 2 (kD dz43)) 3 (kD dz46))), (a31_57, Ar Z .int 17 (upd (upd zI 0 (kI 0)) 1 (kI 1))), (a13_57, Ar Z .int 17 (upd zI 1 (kI 1))), (a26_138_116, Pg Z .double 4 (upd (upd zN 0 (kR a43_57)) 1 (kR a36_138_116))), (a6_138_116, Ar Z .int 4 (upd (upd (upd zI 0 (kI (-1))) 0 (kI 0)) 0 (kI 1))), (a15_138_116, Ar Z .int 4 (upd (upd zI 0 (kI 1)) 1 (kI 1))), (a21_138_116, Ar Z .int 4 (upd (upd zI 0 (kI (Int32.ofNat u))) 1 (kI (Int32.ofNat u)))), (a18_138_116, Ar Z .int 4 (upd (upd zI 0 (kI ((Int32.ofNat u) - (0 : Int32)))) 1 (kI ((Int32.ofNat ((u + 1) + u)) - (0 : Int32))))), (a21, Ar Z .double 4 (upd (upd (upd (upd zD 0 (kD dz23)) 1 (kD dz26)) 2 (kD dz29)) 3 (kD dz32))), (a9_138_116, Ar Z .int 4 (upd (upd zI 0 (kI 0)) 1 (kI 0))), (a12_138_116, Ar Z .int 4 (upd (upd zI 0 (kI (-1))) 1 (kI 0))), (a49, Ar Z .double 1 (upd zD 0 (kD 4602678819172646912))), (a7, Ar Z .double 4 (upd (upd (upd (upd zD 0 (kD dz9)) 1 (kD dz12)) 2 (kD dz15)) 3 (kD dz18))), (a22_61, Ar Z .double 4 (upd zD 0 (kD 4607182418800017408))), (a43_57, Ar Z .double 64 zD), (a59, oB Z [.null, (kI 0), (kR a7), (kI (Int32.ofNat u)), (kR a4_61), (kR a7_61), (kR a10_61), (kR a13_61), (kR a16_61), (kR a19_61), (kR a22_61), (kI 1), (kI 0), (kI 0), (kI 1), .null]), (a4_57, Ar Z .int 0 zI), (a7_57, Ar Z .int 0 (cpy zI zI 0 0 0)), (a10_57, Ar Z .int 16 (upd zI 0 (kI (-1)))), (a16_57, Ar Z .int 17 (upd zI 1 (kI 0))), (a19_57, Ar Z .int 16 (upd zI 0 (kI (-1)))), (a22_57, Ar Z .int 17 (upd zI 1 (kI 0))), (a25_57, Ar Z .int 17 (upd (upd zI 0 (kI 0)) 1 (kI 0))), (a28_57, Ar Z .int 17 (upd (upd zI 0 (kI 0)) 1 (kI 0))), (a34_57, Ar Z .int 16 (cpy zI zI 0 0 0)), (a37_57, Ar Z .int 16 (cpy zI zI 0 0 0)), (a40_57, Ar Z .int 64 (cpy (upd zI 0 (kI 0)) zI 0 0 1)), (a4_61, Ar Z .int 2 (upd zI 0 (kI 0))), (a10_61, Ar Z .int 2 (upd zI 0 (kI 0))), (a16_61, Ar Z .int 2 (upd zI 0 (kI 0))), (a7_61, Ar Z .int 2 zI), (a13_61, Ar Z .int 2 zI), (a19_61, Ar Z .int 4 (upd zI 0 (kI 0))), (a53, Ar Z .int 0 zI)] := Wo.pick W123 [2, 6, 1, 3, 4, 5, 7, 10, 12, 11, 0, 8, 9, 13, 14, 15, 16, 17, 18, 19, 20, 21, 22, 23, 24, 25, 26, 27, 28, 29, 30, 31, 32, 33, 34, 35] 36 (by decide +kernel) rfl
      obtain ⟨cq126, kq126, q126a, q126b, q126c⟩ := isOf hZ (rfl : T123.heap = T123.heap) (W125.exa (i := 0) rfl)
      obtain ⟨_, _, ⟨T126, L126, k126, n126⟩, -, X126, ⟨Lc126, hQ126, l126, y126, z126⟩, st126⟩ := X123.virtualBack hx (y := y_za) (z := y_za) hown (mvT hZ (hw _ (mi 186 rfl))) (mvT hZ (hw _ (mi 187 rfl))) (notFace_of_selects (args := #[]) (mvT hZ (hw _ (mi 189 rfl)))) (mvT hZ (hw _ (mi 189 rfl))) (mvT hZ (hw _ (mi 188 rfl))) (by decide) (backOf (W := 0) (rmZA01 l Z a0 hw [] a55 a4_57 a7_57 a10_57 a13_57 a16_57 a19_57 a22_57 a25_57 a28_57 a31_57 a34_57 a37_57 a40_57 a43_57 a6_138_116 a9_138_116 a12_138_116 a15_138_116 a18_138_116 a21_138_116 a26_138_116 a36_138_116 a35 (1 : Int32) (2 : Int32) (Int32.ofNat ((u + 1) + (u + 1))) ((Int32.ofNat ((u + 1) + u)) - (0 : Int32)) u (u + 1) (cpy (upd zD 0 (kD 4602678819172646912)) (cpy (upd (upd (upd (upd zD 0 (kD dz23)) 1 (kD dz26)) 2 (kD dz29)) 3 (kD dz32)) (cpy (upd zD 0 (kD 4607182418800017408)) (cpy (upd (upd (upd (upd zD 0 (kD dz9)) 1 (kD dz12)) 2 (kD dz15)) 3 (kD dz18)) zD 0 0 u) 0 u 1) 0 (u + 1) u) 0 ((u + 1) + u) 1) (upd (upd (upd (upd zD 0 (kD dz37)) 1 (kD dz40)) 2 (kD dz43)) 3 (kD dz46)) (upd (upd zI 0 (kI 0)) 1 (kI 1)) (upd zI 1 (kI 1)) (upd (upd zN 0 (kR a43_57)) 1 (kR a36_138_116)) (upd (upd (upd zI 0 (kI (-1))) 0 (kI 0)) 0 (kI 1)) (upd (upd zI 0 (kI 1)) 1 (kI 1)) (upd (upd zI 0 (kI (Int32.ofNat u))) 1 (kI (Int32.ofNat u))) (upd (upd zI 0 (kI ((Int32.ofNat u) - (0 : Int32)))) 1 (kI ((Int32.ofNat ((u + 1) + u)) - (0 : Int32)))) ((a21, Ar Z .double 4 (upd (upd (upd (upd zD 0 (kD dz23)) 1 (kD dz26)) 2 (kD dz29)) 3 (kD dz32))) :: (a9_138_116, Ar Z .int 4 (upd (upd zI 0 (kI 0)) 1 (kI 0))) :: (a12_138_116, Ar Z .int 4 (upd (upd zI 0 (kI (-1))) 1 (kI 0))) :: (a49, Ar Z .double 1 (upd zD 0 (kD 4602678819172646912))) :: (a7, Ar Z .double 4 (upd (upd (upd (upd zD 0 (kD dz9)) 1 (kD dz12)) 2 (kD dz15)) 3 (kD dz18))) :: (a22_61, Ar Z .double 4 (upd zD 0 (kD 4607182418800017408))) :: (a43_57, Ar Z .double 64 zD) :: (a59, oB Z [.null, (kI 0), (kR a7), (kI (Int32.ofNat u)), (kR a4_61), (kR a7_61), (kR a10_61), (kR a13_61), (kR a16_61), (kR a19_61), (kR a22_61), (kI 1), (kI 0), (kI 0), (kI 1), .null]) :: (a4_57, Ar Z .int 0 zI) :: (a7_57, Ar Z .int 0 (cpy zI zI 0 0 0)) :: (a10_57, Ar Z .int 16 (upd zI 0 (kI (-1)))) :: (a16_57, Ar Z .int 17 (upd zI 1 (kI 0))) :: (a19_57, Ar Z .int 16 (upd zI 0 (kI (-1)))) :: (a22_57, Ar Z .int 17 (upd zI 1 (kI 0))) :: (a25_57, Ar Z .int 17 (upd (upd zI 0 (kI 0)) 1 (kI 0))) :: (a28_57, Ar Z .int 17 (upd (upd zI 0 (kI 0)) 1 (kI 0))) :: (a34_57, Ar Z .int 16 (cpy zI zI 0 0 0)) :: (a37_57, Ar Z .int 16 (cpy zI zI 0 0 0)) :: (a40_57, Ar Z .int 64 (cpy (upd zI 0 (kI 0)) zI 0 0 1)) :: (a4_61, Ar Z .int 2 (upd zI 0 (kI 0))) :: (a10_61, Ar Z .int 2 (upd zI 0 (kI 0))) :: (a16_61, Ar Z .int 2 (upd zI 0 (kI 0))) :: (a7_61, Ar Z .int 2 zI) :: (a13_61, Ar Z .int 2 zI) :: (a19_61, Ar Z .int 4 (upd zI 0 (kI 0))) :: (a53, Ar Z .int 0 zI) :: []) T123.heap n0 W125 (by omega) (by omega) (by omega) rfl rfl rfl rfl rfl rfl rfl (own_s0 (by omega) (by omega))) hZ (hw _ (mi 190 rfl)) (hw _ (mi 9 rfl)) (by decide) (by decide)) q126a q126c (g := K124.g) rfl (by rw [hml]; rfl) (Steps.refl _) (argsL := [(.int (0 : Int32)), (.ref a35)]) (rest := []) (lenOf pd_za rfl) rfl (by show 2 * 0 + _ ≤ _; exact Nat.le_of_eq rfl) (hb hby at_378) (fun _ _ => ⟨rfl, (rfl : T123.heap = T123.heap), (by decide : 36 + 0 ≤ _), (by decide : 462 + 0 ≤ _)⟩)
      dsimp only [Pt.U, Pt.locs, Pt.cells, Pt.slots] at X126 l126 y126 z126 st126 hQ126
      subst l126 y126 z126
      obtain ⟨rfl, N126q, W126⟩ := hQ126
      have N126 := Fr.app N123 N126q
      have K127 : Rc K0 T126 (mkF m 391 #[sI p1, sI p2, sI p3, sI p4, sI (Int32.ofNat u), sI (own_bi fb), sI (own_bi ab), sR a7, sR a21, sR a35, sR a49, sR a53, sR a55, sR a59, sI 0, sR a21, sI (own_bi (own_exp (upd (upd (upd (upd zD 0 (kD dz23)) 1 (kD dz26)) 2 (kD dz29)) 3 (kD dz32)) (upd (upd (upd (upd zD 0 (kD dz37)) 1 (kD dz40)) 2 (kD dz43)) 3 (kD dz46)) u))] [(kI 1)]) := fun t k => K124 t (st126.trans (by
        refine XS.iload X126.here hx rfl (hb hby at_381) rfl ?_
        refine XS.icmpNo X126.here hx rfl (hb hby at_383) rfl (teq (congrArg own_bi (own_zr_exp hu1 hu4 (fun j hj => congrArg own_dv (own_blk (d := (u + 1)) (by omega) hj)) (fun j => rfl)))).2 ?_
        refine XS.iconst X126.here hx rfl (hb hby at_386) ?_
        refine XS.goto X126.here hx rfl (pc0 := 387) (pc' := 391) rfl (hb hby at_387) (by decide) (by decide) ?_
        exact k))
      obtain ⟨fs, hr, hrun, hended, hWm, hsame⟩ := X126.leave (v := some (.int (1 : Int32))) (fun h => by rw [Bd.returns] at h; cases h)
      refine ⟨_, _, pre0 _ (K127 _ (retN X126 hx (t := .boolean) Bd.returns (by simp) (hb hby at_391) hr)), hrun, hended, _, _, rfl, ?_, ⟨_, rfl⟩, hWm, hsame.mono (by decide) (by decide)⟩
      show Qrm0 Z p1 p2 p3 p4 n0 _ T126.heap _
      exact ⟨rfl, N126⟩
    · have hab := Bool.eq_false_iff.mpr ha
      have K128 : Rc K0 T116 (mkF m 291 #[sI p1, sI p2, sI p3, sI p4, sI (Int32.ofNat u), sI (own_bi fb), sI (own_bi ab), sR a7, sR a21, sR a35, sR a49, sR a53, sR a55, sR a59, sI 0, sR a7, sU] []) := fun t k => K117 t (by
        refine XS.ifYes X116.here hx rfl (pc0 := 260) (pc' := 277) rfl (hb hby at_260) rfl ((if0 _ _).trans (teq (show own_bi ab = 0 from by rw [hab]; rfl)).1) (by decide) (by decide) ?_
        refine XS.iload X116.here hx rfl (hb hby at_277) rfl ?_
        refine XS.ifYes X116.here hx rfl (pc0 := 279) (pc' := 287) rfl (hb hby at_279) rfl ((if0 _ _).trans (teq (show own_bi ab = 0 from by rw [hab]; rfl)).1) (by decide) (by decide) ?_
        refine XS.aload X116.here hx rfl (hb hby at_287) rfl rfl ?_
        refine XS.astore X116.here hx rfl (hb hby at_289) rfl rfl (l' := #[sI p1, sI p2, sI p3, sI p4, sI (Int32.ofNat u), sI (own_bi fb), sI (own_bi ab), sR a7, sR a21, sR a35, sR a49, sR a53, sR a55, sR a59, sI 0, sR a7, sU]) rfl ?_
        exact k)
      have W129 : Wo n0 T116.heap [(a7, Ar Z .double 4 (upd (upd (upd (upd zD 0 (kD dz9)) 1 (kD dz12)) 2 (kD dz15)) 3 (kD dz18))), (a35, Ar Z .double 4 (upd (upd (upd (upd zD 0 (kD dz37)) 1 (kD dz40)) 2 (kD dz43)) 3 (kD dz46))), (a55, oR Z [(kR a4_57), (kR a7_57), (kR a10_57), (kR a13_57), (kR a16_57), (kR a19_57), (kR a22_57), (kR a25_57), (kR a28_57), (kR a31_57), (kR a34_57), (kR a37_57), (kR a40_57), (kR a43_57), (kI 1), (kR a6_138_116), (kI 1), (kR a9_138_116), (kR a12_138_116), (kR a15_138_116), (kR a18_138_116), (kR a21_138_116), (kR a26_138_116), (kI 2), (kI (Int32.ofNat (u + 1)))]), (a31_57, Ar Z .int 17 (upd (upd zI 0 (kI 0)) 1 (kI 1))), (a13_57, Ar Z .int 17 (upd zI 1 (kI 1))), (a26_138_116, Pg Z .double 4 (upd (upd zN 0 (kR a43_57)) 1 (kR a36_138_116))), (a36_138_116, Ar Z .double 64 (cpy (upd zD 0 (kD 4607182418800017408)) (cpy (upd (upd (upd (upd zD 0 (kD dz9)) 1 (kD dz12)) 2 (kD dz15)) 3 (kD dz18)) zD 0 0 u) 0 u 1)), (a6_138_116, Ar Z .int 4 (upd (upd zI 0 (kI (-1))) 0 (kI 0))), (a9_138_116, Ar Z .int 4 (upd zI 0 (kI 0))), (a12_138_116, Ar Z .int 4 (upd zI 0 (kI (-1)))), (a15_138_116, Ar Z .int 4 (upd zI 0 (kI 1))), (a18_138_116, Ar Z .int 4 (upd zI 0 (kI ((Int32.ofNat u) - (0 : Int32))))), (a21_138_116, Ar Z .int 4 (upd zI 0 (kI (Int32.ofNat u)))), (a22_61, Ar Z .double 4 (upd zD 0 (kD 4607182418800017408))), (a43_57, Ar Z .double 64 zD), (a59, oB Z [.null, (kI 0), (kR a7), (kI (Int32.ofNat u)), (kR a4_61), (kR a7_61), (kR a10_61), (kR a13_61), (kR a16_61), (kR a19_61), (kR a22_61), (kI 1), (kI 0), (kI 0), (kI 1), .null]), (a4_57, Ar Z .int 0 zI), (a7_57, Ar Z .int 0 (cpy zI zI 0 0 0)), (a10_57, Ar Z .int 16 (upd zI 0 (kI (-1)))), (a16_57, Ar Z .int 17 (upd zI 1 (kI 0))), (a19_57, Ar Z .int 16 (upd zI 0 (kI (-1)))), (a22_57, Ar Z .int 17 (upd zI 1 (kI 0))), (a25_57, Ar Z .int 17 (upd (upd zI 0 (kI 0)) 1 (kI 0))), (a28_57, Ar Z .int 17 (upd (upd zI 0 (kI 0)) 1 (kI 0))), (a34_57, Ar Z .int 16 (cpy zI zI 0 0 0)), (a37_57, Ar Z .int 16 (cpy zI zI 0 0 0)), (a40_57, Ar Z .int 64 (cpy (upd zI 0 (kI 0)) zI 0 0 1)), (a4_61, Ar Z .int 2 (upd zI 0 (kI 0))), (a10_61, Ar Z .int 2 (upd zI 0 (kI 0))), (a16_61, Ar Z .int 2 (upd zI 0 (kI 0))), (a7_61, Ar Z .int 2 zI), (a13_61, Ar Z .int 2 zI), (a19_61, Ar Z .int 4 (upd zI 0 (kI 0))), (a53, Ar Z .int 0 zI), (a49, Ar Z .double 1 (upd zD 0 (kD 4602678819172646912))), (a21, Ar Z .double 4 (upd (upd (upd (upd zD 0 (kD dz23)) 1 (kD dz26)) 2 (kD dz29)) 3 (kD dz32)))] := Wo.pick W116 [11, 34, 0, 1, 2, 3, 4, 5, 6, 7, 8, 9, 10, 12, 13, 14, 15, 16, 17, 18, 19, 20, 21, 22, 23, 24, 25, 26, 27, 28, 29, 30, 31, 32, 33, 35] 36 (by decide +kernel) rfl
      obtain ⟨T130, L130, X130, N130, W130, K130⟩ := tnT a7 a35 (upd (upd (upd (upd zD 0 (kD dz9)) 1 (kD dz12)) 2 (kD dz15)) 3 (kD dz18)) (upd (upd (upd (upd zD 0 (kD dz37)) 1 (kD dz40)) 2 (kD dz43)) 3 (kD dz46)) u (.val (.int p1)) (.val (.int p2)) (.val (.int p3)) (.val (.int p4)) (.val (.int (own_bi fb))) (.val (.int (own_bi ab))) (.val (.ref a7)) (.val (.ref a21)) (.val (.ref a49)) (.val (.ref a53)) (.val (.ref a55)) (.val (.ref a59)) (.val (.int (0 : Int32))) ((a55, oR Z [(kR a4_57), (kR a7_57), (kR a10_57), (kR a13_57), (kR a16_57), (kR a19_57), (kR a22_57), (kR a25_57), (kR a28_57), (kR a31_57), (kR a34_57), (kR a37_57), (kR a40_57), (kR a43_57), (kI 1), (kR a6_138_116), (kI 1), (kR a9_138_116), (kR a12_138_116), (kR a15_138_116), (kR a18_138_116), (kR a21_138_116), (kR a26_138_116), (kI 2), (kI (Int32.ofNat (u + 1)))]) :: (a31_57, Ar Z .int 17 (upd (upd zI 0 (kI 0)) 1 (kI 1))) :: (a13_57, Ar Z .int 17 (upd zI 1 (kI 1))) :: (a26_138_116, Pg Z .double 4 (upd (upd zN 0 (kR a43_57)) 1 (kR a36_138_116))) :: (a36_138_116, Ar Z .double 64 (cpy (upd zD 0 (kD 4607182418800017408)) (cpy (upd (upd (upd (upd zD 0 (kD dz9)) 1 (kD dz12)) 2 (kD dz15)) 3 (kD dz18)) zD 0 0 u) 0 u 1)) :: (a6_138_116, Ar Z .int 4 (upd (upd zI 0 (kI (-1))) 0 (kI 0))) :: (a9_138_116, Ar Z .int 4 (upd zI 0 (kI 0))) :: (a12_138_116, Ar Z .int 4 (upd zI 0 (kI (-1)))) :: (a15_138_116, Ar Z .int 4 (upd zI 0 (kI 1))) :: (a18_138_116, Ar Z .int 4 (upd zI 0 (kI ((Int32.ofNat u) - (0 : Int32))))) :: (a21_138_116, Ar Z .int 4 (upd zI 0 (kI (Int32.ofNat u)))) :: (a22_61, Ar Z .double 4 (upd zD 0 (kD 4607182418800017408))) :: (a43_57, Ar Z .double 64 zD) :: (a59, oB Z [.null, (kI 0), (kR a7), (kI (Int32.ofNat u)), (kR a4_61), (kR a7_61), (kR a10_61), (kR a13_61), (kR a16_61), (kR a19_61), (kR a22_61), (kI 1), (kI 0), (kI 0), (kI 1), .null]) :: (a4_57, Ar Z .int 0 zI) :: (a7_57, Ar Z .int 0 (cpy zI zI 0 0 0)) :: (a10_57, Ar Z .int 16 (upd zI 0 (kI (-1)))) :: (a16_57, Ar Z .int 17 (upd zI 1 (kI 0))) :: (a19_57, Ar Z .int 16 (upd zI 0 (kI (-1)))) :: (a22_57, Ar Z .int 17 (upd zI 1 (kI 0))) :: (a25_57, Ar Z .int 17 (upd (upd zI 0 (kI 0)) 1 (kI 0))) :: (a28_57, Ar Z .int 17 (upd (upd zI 0 (kI 0)) 1 (kI 0))) :: (a34_57, Ar Z .int 16 (cpy zI zI 0 0 0)) :: (a37_57, Ar Z .int 16 (cpy zI zI 0 0 0)) :: (a40_57, Ar Z .int 64 (cpy (upd zI 0 (kI 0)) zI 0 0 1)) :: (a4_61, Ar Z .int 2 (upd zI 0 (kI 0))) :: (a10_61, Ar Z .int 2 (upd zI 0 (kI 0))) :: (a16_61, Ar Z .int 2 (upd zI 0 (kI 0))) :: (a7_61, Ar Z .int 2 zI) :: (a13_61, Ar Z .int 2 zI) :: (a19_61, Ar Z .int 4 (upd zI 0 (kI 0))) :: (a53, Ar Z .int 0 zI) :: (a49, Ar Z .double 1 (upd zD 0 (kD 4602678819172646912))) :: (a21, Ar Z .double 4 (upd (upd (upd (upd zD 0 (kD dz23)) 1 (kD dz26)) 2 (kD dz29)) 3 (kD dz32))) :: []) X116 hx hZ hw hby hml hown (rfl : T116.heap = T116.heap) W129 N116 (by decide : 36 + 0 ≤ _) (by decide : 462 + 0 ≤ _) hu1 hu4 K128
      have K131 : Rc K0 T130 (mkF m 378 #[sI p1, sI p2, sI p3, sI p4, sI (Int32.ofNat u), sI (own_bi fb), sI (own_bi ab), sR a7, sR a21, sR a35, sR a49, sR a53, sR a55, sR a59, sI 0, sR a7, sI (own_bi (own_exp (upd (upd (upd (upd zD 0 (kD dz9)) 1 (kD dz12)) 2 (kD dz15)) 3 (kD dz18)) (upd (upd (upd (upd zD 0 (kD dz37)) 1 (kD dz40)) 2 (kD dz43)) 3 (kD dz46)) u))] [(kR a35), (kI 0), (kR a55)]) := fun t k => K130 t (by
        refine XS.aload X130.here hx rfl (hb hby at_372) rfl rfl ?_
        refine XS.iload X130.here hx rfl (hb hby at_374) rfl ?_
        refine XS.aload X130.here hx rfl (hb hby at_376) rfl rfl ?_
        exact k)
      have W132 : Wo n0 T130.heap [(a55, oR Z [(kR a4_57), (kR a7_57), (kR a10_57), (kR a13_57), (kR a16_57), (kR a19_57), (kR a22_57), (kR a25_57), (kR a28_57), (kR a31_57), (kR a34_57), (kR a37_57), (kR a40_57), (kR a43_57), (kI 1), (kR a6_138_116), (kI 1), (kR a9_138_116), (kR a12_138_116), (kR a15_138_116), (kR a18_138_116), (kR a21_138_116), (kR a26_138_116), (kI 2), (kI (Int32.ofNat (u + 1)))]), (a36_138_116, Ar Z .double 64 (cpy (upd zD 0 (kD 4607182418800017408)) (cpy (upd (upd (upd (upd zD 0 (kD dz9)) 1 (kD dz12)) 2 (kD dz15)) 3 (kD dz18)) zD 0 0 u) 0 u 1)), (a35, Ar Z .double 4 (upd (upd (upd (upd zD 0 (kD dz37)) 1 (kD dz40)) 2 (kD dz43)) 3 (kD dz46))), (a31_57, Ar Z .int 17 (upd (upd zI 0 (kI 0)) 1 (kI 1))), (a13_57, Ar Z .int 17 (upd zI 1 (kI 1))), (a26_138_116, Pg Z .double 4 (upd (upd zN 0 (kR a43_57)) 1 (kR a36_138_116))), (a6_138_116, Ar Z .int 4 (upd (upd zI 0 (kI (-1))) 0 (kI 0))), (a15_138_116, Ar Z .int 4 (upd zI 0 (kI 1))), (a21_138_116, Ar Z .int 4 (upd zI 0 (kI (Int32.ofNat u)))), (a18_138_116, Ar Z .int 4 (upd zI 0 (kI ((Int32.ofNat u) - (0 : Int32))))), (a7, Ar Z .double 4 (upd (upd (upd (upd zD 0 (kD dz9)) 1 (kD dz12)) 2 (kD dz15)) 3 (kD dz18))), (a9_138_116, Ar Z .int 4 (upd zI 0 (kI 0))), (a12_138_116, Ar Z .int 4 (upd zI 0 (kI (-1)))), (a22_61, Ar Z .double 4 (upd zD 0 (kD 4607182418800017408))), (a43_57, Ar Z .double 64 zD), (a59, oB Z [.null, (kI 0), (kR a7), (kI (Int32.ofNat u)), (kR a4_61), (kR a7_61), (kR a10_61), (kR a13_61), (kR a16_61), (kR a19_61), (kR a22_61), (kI 1), (kI 0), (kI 0), (kI 1), .null]), (a4_57, Ar Z .int 0 zI), (a7_57, Ar Z .int 0 (cpy zI zI 0 0 0)), (a10_57, Ar Z .int 16 (upd zI 0 (kI (-1)))), (a16_57, Ar Z .int 17 (upd zI 1 (kI 0))), (a19_57, Ar Z .int 16 (upd zI 0 (kI (-1)))), (a22_57, Ar Z .int 17 (upd zI 1 (kI 0))), (a25_57, Ar Z .int 17 (upd (upd zI 0 (kI 0)) 1 (kI 0))), (a28_57, Ar Z .int 17 (upd (upd zI 0 (kI 0)) 1 (kI 0))), (a34_57, Ar Z .int 16 (cpy zI zI 0 0 0)), (a37_57, Ar Z .int 16 (cpy zI zI 0 0 0)), (a40_57, Ar Z .int 64 (cpy (upd zI 0 (kI 0)) zI 0 0 1)), (a4_61, Ar Z .int 2 (upd zI 0 (kI 0))), (a10_61, Ar Z .int 2 (upd zI 0 (kI 0))), (a16_61, Ar Z .int 2 (upd zI 0 (kI 0))), (a7_61, Ar Z .int 2 zI), (a13_61, Ar Z .int 2 zI), (a19_61, Ar Z .int 4 (upd zI 0 (kI 0))), (a53, Ar Z .int 0 zI), (a49, Ar Z .double 1 (upd zD 0 (kD 4602678819172646912))), (a21, Ar Z .double 4 (upd (upd (upd (upd zD 0 (kD dz23)) 1 (kD dz26)) 2 (kD dz29)) 3 (kD dz32)))] := Wo.pick W130 [2, 6, 1, 3, 4, 5, 7, 10, 12, 11, 0, 8, 9, 13, 14, 15, 16, 17, 18, 19, 20, 21, 22, 23, 24, 25, 26, 27, 28, 29, 30, 31, 32, 33, 34, 35] 36 (by decide +kernel) rfl
      obtain ⟨cq133, kq133, q133a, q133b, q133c⟩ := isOf hZ (rfl : T130.heap = T130.heap) (W132.exa (i := 0) rfl)
      obtain ⟨_, _, ⟨T133, L133, k133, n133⟩, -, X133, ⟨Lc133, hQ133, l133, y133, z133⟩, st133⟩ := X130.virtualBack hx (y := y_za) (z := y_za) hown (mvT hZ (hw _ (mi 186 rfl))) (mvT hZ (hw _ (mi 187 rfl))) (notFace_of_selects (args := #[]) (mvT hZ (hw _ (mi 189 rfl)))) (mvT hZ (hw _ (mi 189 rfl))) (mvT hZ (hw _ (mi 188 rfl))) (by decide) (backOf (W := 0) (rmZA00 l Z a0 hw [] a55 a4_57 a7_57 a10_57 a13_57 a16_57 a19_57 a22_57 a25_57 a28_57 a31_57 a34_57 a37_57 a40_57 a43_57 a6_138_116 a9_138_116 a12_138_116 a15_138_116 a18_138_116 a21_138_116 a26_138_116 a36_138_116 a35 (1 : Int32) (1 : Int32) (Int32.ofNat (u + 1)) ((Int32.ofNat u) - (0 : Int32)) u 0 (cpy (upd zD 0 (kD 4607182418800017408)) (cpy (upd (upd (upd (upd zD 0 (kD dz9)) 1 (kD dz12)) 2 (kD dz15)) 3 (kD dz18)) zD 0 0 u) 0 u 1) (upd (upd (upd (upd zD 0 (kD dz37)) 1 (kD dz40)) 2 (kD dz43)) 3 (kD dz46)) (upd (upd zI 0 (kI 0)) 1 (kI 1)) (upd zI 1 (kI 1)) (upd (upd zN 0 (kR a43_57)) 1 (kR a36_138_116)) (upd (upd zI 0 (kI (-1))) 0 (kI 0)) (upd zI 0 (kI 1)) (upd zI 0 (kI (Int32.ofNat u))) (upd zI 0 (kI ((Int32.ofNat u) - (0 : Int32)))) ((a7, Ar Z .double 4 (upd (upd (upd (upd zD 0 (kD dz9)) 1 (kD dz12)) 2 (kD dz15)) 3 (kD dz18))) :: (a9_138_116, Ar Z .int 4 (upd zI 0 (kI 0))) :: (a12_138_116, Ar Z .int 4 (upd zI 0 (kI (-1)))) :: (a22_61, Ar Z .double 4 (upd zD 0 (kD 4607182418800017408))) :: (a43_57, Ar Z .double 64 zD) :: (a59, oB Z [.null, (kI 0), (kR a7), (kI (Int32.ofNat u)), (kR a4_61), (kR a7_61), (kR a10_61), (kR a13_61), (kR a16_61), (kR a19_61), (kR a22_61), (kI 1), (kI 0), (kI 0), (kI 1), .null]) :: (a4_57, Ar Z .int 0 zI) :: (a7_57, Ar Z .int 0 (cpy zI zI 0 0 0)) :: (a10_57, Ar Z .int 16 (upd zI 0 (kI (-1)))) :: (a16_57, Ar Z .int 17 (upd zI 1 (kI 0))) :: (a19_57, Ar Z .int 16 (upd zI 0 (kI (-1)))) :: (a22_57, Ar Z .int 17 (upd zI 1 (kI 0))) :: (a25_57, Ar Z .int 17 (upd (upd zI 0 (kI 0)) 1 (kI 0))) :: (a28_57, Ar Z .int 17 (upd (upd zI 0 (kI 0)) 1 (kI 0))) :: (a34_57, Ar Z .int 16 (cpy zI zI 0 0 0)) :: (a37_57, Ar Z .int 16 (cpy zI zI 0 0 0)) :: (a40_57, Ar Z .int 64 (cpy (upd zI 0 (kI 0)) zI 0 0 1)) :: (a4_61, Ar Z .int 2 (upd zI 0 (kI 0))) :: (a10_61, Ar Z .int 2 (upd zI 0 (kI 0))) :: (a16_61, Ar Z .int 2 (upd zI 0 (kI 0))) :: (a7_61, Ar Z .int 2 zI) :: (a13_61, Ar Z .int 2 zI) :: (a19_61, Ar Z .int 4 (upd zI 0 (kI 0))) :: (a53, Ar Z .int 0 zI) :: (a49, Ar Z .double 1 (upd zD 0 (kD 4602678819172646912))) :: (a21, Ar Z .double 4 (upd (upd (upd (upd zD 0 (kD dz23)) 1 (kD dz26)) 2 (kD dz29)) 3 (kD dz32))) :: []) T130.heap n0 W132 (by omega) (by omega) (by omega) rfl rfl rfl rfl rfl rfl rfl (own_s0 (by omega) (by omega))) hZ (hw _ (mi 190 rfl)) (hw _ (mi 9 rfl)) (by decide) (by decide)) q133a q133c (g := K131.g) rfl (by rw [hml]; rfl) (Steps.refl _) (argsL := [(.int (0 : Int32)), (.ref a35)]) (rest := []) (lenOf pd_za rfl) rfl (by show 2 * 0 + _ ≤ _; exact Nat.le_of_eq rfl) (hb hby at_378) (fun _ _ => ⟨rfl, (rfl : T130.heap = T130.heap), (by decide : 36 + 0 ≤ _), (by decide : 462 + 0 ≤ _)⟩)
      dsimp only [Pt.U, Pt.locs, Pt.cells, Pt.slots] at X133 l133 y133 z133 st133 hQ133
      subst l133 y133 z133
      obtain ⟨rfl, N133q, W133⟩ := hQ133
      have N133 := Fr.app N130 N133q
      have K134 : Rc K0 T133 (mkF m 391 #[sI p1, sI p2, sI p3, sI p4, sI (Int32.ofNat u), sI (own_bi fb), sI (own_bi ab), sR a7, sR a21, sR a35, sR a49, sR a53, sR a55, sR a59, sI 0, sR a7, sI (own_bi (own_exp (upd (upd (upd (upd zD 0 (kD dz9)) 1 (kD dz12)) 2 (kD dz15)) 3 (kD dz18)) (upd (upd (upd (upd zD 0 (kD dz37)) 1 (kD dz40)) 2 (kD dz43)) 3 (kD dz46)) u))] [(kI 1)]) := fun t k => K131 t (st133.trans (by
        refine XS.iload X133.here hx rfl (hb hby at_381) rfl ?_
        refine XS.icmpNo X133.here hx rfl (hb hby at_383) rfl (teq (congrArg own_bi (own_zr_exp hu1 hu4 (fun j hj => congrArg own_dv (own_blk (d := 0) (by omega) hj)) (fun j => rfl)))).2 ?_
        refine XS.iconst X133.here hx rfl (hb hby at_386) ?_
        refine XS.goto X133.here hx rfl (pc0 := 387) (pc' := 391) rfl (hb hby at_387) (by decide) (by decide) ?_
        exact k))
      obtain ⟨fs, hr, hrun, hended, hWm, hsame⟩ := X133.leave (v := some (.int (1 : Int32))) (fun h => by rw [Bd.returns] at h; cases h)
      refine ⟨_, _, pre0 _ (K134 _ (retN X133 hx (t := .boolean) Bd.returns (by simp) (hb hby at_391) hr)), hrun, hended, _, _, rfl, ?_, ⟨_, rfl⟩, hWm, hsame.mono (by decide) (by decide)⟩
      show Qrm0 Z p1 p2 p3 p4 n0 _ T133.heap _
      exact ⟨rfl, N133⟩
set_option maxRecDepth 65536 in
set_option maxHeartbeats 40000000 in
theorem comes_1 {Post : Tables → Env → Array Value → State → Outcome → State → Prop} (hpost : ∀ tb e args s v u, (limb_1_1.after args s (.returned v) u = true ∧ limb_1_2.after args s (.returned v) u = true ∧ True) → FrameEnd s (.returned v) u (Jvm.fieldLocs frame_1_writes args s ++ Jvm.arrayLocs frame_1_arrays args s ++ Jvm.staticLocs frame_1_statics s) 80 1024 → Post tb e args s (.returned v) u) :
    ArmFor flags0 classFile x code maxLocals ret World_1 tables_1 room_1 Calls_1 rest_1 Pre_1 Post := by
  intro l hfl _ _ p e ha hc hk s m args below hf hA hF happ hP
  obtain ⟨hcalls, hrest, hpre⟩ := hP
  obtain ⟨-, -, -, hnamed, -, -, -, hat⟩ := (Spec.applies_iff hf).mp happ
  obtain ⟨hg, hn⟩ := and_e (Cond.before_iff.mp (show (Jvm.Cond.and given_1 narrow_1).before args s = true from hpre))
  obtain ⟨gc, g0⟩ := and_e hg
  obtain ⟨q0, g1⟩ := and_e g0
  obtain ⟨q1, g2⟩ := and_e g1
  obtain ⟨q2, g3⟩ := and_e g2
  obtain ⟨w0, w1, w2, w3, rfl⟩ : ∃ w0 w1 w2 w3 : Value, args = #[w0, w1, w2, w3] := by
    have hs : args.size = 4 := by simpa [Cond.value, given_1] using gc
    obtain ⟨L⟩ := args
    match L, hs with
    | [w0, w1, w2, w3], _ => exact ⟨w0, w1, w2, w3, rfl⟩
  have hw := fun d (hd : d ∈ tables_1) => atoms_spec (ws := Jvm.Cond.code x code maxLocals ret :: tables_1) hat d (List.mem_cons_of_mem _ hd)
  obtain ⟨i0, ei0⟩ := is_v q0
  obtain rfl : w0 = (.int i0) := Option.some.inj ei0
  obtain ⟨i1, ei1⟩ := is_v q1
  obtain rfl : w1 = (.int i1) := Option.some.inj ei1
  obtain ⟨i2, ei2⟩ := is_v q2
  obtain rfl : w2 = (.int i2) := Option.some.inj ei2
  obtain ⟨i3, ei3⟩ := is_v g3
  obtain rfl : w3 = (.int i3) := Option.some.inj ei3
  obtain ⟨n, o, h1, h2, h3, _, L, rfl, ⟨rfl, N⟩, hq⟩ := rm0 l s _ hw tables_1 i0 i1 i2 i3 s.heap s.heap.size (Wo.nil (Nat.le_refl _)) p e ha hc hk s m _ below hf ((Spec.applies_iff_loose hf).mp happ).1 ⟨rfl, State.Warmed39.refl s, rfl⟩ trivial
  refine ⟨n, _, h1, h2, h3, hpost _ _ _ _ _ _ ⟨Cond.after_iff.mpr rfl, Cond.after_iff.mpr (eq_i res_at (Term.int_eval (1)) rfl), trivial⟩ ⟨hq.1, hq.2.1, (hq.2.2.sift fun y hy => Or.inr (N y hy)).mono (by decide) (by decide)⟩⟩
theorem main_1_1 : Claimed_1_1 := comes_1 fun _ _ _ _ _ _ h hF => ⟨h.1, hF⟩
theorem main_1_2 : Claimed_1_2 := comes_1 fun _ _ _ _ _ _ h hF => ⟨h.2.1, hF⟩
end Jvm.Pilot.@@N@@
namespace Jvm.Pilot.@@N@@
open Jvm Jvm.ClassFile Sem Op Lib Jvm.Free Jvm.Stand Jvm.Pilot.@@N@@.Jvm.D
/-! MADE BY PROGRAM (witnessworld.py) out of the Statement's table words and the real class files: 19 classes; the members and pool entries that the words name. The judged class is class 1, her method 3. -/
namespace start1
open Jvm.ClassFile
def u (s : String) : CpInfo := .utf8 (stringToUtf16 s)
/-- a pool by its gaps: so many unusable entries, then the entry; so many at the end -/
def gap : Nat → List CpInfo → List CpInfo
  | 0, r => r
  | n + 1, r => .unusable :: gap n r
def poolList (es : List (Nat × CpInfo)) (last : Nat) : List CpInfo := es.foldr (fun e r => gap e.1 (e.2 :: r)) (gap last [])
def pool (es : List (Nat × CpInfo)) (last : Nat) : Array CpInfo := ⟨poolList es last⟩
def fileOf (pool : Array CpInfo) (this : Nat) (attrs : Array Attribute := #[]) (ms : Array MethodInfo := #[]) (fl : Nat := 33) (sup : Nat := 0) (ifs : Array Nat := #[]) (fds : Array FieldInfo := #[]) : ClassFile where
  minorVersion := 0
  majorVersion := 65
  constantPool := pool
  accessFlags := fl
  thisClass := this
  superClass := sup
  interfaces := ifs
  fields := fds
  methods := ms
  attributes := attrs
def plain (name : String) (sup : Option ClassId) : Class where
  name := name
  kind := .ordinary
  loader := none
  accessFlags := 33
  super := sup
  interfaces := #[]
  cf := none
  fields := #[]
  methods := #[]
  instanceTypes := #[]
  staticTypes := #[]
  resolved := #[]
  callSites := []
  init := .initialized
  statics := none
  mirror := none

def resd (n : Nat) (L : List (Nat × Resolved)) : Array (Option Resolved) := ⟨(List.range n).map fun i => (L.find? (fun x => x.1 == i)).map (·.2)⟩
def pool0 : Array CpInfo := pool [(5, u "<init>"), (0, u "()V"), (1, .class_ 10), (1, u "java/lang/Object")] 113

def k0c0 : Code := { maxStack := 0, maxLocals := 1, code := object_method_1_code, exceptionTable := #[], attributes := #[] }
def k0m0 : Method := { name := "<init>", desc := "()V", sig := { parameters := [], returnType := none }, accessFlags := 1, code := some k0c0 }
/-- java/lang/Object -/
def k0 : Class := { plain "java/lang/Object" none with
  accessFlags := 33
  interfaces := #[]
  cf := some (fileOf pool0 8 #[] #[{ accessFlags := 1, nameIndex := 5, descriptorIndex := 6, attributes := #[] }] 33 0 #[] #[])
  fields := #[]
  methods := #[k0m0]
  instanceTypes := #[]
  staticTypes := #[]
  resolved := Array.replicate 124 none
  statics := none }

def pool1 : Array CpInfo := pool [(2, .class_ 4), (0, .nameAndType 5 6), (0, u "java/lang/Object"), (0, u "<init>"), (0, u "()V"), (0, .methodref 8 9), (0, .class_ 10), (0, .nameAndType 11 12), (0, u "com/example/sambre/sambre/engine/RowsZeroAlikePinLaw"), (0, u "d"), (0, u "(II)D"), (0, .double 4602678819172646912), (1, .class_ 16), (0, u "com/example/sambre/sambre/engine/Rows"), (0, .methodref 15 3), (0, .class_ 19), (0, u "com/example/sambre/sambre/engine/Rows$Builder"), (0, .methodref 18 3), (0, .methodref 18 22), (0, .nameAndType 23 24), (0, u "start"), (0, u "([II[DI)V"), (0, .methodref 18 26), (0, .nameAndType 27 6), (0, u "startChoice"), (0, .methodref 18 29), (0, .nameAndType 30 31), (0, u "addMove"), (0, u "(ID)I"), (0, .methodref 15 33), (0, .nameAndType 34 35), (0, u "add"), (0, u "(Lcom/example/sambre/sambre/engine/Rows$Builder;[II)I"), (0, .methodref 15 37), (0, .nameAndType 38 39), (0, u "addToShape"), (0, u "(I[D[DI)I"), (0, .methodref 8 41), (0, .nameAndType 42 43), (0, u "same"), (0, u "(DD)Z"), (0, .methodref 15 45), (0, .nameAndType 46 47), (0, u "zeroAlike"), (0, u "(I[D)Z"), (3, u "law"), (0, u "(IIII)Z")] 8

def k1m0 : Method := { name := "<init>", desc := "()V", sig := { parameters := [], returnType := none }, accessFlags := 1, code := none }
def k1c1 : Code := { maxStack := 3, maxLocals := 2, code := method_2_code, exceptionTable := #[], attributes := #[] }
def k1m1 : Method := { name := "d", desc := "(II)D", sig := { parameters := [.int, .int], returnType := some .double }, accessFlags := 10, code := some k1c1 }
def k1c2 : Code := { maxStack := 5, maxLocals := 4, code := method_3_code, exceptionTable := #[], attributes := #[] }
def k1m2 : Method := { name := "same", desc := "(DD)Z", sig := { parameters := [.double, .double], returnType := some .boolean }, accessFlags := 10, code := some k1c2 }
def k1c3 : Code := { maxStack := 5, maxLocals := 17, code := code, exceptionTable := #[], attributes := #[] }
def k1m3 : Method := { name := "law", desc := "(IIII)Z", sig := { parameters := [.int, .int, .int, .int], returnType := some .boolean }, accessFlags := 9, code := some k1c3 }
/-- com/example/sambre/sambre/engine/RowsZeroAlikePinLaw -/
def k1 : Class := { plain "com/example/sambre/sambre/engine/RowsZeroAlikePinLaw" (some 0) with
  accessFlags := 49
  interfaces := #[]
  cf := some (fileOf pool1 8 #[] #[{ accessFlags := 1, nameIndex := 5, descriptorIndex := 6, attributes := #[] }, { accessFlags := 10, nameIndex := 11, descriptorIndex := 12, attributes := #[] }, { accessFlags := 10, nameIndex := 42, descriptorIndex := 43, attributes := #[] }, { accessFlags := 9, nameIndex := 51, descriptorIndex := 52, attributes := #[] }] 49 2 #[] #[])
  fields := #[]
  methods := #[k1m0, k1m1, k1m2, k1m3]
  instanceTypes := #[]
  staticTypes := #[]
  resolved := Array.replicate 61 none
  statics := none }

def pool2 : Array CpInfo := pool [(1, .methodref 2 3), (0, .class_ 4), (0, .nameAndType 5 6), (0, u "java/lang/Object"), (0, u "<init>"), (0, u "()V"), (0, .fieldref 8 9), (0, .class_ 10), (0, .nameAndType 11 12), (0, u "com/example/sambre/sambre/engine/Rows"), (0, u "keys"), (0, u "[I"), (0, .fieldref 8 14), (0, .nameAndType 15 12), (0, u "ranges"), (0, .fieldref 8 17), (0, .nameAndType 18 12), (0, u "nextShape"), (0, .fieldref 8 20), (0, .nameAndType 21 12), (0, u "firstChoice"), (0, .fieldref 8 23), (0, .nameAndType 24 12), (0, u "firstKey"), (0, .fieldref 8 26), (0, .nameAndType 27 12), (0, u "keyLength"), (0, .fieldref 8 29), (0, .nameAndType 30 12), (0, u "firstRange"), (0, .fieldref 8 32), (0, .nameAndType 33 12), (0, u "firstAction"), (0, .fieldref 8 35), (0, .nameAndType 36 12), (0, u "firstCommand"), (0, .fieldref 8 38), (0, .nameAndType 39 12), (0, u "firstTransition"), (0, .fieldref 8 41), (0, .nameAndType 42 12), (0, u "actions"), (0, .fieldref 8 44), (0, .nameAndType 45 12), (0, u "commands"), (0, .fieldref 8 47), (0, .nameAndType 48 12), (0, u "successors"), (0, .fieldref 8 50), (0, .nameAndType 51 52), (0, u "probabilities"), (0, u "[D"), (0, .fieldref 8 54), (0, .nameAndType 55 56), (0, u "shapeCount"), (0, u "I"), (0, .fieldref 58 59), (0, .class_ 60), (0, .nameAndType 61 56), (0, u "com/example/sambre/sambre/engine/Rows$Builder"), (0, u "choiceCount"), (0, .fieldref 58 63), (0, .nameAndType 64 12), (0, u "key"), (0, .fieldref 58 66), (0, .nameAndType 27 56), (0, .fieldref 8 68), (0, .nameAndType 69 12), (0, u "lastRow"), (0, .fieldref 58 71), (0, .nameAndType 72 56), (0, u "varyingCount"), (0, .fieldref 58 74), (0, .nameAndType 75 56), (0, u "actionCount"), (0, .fieldref 58 77), (0, .nameAndType 78 56), (0, u "commandCount"), (0, .fieldref 58 80), (0, .nameAndType 81 56), (0, u "transitionCount"), (4, .fieldref 58 32), (0, .fieldref 58 35), (0, .fieldref 58 38), (0, .fieldref 58 41), (0, .methodref 91 92), (0, .class_ 93), (0, .nameAndType 94 95), (0, u "java/lang/System"), (0, u "arraycopy"), (0, u "(Ljava/lang/Object;ILjava/lang/Object;II)V"), (0, .fieldref 58 44), (0, .fieldref 58 47), (0, .fieldref 58 50), (0, .fieldref 8 100), (0, .nameAndType 101 56), (0, u "rowCount"), (0, .methodref 8 103), (0, .nameAndType 104 6), (0, u "separateRows"), (0, .methodref 8 106), (0, .nameAndType 107 108), (0, u "room"), (0, u "([II)[I"), (0, .fieldref 58 110), (0, .nameAndType 111 52), (0, u "varying"), (0, .methodref 8 113), (0, .nameAndType 114 115), (0, u "place"), (0, u "(I[DI[D)I"), (2, .methodref 119 120), (0, .class_ 121), (0, .nameAndType 122 123), (0, u "com/example/sambre/sambre/engine/ArrayLengths"), (0, u "atLeast"), (0, u "(II)I"), (0, .fieldref 8 125), (0, .nameAndType 126 12), (0, u "shapeOf"), (0, .fieldref 8 128), (0, .nameAndType 129 12), (0, u "nextRow"), (0, .fieldref 8 131), (0, .nameAndType 132 12), (0, u "blockOf"), (0, .fieldref 8 134), (0, .nameAndType 135 12), (0, u "shift"), (0, .fieldref 8 137), (0, .nameAndType 72 12), (0, .class_ 52), (0, .fieldref 8 140), (0, .nameAndType 141 142), (0, u "blocks"), (0, u "[[D"), (0, .fieldref 8 144), (0, .nameAndType 145 56), (0, u "blockCount"), (0, .fieldref 8 147), (0, .nameAndType 148 56), (0, u "used"), (9, u "LARGEST_BLOCK"), (19, u "markedShapes"), (2, u "markedRows"), (2, u "markedBlocks"), (2, u "markedUsed"), (28, u "(I[D)Z"), (9, u "NONE"), (2, u "FIRST_BLOCK"), (3, u "add"), (0, u "(Lcom/example/sambre/sambre/engine/Rows$Builder;[II)I"), (2, u "addToShape"), (0, u "(I[D[DI)I"), (9, u "zeroAlike")] 34

def k2c0 : Code := { maxStack := 2, maxLocals := 1, code := prog_87_method_1_code, exceptionTable := #[], attributes := #[] }
def k2m0 : Method := { name := "<init>", desc := "()V", sig := { parameters := [], returnType := none }, accessFlags := 0, code := some k2c0 }
def k2c1 : Code := { maxStack := 6, maxLocals := 15, code := prog_87_method_2_code, exceptionTable := #[], attributes := #[] }
def k2m1 : Method := { name := "add", desc := "(Lcom/example/sambre/sambre/engine/Rows$Builder;[II)I", sig := { parameters := [(.object "com/example/sambre/sambre/engine/Rows$Builder"), (.array .int), .int], returnType := some .int }, accessFlags := 0, code := some k2c1 }
def k2c2 : Code := { maxStack := 5, maxLocals := 5, code := prog_87_method_3_code, exceptionTable := #[], attributes := #[] }
def k2m2 : Method := { name := "addToShape", desc := "(I[D[DI)I", sig := { parameters := [.int, (.array .double), (.array .double), .int], returnType := some .int }, accessFlags := 0, code := some k2c2 }
def k2c3 : Code := { maxStack := 3, maxLocals := 3, code := prog_87_method_4_code, exceptionTable := #[], attributes := #[] }
def k2m3 : Method := { name := "separateRows", desc := "()V", sig := { parameters := [], returnType := none }, accessFlags := 2, code := some k2c3 }
def k2c4 : Code := { maxStack := 5, maxLocals := 10, code := prog_87_method_5_code, exceptionTable := #[], attributes := #[] }
def k2m4 : Method := { name := "place", desc := "(I[DI[D)I", sig := { parameters := [.int, (.array .double), .int, (.array .double)], returnType := some .int }, accessFlags := 2, code := some k2c4 }
def k2c5 : Code := { maxStack := 3, maxLocals := 2, code := prog_87_method_7_code, exceptionTable := #[], attributes := #[] }
def k2m5 : Method := { name := "room", desc := "([II)[I", sig := { parameters := [(.array .int), .int], returnType := some (.array .int) }, accessFlags := 10, code := some k2c5 }
def k2c6 : Code := { maxStack := 5, maxLocals := 9, code := prog_87_method_20_code, exceptionTable := #[], attributes := #[] }
def k2m6 : Method := { name := "zeroAlike", desc := "(I[D)Z", sig := { parameters := [.int, (.array .double)], returnType := some .boolean }, accessFlags := 0, code := some k2c6 }
/-- com/example/sambre/sambre/engine/Rows -/
def k2 : Class := { plain "com/example/sambre/sambre/engine/Rows" (some 0) with
  accessFlags := 32
  interfaces := #[]
  cf := some (fileOf pool2 8 #[.nestMembers #[58]] #[{ accessFlags := 0, nameIndex := 5, descriptorIndex := 6, attributes := #[] }, { accessFlags := 0, nameIndex := 233, descriptorIndex := 234, attributes := #[] }, { accessFlags := 0, nameIndex := 237, descriptorIndex := 238, attributes := #[] }, { accessFlags := 2, nameIndex := 104, descriptorIndex := 6, attributes := #[] }, { accessFlags := 2, nameIndex := 114, descriptorIndex := 115, attributes := #[] }, { accessFlags := 10, nameIndex := 107, descriptorIndex := 108, attributes := #[] }, { accessFlags := 0, nameIndex := 248, descriptorIndex := 216, attributes := #[] }] 32 2 #[] #[{ accessFlags := 24, nameIndex := 226, descriptorIndex := 56, attributes := #[] }, { accessFlags := 26, nameIndex := 229, descriptorIndex := 56, attributes := #[] }, { accessFlags := 26, nameIndex := 158, descriptorIndex := 56, attributes := #[] }, { accessFlags := 2, nameIndex := 55, descriptorIndex := 56, attributes := #[] }, { accessFlags := 2, nameIndex := 18, descriptorIndex := 12, attributes := #[] }, { accessFlags := 2, nameIndex := 21, descriptorIndex := 12, attributes := #[] }, { accessFlags := 2, nameIndex := 24, descriptorIndex := 12, attributes := #[] }, { accessFlags := 2, nameIndex := 27, descriptorIndex := 12, attributes := #[] }, { accessFlags := 2, nameIndex := 30, descriptorIndex := 12, attributes := #[] }, { accessFlags := 2, nameIndex := 33, descriptorIndex := 12, attributes := #[] }, { accessFlags := 2, nameIndex := 36, descriptorIndex := 12, attributes := #[] }, { accessFlags := 2, nameIndex := 39, descriptorIndex := 12, attributes := #[] }, { accessFlags := 2, nameIndex := 42, descriptorIndex := 12, attributes := #[] }, { accessFlags := 2, nameIndex := 45, descriptorIndex := 12, attributes := #[] }, { accessFlags := 2, nameIndex := 48, descriptorIndex := 12, attributes := #[] }, { accessFlags := 2, nameIndex := 51, descriptorIndex := 52, attributes := #[] }, { accessFlags := 2, nameIndex := 11, descriptorIndex := 12, attributes := #[] }, { accessFlags := 2, nameIndex := 15, descriptorIndex := 12, attributes := #[] }, { accessFlags := 2, nameIndex := 101, descriptorIndex := 56, attributes := #[] }, { accessFlags := 2, nameIndex := 69, descriptorIndex := 12, attributes := #[] }, { accessFlags := 2, nameIndex := 126, descriptorIndex := 12, attributes := #[] }, { accessFlags := 2, nameIndex := 129, descriptorIndex := 12, attributes := #[] }, { accessFlags := 2, nameIndex := 132, descriptorIndex := 12, attributes := #[] }, { accessFlags := 2, nameIndex := 135, descriptorIndex := 12, attributes := #[] }, { accessFlags := 2, nameIndex := 72, descriptorIndex := 12, attributes := #[] }, { accessFlags := 2, nameIndex := 141, descriptorIndex := 142, attributes := #[] }, { accessFlags := 2, nameIndex := 145, descriptorIndex := 56, attributes := #[] }, { accessFlags := 2, nameIndex := 148, descriptorIndex := 56, attributes := #[] }, { accessFlags := 2, nameIndex := 178, descriptorIndex := 56, attributes := #[] }, { accessFlags := 2, nameIndex := 181, descriptorIndex := 56, attributes := #[] }, { accessFlags := 2, nameIndex := 184, descriptorIndex := 56, attributes := #[] }, { accessFlags := 2, nameIndex := 187, descriptorIndex := 56, attributes := #[] }])
  fields := #[{ name := "NONE", type := .int, accessFlags := 24, slot := 0, constantValue := 0 }, { name := "FIRST_BLOCK", type := .int, accessFlags := 26, slot := 1, constantValue := 0 }, { name := "LARGEST_BLOCK", type := .int, accessFlags := 26, slot := 2, constantValue := 0 }, { name := "shapeCount", type := .int, accessFlags := 2, slot := 0, constantValue := 0 }, { name := "nextShape", type := (.array .int), accessFlags := 2, slot := 1, constantValue := 0 }, { name := "firstChoice", type := (.array .int), accessFlags := 2, slot := 2, constantValue := 0 }, { name := "firstKey", type := (.array .int), accessFlags := 2, slot := 3, constantValue := 0 }, { name := "keyLength", type := (.array .int), accessFlags := 2, slot := 4, constantValue := 0 }, { name := "firstRange", type := (.array .int), accessFlags := 2, slot := 5, constantValue := 0 }, { name := "firstAction", type := (.array .int), accessFlags := 2, slot := 6, constantValue := 0 }, { name := "firstCommand", type := (.array .int), accessFlags := 2, slot := 7, constantValue := 0 }, { name := "firstTransition", type := (.array .int), accessFlags := 2, slot := 8, constantValue := 0 }, { name := "actions", type := (.array .int), accessFlags := 2, slot := 9, constantValue := 0 }, { name := "commands", type := (.array .int), accessFlags := 2, slot := 10, constantValue := 0 }, { name := "successors", type := (.array .int), accessFlags := 2, slot := 11, constantValue := 0 }, { name := "probabilities", type := (.array .double), accessFlags := 2, slot := 12, constantValue := 0 }, { name := "keys", type := (.array .int), accessFlags := 2, slot := 13, constantValue := 0 }, { name := "ranges", type := (.array .int), accessFlags := 2, slot := 14, constantValue := 0 }, { name := "rowCount", type := .int, accessFlags := 2, slot := 15, constantValue := 0 }, { name := "lastRow", type := (.array .int), accessFlags := 2, slot := 16, constantValue := 0 }, { name := "shapeOf", type := (.array .int), accessFlags := 2, slot := 17, constantValue := 0 }, { name := "nextRow", type := (.array .int), accessFlags := 2, slot := 18, constantValue := 0 }, { name := "blockOf", type := (.array .int), accessFlags := 2, slot := 19, constantValue := 0 }, { name := "shift", type := (.array .int), accessFlags := 2, slot := 20, constantValue := 0 }, { name := "varyingCount", type := (.array .int), accessFlags := 2, slot := 21, constantValue := 0 }, { name := "blocks", type := (.array (.array .double)), accessFlags := 2, slot := 22, constantValue := 0 }, { name := "blockCount", type := .int, accessFlags := 2, slot := 23, constantValue := 0 }, { name := "used", type := .int, accessFlags := 2, slot := 24, constantValue := 0 }, { name := "markedShapes", type := .int, accessFlags := 2, slot := 25, constantValue := 0 }, { name := "markedRows", type := .int, accessFlags := 2, slot := 26, constantValue := 0 }, { name := "markedBlocks", type := .int, accessFlags := 2, slot := 27, constantValue := 0 }, { name := "markedUsed", type := .int, accessFlags := 2, slot := 28, constantValue := 0 }]
  methods := #[k2m0, k2m1, k2m2, k2m3, k2m4, k2m5, k2m6]
  instanceTypes := #[.int, (.array .int), (.array .int), (.array .int), (.array .int), (.array .int), (.array .int), (.array .int), (.array .int), (.array .int), (.array .int), (.array .int), (.array .double), (.array .int), (.array .int), .int, (.array .int), (.array .int), (.array .int), (.array .int), (.array .int), (.array .int), (.array (.array .double)), .int, .int, .int, .int, .int, .int]
  staticTypes := #[.int, .int, .int]
  resolved := resd 283 [(57, .field 3 12), (62, .field 3 1), (65, .field 3 2), (70, .field 3 4), (73, .field 3 13), (76, .field 3 14), (79, .field 3 15), (86, .field 3 5), (87, .field 3 7), (88, .field 3 9), (89, .field 3 6), (96, .field 3 8), (97, .field 3 10), (98, .field 3 11), (109, .field 3 3)]
  statics := none }

def pool3 : Array CpInfo := pool [(1, .methodref 2 3), (0, .class_ 4), (0, .nameAndType 5 6), (0, u "java/lang/Object"), (0, u "<init>"), (0, u "()V"), (0, .fieldref 8 9), (0, .class_ 10), (0, .nameAndType 11 12), (0, u "com/example/sambre/sambre/engine/Rows$Builder"), (0, u "firstAction"), (0, u "[I"), (0, .fieldref 8 14), (0, .nameAndType 15 12), (0, u "actions"), (0, .fieldref 8 17), (0, .nameAndType 18 12), (0, u "firstCommand"), (0, .fieldref 8 20), (0, .nameAndType 21 12), (0, u "commands"), (0, .fieldref 8 23), (0, .nameAndType 24 12), (0, u "firstTransition"), (0, .fieldref 8 26), (0, .nameAndType 27 12), (0, u "successors"), (0, .fieldref 8 29), (0, .nameAndType 30 31), (0, u "probabilities"), (0, u "[D"), (0, .fieldref 8 33), (0, .nameAndType 34 12), (0, u "key"), (0, .fieldref 8 36), (0, .nameAndType 37 38), (0, u "keyLength"), (0, u "I"), (0, .fieldref 8 40), (0, .nameAndType 41 31), (0, u "varying"), (0, .fieldref 8 43), (0, .nameAndType 44 38), (0, u "varyingCount"), (0, .fieldref 8 46), (0, .nameAndType 47 38), (0, u "choiceCount"), (0, .fieldref 8 49), (0, .nameAndType 50 38), (0, u "actionCount"), (0, .fieldref 8 52), (0, .nameAndType 53 38), (0, u "commandCount"), (0, .fieldref 8 55), (0, .nameAndType 56 38), (0, u "transitionCount"), (0, .fieldref 8 58), (0, .nameAndType 59 60), (0, u "places"), (0, u "Ljava/util/Map;"), (31, u "SCANNED"), (6, u "start"), (0, u "([II[DI)V"), (0, u "startChoice"), (4, u "addMove"), (0, u "(ID)I"), (5, .class_ 114), (0, u "com/example/sambre/sambre/engine/Rows")] 2

def k3c0 : Code := { maxStack := 2, maxLocals := 1, code := prog_88_method_1_code, exceptionTable := #[], attributes := #[] }
def k3m0 : Method := { name := "<init>", desc := "()V", sig := { parameters := [], returnType := none }, accessFlags := 0, code := some k3c0 }
def k3c1 : Code := { maxStack := 2, maxLocals := 5, code := prog_88_method_2_code, exceptionTable := #[], attributes := #[] }
def k3m1 : Method := { name := "start", desc := "([II[DI)V", sig := { parameters := [(.array .int), .int, (.array .double), .int], returnType := none }, accessFlags := 0, code := some k3c1 }
def k3c2 : Code := { maxStack := 5, maxLocals := 1, code := prog_88_method_3_code, exceptionTable := #[], attributes := #[] }
def k3m2 : Method := { name := "startChoice", desc := "()V", sig := { parameters := [], returnType := none }, accessFlags := 0, code := some k3c2 }
def k3c3 : Code := { maxStack := 6, maxLocals := 7, code := prog_88_method_6_code, exceptionTable := #[], attributes := #[] }
def k3m3 : Method := { name := "addMove", desc := "(ID)I", sig := { parameters := [.int, .double], returnType := some .int }, accessFlags := 0, code := some k3c3 }
/-- com/example/sambre/sambre/engine/Rows$Builder -/
def k3 : Class := { plain "com/example/sambre/sambre/engine/Rows$Builder" (some 0) with
  accessFlags := 32
  interfaces := #[]
  cf := some (fileOf pool3 8 #[.nestHost 113] #[{ accessFlags := 0, nameIndex := 5, descriptorIndex := 6, attributes := #[] }, { accessFlags := 0, nameIndex := 99, descriptorIndex := 100, attributes := #[] }, { accessFlags := 0, nameIndex := 101, descriptorIndex := 6, attributes := #[] }, { accessFlags := 0, nameIndex := 106, descriptorIndex := 107, attributes := #[] }] 32 2 #[] #[{ accessFlags := 26, nameIndex := 92, descriptorIndex := 38, attributes := #[] }, { accessFlags := 2, nameIndex := 34, descriptorIndex := 12, attributes := #[] }, { accessFlags := 2, nameIndex := 37, descriptorIndex := 38, attributes := #[] }, { accessFlags := 2, nameIndex := 41, descriptorIndex := 31, attributes := #[] }, { accessFlags := 2, nameIndex := 44, descriptorIndex := 38, attributes := #[] }, { accessFlags := 2, nameIndex := 11, descriptorIndex := 12, attributes := #[] }, { accessFlags := 2, nameIndex := 15, descriptorIndex := 12, attributes := #[] }, { accessFlags := 2, nameIndex := 18, descriptorIndex := 12, attributes := #[] }, { accessFlags := 2, nameIndex := 21, descriptorIndex := 12, attributes := #[] }, { accessFlags := 2, nameIndex := 24, descriptorIndex := 12, attributes := #[] }, { accessFlags := 2, nameIndex := 27, descriptorIndex := 12, attributes := #[] }, { accessFlags := 2, nameIndex := 30, descriptorIndex := 31, attributes := #[] }, { accessFlags := 2, nameIndex := 47, descriptorIndex := 38, attributes := #[] }, { accessFlags := 2, nameIndex := 50, descriptorIndex := 38, attributes := #[] }, { accessFlags := 2, nameIndex := 53, descriptorIndex := 38, attributes := #[] }, { accessFlags := 2, nameIndex := 56, descriptorIndex := 38, attributes := #[] }, { accessFlags := 2, nameIndex := 59, descriptorIndex := 60, attributes := #[] }])
  fields := #[{ name := "SCANNED", type := .int, accessFlags := 26, slot := 0, constantValue := 0 }, { name := "key", type := (.array .int), accessFlags := 2, slot := 0, constantValue := 0 }, { name := "keyLength", type := .int, accessFlags := 2, slot := 1, constantValue := 0 }, { name := "varying", type := (.array .double), accessFlags := 2, slot := 2, constantValue := 0 }, { name := "varyingCount", type := .int, accessFlags := 2, slot := 3, constantValue := 0 }, { name := "firstAction", type := (.array .int), accessFlags := 2, slot := 4, constantValue := 0 }, { name := "actions", type := (.array .int), accessFlags := 2, slot := 5, constantValue := 0 }, { name := "firstCommand", type := (.array .int), accessFlags := 2, slot := 6, constantValue := 0 }, { name := "commands", type := (.array .int), accessFlags := 2, slot := 7, constantValue := 0 }, { name := "firstTransition", type := (.array .int), accessFlags := 2, slot := 8, constantValue := 0 }, { name := "successors", type := (.array .int), accessFlags := 2, slot := 9, constantValue := 0 }, { name := "probabilities", type := (.array .double), accessFlags := 2, slot := 10, constantValue := 0 }, { name := "choiceCount", type := .int, accessFlags := 2, slot := 11, constantValue := 0 }, { name := "actionCount", type := .int, accessFlags := 2, slot := 12, constantValue := 0 }, { name := "commandCount", type := .int, accessFlags := 2, slot := 13, constantValue := 0 }, { name := "transitionCount", type := .int, accessFlags := 2, slot := 14, constantValue := 0 }, { name := "places", type := (.object "java/util/Map"), accessFlags := 2, slot := 15, constantValue := 0 }]
  methods := #[k3m0, k3m1, k3m2, k3m3]
  instanceTypes := #[(.array .int), .int, (.array .double), .int, (.array .int), (.array .int), (.array .int), (.array .int), (.array .int), (.array .int), (.array .double), .int, .int, .int, .int, (.object "java/util/Map")]
  staticTypes := #[.int]
  resolved := Array.replicate 117 none
  statics := none }

def pool4 : Array CpInfo := pool [(2, .class_ 4), (1, u "java/lang/Object"), (0, u "<init>"), (0, u "()V"), (1, .class_ 10), (1, u "java/lang/System"), (0, u "allowSecurityManager"), (0, u "I"), (16, u "cons"), (0, u "Ljava/io/Console;"), (77, .class_ 110), (1, u "java/lang/System$CallersHolder"), (43, u "initialErrStream"), (0, u "Ljava/io/PrintStream;"), (19, u "security"), (0, u "Ljava/lang/SecurityManager;"), (31, .class_ 209), (0, u "java/lang/System$1"), (7, u "props"), (0, u "Ljava/util/Properties;"), (2, u "lineSeparator"), (0, u "Ljava/lang/String;"), (96, .class_ 321), (1, u "java/lang/System$LoggerFinder"), (5, .class_ 328), (0, u "java/lang/System$Logger"), (67, u "err"), (2, u "out"), (91, u "notSupportedJnuEncoding"), (15, u "in"), (17, u "initialIn"), (0, u "Ljava/io/InputStream;"), (35, u "bootLayer"), (0, u "Ljava/lang/ModuleLayer;"), (99, .class_ 664), (0, u "java/lang/System$2"), (9, u "NEVER"), (2, u "MAYBE"), (49, u "arraycopy"), (0, u "(Ljava/lang/Object;ILjava/lang/Object;II)V"), (72, .class_ 802), (0, u "java/lang/System$Logger$Level")] 31

def k4m0 : Method := { name := "<init>", desc := "()V", sig := { parameters := [], returnType := none }, accessFlags := 2, code := none }
def k4m1 : Method := { name := "arraycopy", desc := "(Ljava/lang/Object;ILjava/lang/Object;II)V", sig := { parameters := [(.object "java/lang/Object"), .int, (.object "java/lang/Object"), .int, .int], returnType := none }, accessFlags := 265, code := none }
/-- java/lang/System -/
def k4 : Class := { plain "java/lang/System" (some 0) with
  accessFlags := 49
  interfaces := #[]
  cf := some (fileOf pool4 8 #[.nestMembers #[319, 327, 801, 108, 663, 208]] #[{ accessFlags := 2, nameIndex := 5, descriptorIndex := 6, attributes := #[] }, { accessFlags := 265, nameIndex := 727, descriptorIndex := 728, attributes := #[] }] 49 2 #[] #[{ accessFlags := 25, nameIndex := 507, descriptorIndex := 526, attributes := #[] }, { accessFlags := 25, nameIndex := 399, descriptorIndex := 155, attributes := #[] }, { accessFlags := 25, nameIndex := 396, descriptorIndex := 155, attributes := #[] }, { accessFlags := 10, nameIndex := 525, descriptorIndex := 526, attributes := #[] }, { accessFlags := 26, nameIndex := 674, descriptorIndex := 12, attributes := #[] }, { accessFlags := 26, nameIndex := 677, descriptorIndex := 12, attributes := #[] }, { accessFlags := 10, nameIndex := 11, descriptorIndex := 12, attributes := #[] }, { accessFlags := 74, nameIndex := 175, descriptorIndex := 176, attributes := #[] }, { accessFlags := 10, nameIndex := 491, descriptorIndex := 222, attributes := #[] }, { accessFlags := 74, nameIndex := 29, descriptorIndex := 30, attributes := #[] }, { accessFlags := 74, nameIndex := 154, descriptorIndex := 155, attributes := #[] }, { accessFlags := 10, nameIndex := 217, descriptorIndex := 218, attributes := #[] }, { accessFlags := 10, nameIndex := 221, descriptorIndex := 222, attributes := #[] }, { accessFlags := 8, nameIndex := 562, descriptorIndex := 563, attributes := #[] }])
  fields := #[{ name := "in", type := (.object "java/io/InputStream"), accessFlags := 25, slot := 0, constantValue := 0 }, { name := "out", type := (.object "java/io/PrintStream"), accessFlags := 25, slot := 1, constantValue := 0 }, { name := "err", type := (.object "java/io/PrintStream"), accessFlags := 25, slot := 2, constantValue := 0 }, { name := "initialIn", type := (.object "java/io/InputStream"), accessFlags := 10, slot := 3, constantValue := 0 }, { name := "NEVER", type := .int, accessFlags := 26, slot := 4, constantValue := 0 }, { name := "MAYBE", type := .int, accessFlags := 26, slot := 5, constantValue := 0 }, { name := "allowSecurityManager", type := .int, accessFlags := 10, slot := 6, constantValue := 0 }, { name := "security", type := (.object "java/lang/SecurityManager"), accessFlags := 74, slot := 7, constantValue := 0 }, { name := "notSupportedJnuEncoding", type := (.object "java/lang/String"), accessFlags := 10, slot := 8, constantValue := 0 }, { name := "cons", type := (.object "java/io/Console"), accessFlags := 74, slot := 9, constantValue := 0 }, { name := "initialErrStream", type := (.object "java/io/PrintStream"), accessFlags := 74, slot := 10, constantValue := 0 }, { name := "props", type := (.object "java/util/Properties"), accessFlags := 10, slot := 11, constantValue := 0 }, { name := "lineSeparator", type := (.object "java/lang/String"), accessFlags := 10, slot := 12, constantValue := 0 }, { name := "bootLayer", type := (.object "java/lang/ModuleLayer"), accessFlags := 8, slot := 13, constantValue := 0 }]
  methods := #[k4m0, k4m1]
  instanceTypes := #[]
  staticTypes := #[(.object "java/io/InputStream"), (.object "java/io/PrintStream"), (.object "java/io/PrintStream"), (.object "java/io/InputStream"), .int, .int, .int, (.object "java/lang/SecurityManager"), (.object "java/lang/String"), (.object "java/io/Console"), (.object "java/io/PrintStream"), (.object "java/util/Properties"), (.object "java/lang/String"), (.object "java/lang/ModuleLayer")]
  resolved := Array.replicate 834 none
  statics := none }

def pool5 : Array CpInfo := pool [(4, .class_ 6), (1, u "java/lang/Object"), (0, u "<init>"), (0, u "()V"), (0, .class_ 10), (0, u "com/example/sambre/sambre/engine/ArrayLengths"), (0, .long 16), (1, .long 2147483639), (1, .methodref 16 17), (0, .class_ 18), (0, .nameAndType 19 20), (0, u "java/lang/Math"), (0, u "min"), (0, u "(JJ)J"), (0, .methodref 22 23), (0, .class_ 24), (0, .nameAndType 25 26), (0, u "java/lang/Long"), (0, u "highestOneBit"), (0, u "(J)J"), (0, .methodref 9 28), (0, .nameAndType 29 30), (0, u "filling"), (0, u "(JI)I"), (16, u "(II)I"), (0, u "HEADER"), (0, u "I"), (2, u "LONGEST"), (0, u "J"), (2, u "atLeast")] 5

def k5m0 : Method := { name := "<init>", desc := "()V", sig := { parameters := [], returnType := none }, accessFlags := 2, code := none }
def k5c1 : Code := { maxStack := 4, maxLocals := 3, code := prog_6_method_2_code, exceptionTable := #[], attributes := #[] }
def k5m1 : Method := { name := "filling", desc := "(JI)I", sig := { parameters := [.long, .int], returnType := some .int }, accessFlags := 8, code := some k5c1 }
def k5c2 : Code := { maxStack := 6, maxLocals := 4, code := prog_6_method_3_code, exceptionTable := #[], attributes := #[] }
def k5m2 : Method := { name := "atLeast", desc := "(II)I", sig := { parameters := [.int, .int], returnType := some .int }, accessFlags := 8, code := some k5c2 }
/-- com/example/sambre/sambre/engine/ArrayLengths -/
def k5 : Class := { plain "com/example/sambre/sambre/engine/ArrayLengths" (some 0) with
  accessFlags := 32
  interfaces := #[]
  cf := some (fileOf pool5 9 #[] #[{ accessFlags := 2, nameIndex := 7, descriptorIndex := 8, attributes := #[] }, { accessFlags := 8, nameIndex := 29, descriptorIndex := 30, attributes := #[] }, { accessFlags := 8, nameIndex := 56, descriptorIndex := 47, attributes := #[] }] 32 4 #[] #[{ accessFlags := 24, nameIndex := 48, descriptorIndex := 49, attributes := #[] }, { accessFlags := 26, nameIndex := 52, descriptorIndex := 53, attributes := #[] }])
  fields := #[{ name := "HEADER", type := .int, accessFlags := 24, slot := 0, constantValue := 0 }, { name := "LONGEST", type := .long, accessFlags := 26, slot := 1, constantValue := 0 }]
  methods := #[k5m0, k5m1, k5m2]
  instanceTypes := #[]
  staticTypes := #[.int, .long]
  resolved := Array.replicate 62 none
  statics := none }

def pool6 : Array CpInfo := pool [(1, .class_ 2), (0, u "java/io/Serializable"), (0, .class_ 4), (0, u "java/lang/Object")] 2

/-- java/io/Serializable -/
def k6 : Class := { plain "java/io/Serializable" (some 0) with
  accessFlags := 1537
  interfaces := #[]
  cf := some (fileOf pool6 1 #[] #[] 1537 3 #[] #[])
  fields := #[]
  methods := #[]
  instanceTypes := #[]
  staticTypes := #[]
  resolved := Array.replicate 7 none
  statics := none }

def pool7 : Array CpInfo := pool [(2, .class_ 4), (1, u "java/lang/Object"), (0, u "<init>"), (0, u "()V"), (1, .class_ 10), (1, u "java/lang/Number"), (2, .class_ 14), (0, u "java/io/Serializable"), (0, u "serialVersionUID"), (0, u "J")] 20

def k7m0 : Method := { name := "<init>", desc := "()V", sig := { parameters := [], returnType := none }, accessFlags := 1, code := none }
/-- java/lang/Number -/
def k7 : Class := { plain "java/lang/Number" (some 0) with
  accessFlags := 1057
  interfaces := #[6]
  cf := some (fileOf pool7 8 #[] #[{ accessFlags := 1, nameIndex := 5, descriptorIndex := 6, attributes := #[] }] 1057 2 #[13] #[{ accessFlags := 26, nameIndex := 15, descriptorIndex := 16, attributes := #[] }])
  fields := #[{ name := "serialVersionUID", type := .long, accessFlags := 26, slot := 0, constantValue := 0 }]
  methods := #[k7m0]
  instanceTypes := #[]
  staticTypes := #[.long]
  resolved := Array.replicate 37 none
  statics := none }

def pool8 : Array CpInfo := pool [(1, .class_ 2), (0, u "java/lang/Comparable"), (0, .class_ 4), (0, u "java/lang/Object")] 7

/-- java/lang/Comparable -/
def k8 : Class := { plain "java/lang/Comparable" (some 0) with
  accessFlags := 1537
  interfaces := #[]
  cf := some (fileOf pool8 1 #[] #[] 1537 3 #[] #[])
  fields := #[]
  methods := #[]
  instanceTypes := #[]
  staticTypes := #[]
  resolved := Array.replicate 12 none
  statics := none }

def pool9 : Array CpInfo := pool [(1, .class_ 2), (0, u "java/lang/constant/Constable"), (0, .class_ 4), (0, u "java/lang/Object")] 6

/-- java/lang/constant/Constable -/
def k9 : Class := { plain "java/lang/constant/Constable" (some 0) with
  accessFlags := 1537
  interfaces := #[]
  cf := some (fileOf pool9 1 #[] #[] 1537 3 #[] #[])
  fields := #[]
  methods := #[]
  instanceTypes := #[]
  staticTypes := #[]
  resolved := Array.replicate 11 none
  statics := none }

def pool10 : Array CpInfo := pool [(1, .class_ 2), (0, u "java/lang/constant/ConstantDesc"), (0, .class_ 4), (0, u "java/lang/Object")] 32

/-- java/lang/constant/ConstantDesc -/
def k10 : Class := { plain "java/lang/constant/ConstantDesc" (some 0) with
  accessFlags := 1537
  interfaces := #[]
  cf := some (fileOf pool10 1 #[] #[] 1537 3 #[] #[])
  fields := #[]
  methods := #[]
  instanceTypes := #[]
  staticTypes := #[]
  resolved := Array.replicate 37 none
  statics := none }

def pool11 : Array CpInfo := pool [(1, .class_ 2), (0, u "java/lang/Long"), (15, .class_ 20), (1, u "java/lang/Integer"), (77, .methodref 1 99), (0, .nameAndType 100 101), (0, u "numberOfLeadingZeros"), (0, u "(J)I"), (66, .long 9223372036854775808), (66, .class_ 237), (1, u "java/lang/Long$LongCache"), (33, .class_ 272), (0, u "java/lang/Number"), (2, u "value"), (0, u "J"), (31, .methodref 18 309), (0, .nameAndType 100 310), (0, u "(I)I"), (12, u "(J)J"), (37, u "TYPE"), (0, u "Ljava/lang/Class;"), (0, .class_ 364), (0, u "java/lang/Comparable"), (0, .class_ 366), (0, u "java/lang/constant/Constable"), (0, .class_ 368), (0, u "java/lang/constant/ConstantDesc"), (0, u "MIN_VALUE"), (1, u "MAX_VALUE"), (4, u "SIZE"), (0, u "I"), (1, u "BYTES"), (1, u "serialVersionUID"), (92, u "highestOneBit")] 49

def k11c0 : Code := { maxStack := 6, maxLocals := 2, code := jdk_35_method_46_code, exceptionTable := #[], attributes := #[] }
def k11m0 : Method := { name := "highestOneBit", desc := "(J)J", sig := { parameters := [.long], returnType := some .long }, accessFlags := 9, code := some k11c0 }
def k11c1 : Code := { maxStack := 3, maxLocals := 3, code := jdk_35_method_48_code, exceptionTable := #[], attributes := #[] }
def k11m1 : Method := { name := "numberOfLeadingZeros", desc := "(J)I", sig := { parameters := [.long], returnType := some .int }, accessFlags := 9, code := some k11c1 }
/-- java/lang/Long -/
def k11 : Class := { plain "java/lang/Long" (some 7) with
  accessFlags := 49
  interfaces := #[8, 9, 10]
  cf := some (fileOf pool11 1 #[.nestMembers #[235]] #[{ accessFlags := 9, nameIndex := 474, descriptorIndex := 323, attributes := #[] }, { accessFlags := 9, nameIndex := 100, descriptorIndex := 101, attributes := #[] }] 49 271 #[363, 365, 367] #[{ accessFlags := 25, nameIndex := 369, descriptorIndex := 276, attributes := #[] }, { accessFlags := 25, nameIndex := 371, descriptorIndex := 276, attributes := #[] }, { accessFlags := 25, nameIndex := 361, descriptorIndex := 362, attributes := #[] }, { accessFlags := 18, nameIndex := 275, descriptorIndex := 276, attributes := #[] }, { accessFlags := 25, nameIndex := 376, descriptorIndex := 377, attributes := #[] }, { accessFlags := 25, nameIndex := 379, descriptorIndex := 377, attributes := #[] }, { accessFlags := 26, nameIndex := 381, descriptorIndex := 276, attributes := #[] }])
  fields := #[{ name := "MIN_VALUE", type := .long, accessFlags := 25, slot := 0, constantValue := 0 }, { name := "MAX_VALUE", type := .long, accessFlags := 25, slot := 1, constantValue := 0 }, { name := "TYPE", type := (.object "java/lang/Class"), accessFlags := 25, slot := 2, constantValue := 0 }, { name := "value", type := .long, accessFlags := 18, slot := 0, constantValue := 0 }, { name := "SIZE", type := .int, accessFlags := 25, slot := 3, constantValue := 0 }, { name := "BYTES", type := .int, accessFlags := 25, slot := 4, constantValue := 0 }, { name := "serialVersionUID", type := .long, accessFlags := 26, slot := 5, constantValue := 0 }]
  methods := #[k11m0, k11m1]
  instanceTypes := #[.long]
  staticTypes := #[.long, .long, (.object "java/lang/Class"), .int, .int, .long]
  resolved := Array.replicate 524 none
  statics := none }

def pool12 : Array CpInfo := pool [(1, .class_ 2), (0, u "java/lang/Integer"), (16, u "digits"), (0, u "[C"), (32, u "numberOfLeadingZeros"), (0, u "(I)I"), (30, u "DigitOnes"), (0, u "[B"), (2, u "DigitTens"), (99, .class_ 190), (0, u "java/lang/Integer$IntegerCache"), (3, u "I"), (8, .class_ 204), (0, u "java/lang/Number"), (2, u "value"), (56, .integer 65536), (37, u "TYPE"), (0, u "Ljava/lang/Class;"), (0, .class_ 305), (0, u "java/lang/Comparable"), (0, .class_ 307), (0, u "java/lang/constant/Constable"), (0, .class_ 309), (0, u "java/lang/constant/ConstantDesc"), (0, u "MIN_VALUE"), (1, u "MAX_VALUE"), (3, u "SIZE"), (1, u "BYTES"), (1, u "serialVersionUID"), (0, u "J")] 131

def k12c0 : Code := { maxStack := 3, maxLocals := 2, code := jdk_33_method_47_code, exceptionTable := #[], attributes := #[] }
def k12m0 : Method := { name := "numberOfLeadingZeros", desc := "(I)I", sig := { parameters := [.int], returnType := some .int }, accessFlags := 9, code := some k12c0 }
/-- java/lang/Integer -/
def k12 : Class := { plain "java/lang/Integer" (some 7) with
  accessFlags := 49
  interfaces := #[8, 9, 10]
  cf := some (fileOf pool12 1 #[.nestMembers #[189]] #[{ accessFlags := 9, nameIndex := 53, descriptorIndex := 54, attributes := #[] }] 49 203 #[304, 306, 308] #[{ accessFlags := 25, nameIndex := 310, descriptorIndex := 194, attributes := #[] }, { accessFlags := 25, nameIndex := 312, descriptorIndex := 194, attributes := #[] }, { accessFlags := 25, nameIndex := 302, descriptorIndex := 303, attributes := #[] }, { accessFlags := 24, nameIndex := 19, descriptorIndex := 20, attributes := #[] }, { accessFlags := 24, nameIndex := 89, descriptorIndex := 86, attributes := #[] }, { accessFlags := 24, nameIndex := 85, descriptorIndex := 86, attributes := #[] }, { accessFlags := 18, nameIndex := 207, descriptorIndex := 194, attributes := #[] }, { accessFlags := 25, nameIndex := 316, descriptorIndex := 194, attributes := #[] }, { accessFlags := 25, nameIndex := 318, descriptorIndex := 194, attributes := #[] }, { accessFlags := 26, nameIndex := 320, descriptorIndex := 321, attributes := #[] }])
  fields := #[{ name := "MIN_VALUE", type := .int, accessFlags := 25, slot := 0, constantValue := 0 }, { name := "MAX_VALUE", type := .int, accessFlags := 25, slot := 1, constantValue := 0 }, { name := "TYPE", type := (.object "java/lang/Class"), accessFlags := 25, slot := 2, constantValue := 0 }, { name := "digits", type := (.array .char), accessFlags := 24, slot := 3, constantValue := 0 }, { name := "DigitTens", type := (.array .byte), accessFlags := 24, slot := 4, constantValue := 0 }, { name := "DigitOnes", type := (.array .byte), accessFlags := 24, slot := 5, constantValue := 0 }, { name := "value", type := .int, accessFlags := 18, slot := 0, constantValue := 0 }, { name := "SIZE", type := .int, accessFlags := 25, slot := 6, constantValue := 0 }, { name := "BYTES", type := .int, accessFlags := 25, slot := 7, constantValue := 0 }, { name := "serialVersionUID", type := .long, accessFlags := 26, slot := 8, constantValue := 0 }]
  methods := #[k12m0]
  instanceTypes := #[.int]
  staticTypes := #[.int, .int, (.object "java/lang/Class"), (.array .char), (.array .byte), (.array .byte), .int, .int, .long]
  resolved := Array.replicate 453 none
  statics := none }

def pool13 : Array CpInfo := pool [(1, .class_ 2), (0, u "java/lang/Math"), (1, .class_ 6), (1, u "java/lang/Object"), (0, u "<init>"), (0, u "()V"), (89, .class_ 100), (1, u "java/lang/Math$RandomNumberGeneratorHolder"), (20, u "(JJ)J"), (50, u "negativeZeroFloatBits"), (0, u "J"), (2, u "negativeZeroDoubleBits"), (24, u "min"), (43, u "$assertionsDisabled"), (0, u "Z"), (91, u "twoToTheDoubleScaleDown"), (0, u "D"), (4, u "twoToTheDoubleScaleUp"), (9, u "E"), (3, u "PI"), (2, u "TAU"), (2, u "DEGREES_TO_RADIANS"), (0, u "RADIANS_TO_DEGREES")] 94

def k13m0 : Method := { name := "<init>", desc := "()V", sig := { parameters := [], returnType := none }, accessFlags := 2, code := none }
def k13c1 : Code := { maxStack := 4, maxLocals := 4, code := jdk_29_method_70_code, exceptionTable := #[], attributes := #[] }
def k13m1 : Method := { name := "min", desc := "(JJ)J", sig := { parameters := [.long, .long], returnType := some .long }, accessFlags := 9, code := some k13c1 }
/-- java/lang/Math -/
def k13 : Class := { plain "java/lang/Math" (some 0) with
  accessFlags := 49
  interfaces := #[]
  cf := some (fileOf pool13 1 #[.nestMembers #[98]] #[{ accessFlags := 2, nameIndex := 7, descriptorIndex := 8, attributes := #[] }, { accessFlags := 9, nameIndex := 201, descriptorIndex := 121, attributes := #[] }] 49 4 #[] #[{ accessFlags := 25, nameIndex := 354, descriptorIndex := 339, attributes := #[] }, { accessFlags := 25, nameIndex := 358, descriptorIndex := 339, attributes := #[] }, { accessFlags := 25, nameIndex := 361, descriptorIndex := 339, attributes := #[] }, { accessFlags := 26, nameIndex := 364, descriptorIndex := 339, attributes := #[] }, { accessFlags := 26, nameIndex := 365, descriptorIndex := 339, attributes := #[] }, { accessFlags := 26, nameIndex := 172, descriptorIndex := 173, attributes := #[] }, { accessFlags := 26, nameIndex := 176, descriptorIndex := 173, attributes := #[] }, { accessFlags := 8, nameIndex := 344, descriptorIndex := 339, attributes := #[] }, { accessFlags := 8, nameIndex := 338, descriptorIndex := 339, attributes := #[] }, { accessFlags := 4120, nameIndex := 245, descriptorIndex := 246, attributes := #[] }])
  fields := #[{ name := "E", type := .double, accessFlags := 25, slot := 0, constantValue := 0 }, { name := "PI", type := .double, accessFlags := 25, slot := 1, constantValue := 0 }, { name := "TAU", type := .double, accessFlags := 25, slot := 2, constantValue := 0 }, { name := "DEGREES_TO_RADIANS", type := .double, accessFlags := 26, slot := 3, constantValue := 0 }, { name := "RADIANS_TO_DEGREES", type := .double, accessFlags := 26, slot := 4, constantValue := 0 }, { name := "negativeZeroFloatBits", type := .long, accessFlags := 26, slot := 5, constantValue := 0 }, { name := "negativeZeroDoubleBits", type := .long, accessFlags := 26, slot := 6, constantValue := 0 }, { name := "twoToTheDoubleScaleUp", type := .double, accessFlags := 8, slot := 7, constantValue := 0 }, { name := "twoToTheDoubleScaleDown", type := .double, accessFlags := 8, slot := 8, constantValue := 0 }, { name := "$assertionsDisabled", type := .boolean, accessFlags := 4120, slot := 9, constantValue := 0 }]
  methods := #[k13m0, k13m1]
  instanceTypes := #[]
  staticTypes := #[.double, .double, .double, .double, .double, .long, .long, .double, .double, .boolean]
  resolved := Array.replicate 460 none
  statics := none }

def pool14 : Array CpInfo := pool [(1, u "java/lang/Cloneable"), (0, .class_ 1), (0, u "java/lang/Object"), (0, .class_ 3)] 3

/-- java/lang/Cloneable -/
def k14 : Class := { plain "java/lang/Cloneable" (some 0) with
  accessFlags := 1537
  interfaces := #[]
  cf := some (fileOf pool14 2 #[] #[] 1537 4 #[] #[])
  fields := #[]
  methods := #[]
  instanceTypes := #[]
  staticTypes := #[]
  resolved := Array.replicate 8 none
  statics := none }

/-- the primitive byte -/
def k15 : Class := { plain "byte" none with kind := .primitive 'B', accessFlags := 0x411 }
/-- [B -/
def k16 : Class := { plain "[B" (some 0) with kind := .array 15 .byte, interfaces := #[14, 6], accessFlags := 1041 }

/-- the primitive int -/
def k17 : Class := { plain "int" none with kind := .primitive 'I', accessFlags := 0x411 }
/-- [I -/
def k18 : Class := { plain "[I" (some 0) with kind := .array 17 .int, interfaces := #[14, 6], accessFlags := 1041 }

/-- the primitive double -/
def k19 : Class := { plain "double" none with kind := .primitive 'D', accessFlags := 0x411 }
/-- [D -/
def k20 : Class := { plain "[D" (some 0) with kind := .array 19 .double, interfaces := #[14, 6], accessFlags := 1041 }
/-- [[D -/
def k21 : Class := { plain "[[D" (some 0) with kind := .array 20 (.array .double), interfaces := #[14, 6], accessFlags := 1041 }

def heap : Heap := #[]
def classes : Array Class := #[k0, k1, k2, k3, k4, k5, k6, k7, k8, k9, k10, k11, k12, k13, k14, k15, k16, k17, k18, k19, k20, k21]
def interned : List (Array UInt16 × Addr) := []
def slotsUsed : Nat := 0
def theMethod : MethodId := ⟨1, 3⟩
def args0 : Array Value := #[.int 5, .int 6, .int 7, .int 2]
def aboutOver (below : List Frame) : State where
  vm := { classes := classes, interned := interned.toArray }
  heap := heap
  slotsUsed := slotsUsed
  threads := #[{ frames := .invoking theMethod args0 :: below }]
def below0 : List Frame := [.native { method := ⟨0, 0⟩, args := #[] }]
def about1 : State := aboutOver below0
def p0 : Program := .bare "" "" ""
def e0 : Env := launch0.env 0 0 0
theorem w_frames : about1.frames = Frame.invoking theMethod args0 :: below0 := rfl
set_option maxRecDepth 65536 in
theorem w_args : argsFit about1.vm theMethod args0 = true := by decide +kernel
set_option maxRecDepth 65536 in
theorem w_heap : heapFits about1 = true := by decide +kernel
set_option maxRecDepth 65536 in
theorem w_runnable : about1.curStatus? = some .runnable := by decide +kernel
set_option maxRecDepth 65536 in
theorem w_alone : about1.alone = true := by decide +kernel
set_option maxRecDepth 65536 in
theorem w_named : about1.methodNamed? x = some theMethod := by decide +kernel
set_option maxRecDepth 65536 in
theorem w_hears : about1.hears theMethod below0 = true := by decide +kernel
set_option maxRecDepth 65536 in
theorem w_ripe : about1.ripe theMethod args0 below0 = true := by decide +kernel
theorem w_running : about1.status = .running := rfl
set_option maxRecDepth 65536 in
theorem w_room : about1.hasRoom e0.platform room_1 = true :=
  launch0.hasRoom_least _ room_1 (by decide +kernel) (by decide +kernel) (by decide +kernel) (by decide +kernel) (by decide +kernel) (by decide +kernel)
theorem allAtoms_all (ts : List Jvm.Cond) (a : Array Jvm.Value) (st : Jvm.State) : (allAtoms ts).before a st = ts.all (fun c => c.before a st) := by
  induction ts with
  | nil => rfl
  | cons c t ih =>
    show (Jvm.Cond.and c (allAtoms t)).before a st = _
    rw [Jvm.Cond.before_and, ih, List.all_cons]
def words1 : List Jvm.Cond := Jvm.Cond.code x code maxLocals ret :: tables_1
/-- a 'code' word, met by the world's own term for the bytes: nothing is compared byte by byte -/
theorem code_word {y : MethodName} {bytes : ByteArray} {mx : Nat} {rt : Option FieldType} {a : Array Value} {s : State} {m : MethodId} {meth : Method} {c : Code} (h1 : s.methodNamed? y = some m) (h2 : s.vm.method? m = some meth) (h3 : meth.code = some c) (h4 : c.code = bytes)
    (h5 : (c.maxLocals == mx && c.exceptionTable.isEmpty && decide (c.maxStack ≤ mostOperands) && decide (meth.sig.returnType = rt) && !meth.locks && decide (parseMethodDescriptor y.desc = some meth.sig)) = true) : (Jvm.Cond.code y bytes mx rt).before a s = true := by
  simp only [Bool.and_eq_true, beq_iff_eq, Bool.not_eq_true', decide_eq_true_eq] at h5
  obtain ⟨⟨⟨⟨⟨g1, g2⟩, g3⟩, g4⟩, g5⟩, g6⟩ := h5
  simp [Cond.before, Cond.holds, Cond.value, h1, h2, h3, h4, g1, g2, g3, g4, g5, g6]
def isCode : Jvm.Cond → Bool
  | .code _ _ _ _ => true
  | _ => false
theorem all_split {L : List Jvm.Cond} {P : Jvm.Cond → Bool} (h1 : L.all (fun c => isCode c || P c) = true) (h2 : ∀ c ∈ L.filter isCode, P c = true) : L.all P = true := by
  refine List.all_eq_true.mpr fun c hc => ?_
  have h := List.all_eq_true.mp h1 c hc
  rcases Bool.eq_false_or_eq_true (isCode c) with hi | hi
  · exact h2 c (List.mem_filter.mpr ⟨hc, hi⟩)
  · simpa [hi] using h
set_option maxRecDepth 65536 in
theorem w_c0 : (Jvm.Cond.code x code maxLocals ret).before args0 about1 = true := code_word (m := ⟨1, 3⟩) (meth := k1m3) (c := k1c3) (by decide +kernel) rfl rfl rfl (by decide +kernel)
set_option maxRecDepth 65536 in
theorem w_c1 : (Jvm.Cond.code ({ cls := "com/example/sambre/sambre/engine/RowsZeroAlikePinLaw", name := "d", desc := "(II)D" } : Jvm.MethodName) method_2_code (2 : Nat) (Option.some Jvm.ClassFile.FieldType.double)).before args0 about1 = true := code_word (m := ⟨1, 1⟩) (meth := k1m1) (c := k1c1) (by decide +kernel) rfl rfl rfl (by decide +kernel)
set_option maxRecDepth 65536 in
theorem w_c2 : (Jvm.Cond.code ({ cls := "com/example/sambre/sambre/engine/Rows", name := "<init>", desc := "()V" } : Jvm.MethodName) prog_87_method_1_code (1 : Nat) (Option.none : Option Jvm.ClassFile.FieldType)).before args0 about1 = true := code_word (m := ⟨2, 0⟩) (meth := k2m0) (c := k2c0) (by decide +kernel) rfl rfl rfl (by decide +kernel)
set_option maxRecDepth 65536 in
theorem w_c3 : (Jvm.Cond.code ({ cls := "java/lang/Object", name := "<init>", desc := "()V" } : Jvm.MethodName) object_method_1_code (1 : Nat) (Option.none : Option Jvm.ClassFile.FieldType)).before args0 about1 = true := code_word (m := ⟨0, 0⟩) (meth := k0m0) (c := k0c0) (by decide +kernel) rfl rfl rfl (by decide +kernel)
set_option maxRecDepth 65536 in
theorem w_c4 : (Jvm.Cond.code ({ cls := "com/example/sambre/sambre/engine/Rows$Builder", name := "<init>", desc := "()V" } : Jvm.MethodName) prog_88_method_1_code (1 : Nat) (Option.none : Option Jvm.ClassFile.FieldType)).before args0 about1 = true := code_word (m := ⟨3, 0⟩) (meth := k3m0) (c := k3c0) (by decide +kernel) rfl rfl rfl (by decide +kernel)
set_option maxRecDepth 65536 in
theorem w_c5 : (Jvm.Cond.code ({ cls := "com/example/sambre/sambre/engine/Rows$Builder", name := "start", desc := "([II[DI)V" } : Jvm.MethodName) prog_88_method_2_code (5 : Nat) (Option.none : Option Jvm.ClassFile.FieldType)).before args0 about1 = true := code_word (m := ⟨3, 1⟩) (meth := k3m1) (c := k3c1) (by decide +kernel) rfl rfl rfl (by decide +kernel)
set_option maxRecDepth 65536 in
theorem w_c6 : (Jvm.Cond.code ({ cls := "com/example/sambre/sambre/engine/Rows$Builder", name := "startChoice", desc := "()V" } : Jvm.MethodName) prog_88_method_3_code (1 : Nat) (Option.none : Option Jvm.ClassFile.FieldType)).before args0 about1 = true := code_word (m := ⟨3, 2⟩) (meth := k3m2) (c := k3c2) (by decide +kernel) rfl rfl rfl (by decide +kernel)
set_option maxRecDepth 65536 in
theorem w_c7 : (Jvm.Cond.code ({ cls := "com/example/sambre/sambre/engine/Rows$Builder", name := "addMove", desc := "(ID)I" } : Jvm.MethodName) prog_88_method_6_code (7 : Nat) (Option.some Jvm.ClassFile.FieldType.int)).before args0 about1 = true := code_word (m := ⟨3, 3⟩) (meth := k3m3) (c := k3c3) (by decide +kernel) rfl rfl rfl (by decide +kernel)
set_option maxRecDepth 65536 in
theorem w_c8 : (Jvm.Cond.code ({ cls := "com/example/sambre/sambre/engine/Rows", name := "add", desc := "(Lcom/example/sambre/sambre/engine/Rows$Builder;[II)I" } : Jvm.MethodName) prog_87_method_2_code (15 : Nat) (Option.some Jvm.ClassFile.FieldType.int)).before args0 about1 = true := code_word (m := ⟨2, 1⟩) (meth := k2m1) (c := k2c1) (by decide +kernel) rfl rfl rfl (by decide +kernel)
set_option maxRecDepth 65536 in
theorem w_c9 : (Jvm.Cond.code ({ cls := "com/example/sambre/sambre/engine/Rows", name := "separateRows", desc := "()V" } : Jvm.MethodName) prog_87_method_4_code (3 : Nat) (Option.none : Option Jvm.ClassFile.FieldType)).before args0 about1 = true := code_word (m := ⟨2, 3⟩) (meth := k2m3) (c := k2c3) (by decide +kernel) rfl rfl rfl (by decide +kernel)
set_option maxRecDepth 65536 in
theorem w_c10 : (Jvm.Cond.code ({ cls := "com/example/sambre/sambre/engine/ArrayLengths", name := "atLeast", desc := "(II)I" } : Jvm.MethodName) prog_6_method_3_code (4 : Nat) (Option.some Jvm.ClassFile.FieldType.int)).before args0 about1 = true := code_word (m := ⟨5, 2⟩) (meth := k5m2) (c := k5c2) (by decide +kernel) rfl rfl rfl (by decide +kernel)
set_option maxRecDepth 65536 in
theorem w_c11 : (Jvm.Cond.code ({ cls := "java/lang/Long", name := "highestOneBit", desc := "(J)J" } : Jvm.MethodName) jdk_35_method_46_code (2 : Nat) (Option.some Jvm.ClassFile.FieldType.long)).before args0 about1 = true := code_word (m := ⟨11, 0⟩) (meth := k11m0) (c := k11c0) (by decide +kernel) rfl rfl rfl (by decide +kernel)
set_option maxRecDepth 65536 in
theorem w_c12 : (Jvm.Cond.code ({ cls := "java/lang/Long", name := "numberOfLeadingZeros", desc := "(J)I" } : Jvm.MethodName) jdk_35_method_48_code (3 : Nat) (Option.some Jvm.ClassFile.FieldType.int)).before args0 about1 = true := code_word (m := ⟨11, 1⟩) (meth := k11m1) (c := k11c1) (by decide +kernel) rfl rfl rfl (by decide +kernel)
set_option maxRecDepth 65536 in
theorem w_c13 : (Jvm.Cond.code ({ cls := "java/lang/Integer", name := "numberOfLeadingZeros", desc := "(I)I" } : Jvm.MethodName) jdk_33_method_47_code (2 : Nat) (Option.some Jvm.ClassFile.FieldType.int)).before args0 about1 = true := code_word (m := ⟨12, 0⟩) (meth := k12m0) (c := k12c0) (by decide +kernel) rfl rfl rfl (by decide +kernel)
set_option maxRecDepth 65536 in
theorem w_c14 : (Jvm.Cond.code ({ cls := "com/example/sambre/sambre/engine/ArrayLengths", name := "filling", desc := "(JI)I" } : Jvm.MethodName) prog_6_method_2_code (3 : Nat) (Option.some Jvm.ClassFile.FieldType.int)).before args0 about1 = true := code_word (m := ⟨5, 1⟩) (meth := k5m1) (c := k5c1) (by decide +kernel) rfl rfl rfl (by decide +kernel)
set_option maxRecDepth 65536 in
theorem w_c15 : (Jvm.Cond.code ({ cls := "java/lang/Math", name := "min", desc := "(JJ)J" } : Jvm.MethodName) jdk_29_method_70_code (4 : Nat) (Option.some Jvm.ClassFile.FieldType.long)).before args0 about1 = true := code_word (m := ⟨13, 1⟩) (meth := k13m1) (c := k13c1) (by decide +kernel) rfl rfl rfl (by decide +kernel)
set_option maxRecDepth 65536 in
theorem w_c16 : (Jvm.Cond.code ({ cls := "com/example/sambre/sambre/engine/Rows", name := "room", desc := "([II)[I" } : Jvm.MethodName) prog_87_method_7_code (2 : Nat) (Option.some (Jvm.ClassFile.FieldType.array Jvm.ClassFile.FieldType.int))).before args0 about1 = true := code_word (m := ⟨2, 5⟩) (meth := k2m5) (c := k2c5) (by decide +kernel) rfl rfl rfl (by decide +kernel)
set_option maxRecDepth 65536 in
theorem w_c17 : (Jvm.Cond.code ({ cls := "com/example/sambre/sambre/engine/Rows", name := "place", desc := "(I[DI[D)I" } : Jvm.MethodName) prog_87_method_5_code (10 : Nat) (Option.some Jvm.ClassFile.FieldType.int)).before args0 about1 = true := code_word (m := ⟨2, 4⟩) (meth := k2m4) (c := k2c4) (by decide +kernel) rfl rfl rfl (by decide +kernel)
set_option maxRecDepth 65536 in
theorem w_c18 : (Jvm.Cond.code ({ cls := "com/example/sambre/sambre/engine/RowsZeroAlikePinLaw", name := "same", desc := "(DD)Z" } : Jvm.MethodName) method_3_code (4 : Nat) (Option.some Jvm.ClassFile.FieldType.boolean)).before args0 about1 = true := code_word (m := ⟨1, 2⟩) (meth := k1m2) (c := k1c2) (by decide +kernel) rfl rfl rfl (by decide +kernel)
set_option maxRecDepth 65536 in
theorem w_c19 : (Jvm.Cond.code ({ cls := "com/example/sambre/sambre/engine/Rows", name := "zeroAlike", desc := "(I[D)Z" } : Jvm.MethodName) prog_87_method_20_code (9 : Nat) (Option.some Jvm.ClassFile.FieldType.boolean)).before args0 about1 = true := code_word (m := ⟨2, 6⟩) (meth := k2m6) (c := k2c6) (by decide +kernel) rfl rfl rfl (by decide +kernel)
set_option maxRecDepth 65536 in
theorem w_c20 : (Jvm.Cond.code ({ cls := "com/example/sambre/sambre/engine/Rows", name := "addToShape", desc := "(I[D[DI)I" } : Jvm.MethodName) prog_87_method_3_code (5 : Nat) (Option.some Jvm.ClassFile.FieldType.int)).before args0 about1 = true := code_word (m := ⟨2, 2⟩) (meth := k2m2) (c := k2c2) (by decide +kernel) rfl rfl rfl (by decide +kernel)
def codes1 : List Jvm.Cond := [Jvm.Cond.code x code maxLocals ret, Jvm.Cond.code ({ cls := "com/example/sambre/sambre/engine/RowsZeroAlikePinLaw", name := "d", desc := "(II)D" } : Jvm.MethodName) method_2_code (2 : Nat) (Option.some Jvm.ClassFile.FieldType.double), Jvm.Cond.code ({ cls := "com/example/sambre/sambre/engine/Rows", name := "<init>", desc := "()V" } : Jvm.MethodName) prog_87_method_1_code (1 : Nat) (Option.none : Option Jvm.ClassFile.FieldType), Jvm.Cond.code ({ cls := "java/lang/Object", name := "<init>", desc := "()V" } : Jvm.MethodName) object_method_1_code (1 : Nat) (Option.none : Option Jvm.ClassFile.FieldType), Jvm.Cond.code ({ cls := "com/example/sambre/sambre/engine/Rows$Builder", name := "<init>", desc := "()V" } : Jvm.MethodName) prog_88_method_1_code (1 : Nat) (Option.none : Option Jvm.ClassFile.FieldType), Jvm.Cond.code ({ cls := "com/example/sambre/sambre/engine/Rows$Builder", name := "start", desc := "([II[DI)V" } : Jvm.MethodName) prog_88_method_2_code (5 : Nat) (Option.none : Option Jvm.ClassFile.FieldType), Jvm.Cond.code ({ cls := "com/example/sambre/sambre/engine/Rows$Builder", name := "startChoice", desc := "()V" } : Jvm.MethodName) prog_88_method_3_code (1 : Nat) (Option.none : Option Jvm.ClassFile.FieldType), Jvm.Cond.code ({ cls := "com/example/sambre/sambre/engine/Rows$Builder", name := "addMove", desc := "(ID)I" } : Jvm.MethodName) prog_88_method_6_code (7 : Nat) (Option.some Jvm.ClassFile.FieldType.int), Jvm.Cond.code ({ cls := "com/example/sambre/sambre/engine/Rows", name := "add", desc := "(Lcom/example/sambre/sambre/engine/Rows$Builder;[II)I" } : Jvm.MethodName) prog_87_method_2_code (15 : Nat) (Option.some Jvm.ClassFile.FieldType.int), Jvm.Cond.code ({ cls := "com/example/sambre/sambre/engine/Rows", name := "separateRows", desc := "()V" } : Jvm.MethodName) prog_87_method_4_code (3 : Nat) (Option.none : Option Jvm.ClassFile.FieldType), Jvm.Cond.code ({ cls := "com/example/sambre/sambre/engine/ArrayLengths", name := "atLeast", desc := "(II)I" } : Jvm.MethodName) prog_6_method_3_code (4 : Nat) (Option.some Jvm.ClassFile.FieldType.int), Jvm.Cond.code ({ cls := "java/lang/Long", name := "highestOneBit", desc := "(J)J" } : Jvm.MethodName) jdk_35_method_46_code (2 : Nat) (Option.some Jvm.ClassFile.FieldType.long), Jvm.Cond.code ({ cls := "java/lang/Long", name := "numberOfLeadingZeros", desc := "(J)I" } : Jvm.MethodName) jdk_35_method_48_code (3 : Nat) (Option.some Jvm.ClassFile.FieldType.int), Jvm.Cond.code ({ cls := "java/lang/Integer", name := "numberOfLeadingZeros", desc := "(I)I" } : Jvm.MethodName) jdk_33_method_47_code (2 : Nat) (Option.some Jvm.ClassFile.FieldType.int), Jvm.Cond.code ({ cls := "com/example/sambre/sambre/engine/ArrayLengths", name := "filling", desc := "(JI)I" } : Jvm.MethodName) prog_6_method_2_code (3 : Nat) (Option.some Jvm.ClassFile.FieldType.int), Jvm.Cond.code ({ cls := "java/lang/Math", name := "min", desc := "(JJ)J" } : Jvm.MethodName) jdk_29_method_70_code (4 : Nat) (Option.some Jvm.ClassFile.FieldType.long), Jvm.Cond.code ({ cls := "com/example/sambre/sambre/engine/Rows", name := "room", desc := "([II)[I" } : Jvm.MethodName) prog_87_method_7_code (2 : Nat) (Option.some (Jvm.ClassFile.FieldType.array Jvm.ClassFile.FieldType.int)), Jvm.Cond.code ({ cls := "com/example/sambre/sambre/engine/Rows", name := "place", desc := "(I[DI[D)I" } : Jvm.MethodName) prog_87_method_5_code (10 : Nat) (Option.some Jvm.ClassFile.FieldType.int), Jvm.Cond.code ({ cls := "com/example/sambre/sambre/engine/RowsZeroAlikePinLaw", name := "same", desc := "(DD)Z" } : Jvm.MethodName) method_3_code (4 : Nat) (Option.some Jvm.ClassFile.FieldType.boolean), Jvm.Cond.code ({ cls := "com/example/sambre/sambre/engine/Rows", name := "zeroAlike", desc := "(I[D)Z" } : Jvm.MethodName) prog_87_method_20_code (9 : Nat) (Option.some Jvm.ClassFile.FieldType.boolean), Jvm.Cond.code ({ cls := "com/example/sambre/sambre/engine/Rows", name := "addToShape", desc := "(I[D[DI)I" } : Jvm.MethodName) prog_87_method_3_code (5 : Nat) (Option.some Jvm.ClassFile.FieldType.int)]
set_option maxRecDepth 65536 in
theorem codes_eq : words1.filter isCode = codes1 := rfl
theorem w_codes : ∀ c ∈ words1.filter isCode, c.before args0 about1 = true := by
  rw [codes_eq]
  intro c hc
  simp only [codes1, List.mem_cons, List.not_mem_nil, or_false] at hc
  rcases hc with rfl | rfl | rfl | rfl | rfl | rfl | rfl | rfl | rfl | rfl | rfl | rfl | rfl | rfl | rfl | rfl | rfl | rfl | rfl | rfl | rfl
  · exact w_c0
  · exact w_c1
  · exact w_c2
  · exact w_c3
  · exact w_c4
  · exact w_c5
  · exact w_c6
  · exact w_c7
  · exact w_c8
  · exact w_c9
  · exact w_c10
  · exact w_c11
  · exact w_c12
  · exact w_c13
  · exact w_c14
  · exact w_c15
  · exact w_c16
  · exact w_c17
  · exact w_c18
  · exact w_c19
  · exact w_c20
set_option maxRecDepth 65536 in
theorem w_t1 : (words1.take 24).all (fun c => isCode c || c.before args0 about1) = true := by decide +kernel
set_option maxRecDepth 65536 in
theorem w_t2 : ((words1.drop 24).take 24).all (fun c => isCode c || c.before args0 about1) = true := by decide +kernel
set_option maxRecDepth 65536 in
theorem w_t3 : (((words1.drop 24).drop 24).take 24).all (fun c => isCode c || c.before args0 about1) = true := by decide +kernel
set_option maxRecDepth 65536 in
theorem w_t4 : ((((words1.drop 24).drop 24).drop 24).take 24).all (fun c => isCode c || c.before args0 about1) = true := by decide +kernel
set_option maxRecDepth 65536 in
theorem w_t5 : (((((words1.drop 24).drop 24).drop 24).drop 24).take 24).all (fun c => isCode c || c.before args0 about1) = true := by decide +kernel
set_option maxRecDepth 65536 in
theorem w_t6 : ((((((words1.drop 24).drop 24).drop 24).drop 24).drop 24).take 24).all (fun c => isCode c || c.before args0 about1) = true := by decide +kernel
set_option maxRecDepth 65536 in
theorem w_t7 : (((((((words1.drop 24).drop 24).drop 24).drop 24).drop 24).drop 24).take 24).all (fun c => isCode c || c.before args0 about1) = true := by decide +kernel
set_option maxRecDepth 65536 in
theorem w_t8 : ((((((((words1.drop 24).drop 24).drop 24).drop 24).drop 24).drop 24).drop 24).take 24).all (fun c => isCode c || c.before args0 about1) = true := by decide +kernel
set_option maxRecDepth 65536 in
theorem w_t9 : ((((((((words1.drop 24).drop 24).drop 24).drop 24).drop 24).drop 24).drop 24).drop 24).all (fun c => isCode c || c.before args0 about1) = true := by decide +kernel
theorem w_tables : (allAtoms (Jvm.Cond.code x code maxLocals ret :: tables_1)).before args0 about1 = true := by
  rw [allAtoms_all]
  show words1.all (fun c => c.before args0 about1) = true
  refine all_split ?_ w_codes
  rw [← List.take_append_drop 24 words1, List.all_append, w_t1, ← List.take_append_drop 24 (words1.drop 24), List.all_append, w_t2, ← List.take_append_drop 24 ((words1.drop 24).drop 24), List.all_append, w_t3, ← List.take_append_drop 24 (((words1.drop 24).drop 24).drop 24), List.all_append, w_t4, ← List.take_append_drop 24 ((((words1.drop 24).drop 24).drop 24).drop 24), List.all_append, w_t5, ← List.take_append_drop 24 (((((words1.drop 24).drop 24).drop 24).drop 24).drop 24), List.all_append, w_t6, ← List.take_append_drop 24 ((((((words1.drop 24).drop 24).drop 24).drop 24).drop 24).drop 24), List.all_append, w_t7, ← List.take_append_drop 24 (((((((words1.drop 24).drop 24).drop 24).drop 24).drop 24).drop 24).drop 24), List.all_append, w_t8, w_t9]
  rfl
set_option maxRecDepth 65536 in
theorem w_case : (Jvm.Cond.and given_1 narrow_1).before args0 about1 = true := by decide +kernel
theorem w_applies : (headSpec (Jvm.Cond.code x code maxLocals ret :: tables_1) room_1).applies x e0.platform about1 = true :=
  (Spec.applies_iff w_frames).mpr ⟨w_running, w_runnable, w_alone, w_named, w_hears, w_ripe, w_room, w_tables⟩
theorem atStart : AtStart classFile x code maxLocals ret World_1 tables_1 room_1 Calls_1 rest_1 Pre_1 launch0 p0 e0 about1 theMethod args0 below0 :=
  ⟨lists_1, trivial, launch0.admits_env _ _ _, launch0.least_env, fairChoices_fair.cas, fairChoices_fair.clock, w_frames, w_args, w_heap, w_applies, trivial, trivial, w_case⟩
end start1
theorem witness_1 : WitnessClaimed_1 := ⟨start1.p0, start1.e0, start1.about1, start1.theMethod, start1.args0, start1.below0, start1.atStart⟩
end Jvm.Pilot.@@N@@
