import JvmDerived
import JvmDerived.Pilot.@@N@@Statement
import JvmDerived.Pilot.@@N@@Code
set_option linter.unusedVariables false
set_option linter.unusedSimpArgs false
namespace Jvm.RoadKit
open Sem ClassFile Op Lib Jvm.Stand Jvm.Free Jvm.LawKit
section New
variable {p : Program} {l : Launch} {e : Env} {R : Room} {s : State} {m : MethodId} {args : Array Value} {below : List Frame} {meth : Method} {c : Code} {T : State} {locs : List Loc} {cells slots : Nat}
theorem retI (X : Stand p l e R s m args below meth c T locs cells slots) (hx : p.tables.exec = Jvm.exec) {pc : Nat} {Ls : Array Slot} {z : Int32} {rest : List Value} (hret : meth.sig.returnType = some .int) (hd : decode c.code pc = .ok (.ireturn, 1)) {fs : List Frame}
    (hl : ∀ (f : JFrame) (acts : List Action), f.method = m → f.locked = none → f.entered = [] → (doReturn e (T.setTop f) acts (some (.int z))).1 = T.setFrames fs) : Steps p.tables e below (T.setTop (mkF m pc Ls (.int z :: rest))) (T.setFrames fs) := by
  have hm' : T.vm.method? m = some meth := X.method'
  have hn : narrow .int (.int z) = .int z := rfl
  show Steps p.tables e below (T.setTop { method := m, pc := pc, locals := Ls, stack := _ :: rest, locked := none }) _
  jvm_step X.here [X.here.top, hx, hd, hm', hret, hn]
  first | (intro acts; rw [hl _ acts rfl rfl rfl]) | rw [hl _ _ rfl rfl rfl]
  exact Steps.refl _
end New
end Jvm.RoadKit
namespace Jvm.OwnKit
open Sem ClassFile Op Lib Jvm.Stand Jvm.Free Jvm.LawKit Jvm.RoadKit
section Kit
variable {p : Program} {l : Launch} {e : Env} {R : Room} {s : State} {m : MethodId} {args : Array Value} {below : List Frame} {meth : Method} {c : Code} {T : State} {locs : List Loc} {cells slots : Nat} {Z : State} {a0 : Array Value} {h h' : Heap} {a b : Addr} {n0 : Nat} {E E' : List (Addr × (Cell → Prop))} {P P' : Cell → Prop} {i : Nat} {sl : Nat} {v : Value}
/-- what is known of the heap: entries at different addresses, all made since the law began -/
def Wo (n0 : Nat) (h : Heap) (E : List (Addr × (Cell → Prop))) : Prop := n0 ≤ h.size ∧ (E.map Prod.fst).Nodup ∧ ∀ x ∈ E, n0 ≤ x.1 ∧ ∃ c : Cell, h[x.1]? = some c ∧ x.2 c
theorem Wo.nil (q : n0 ≤ h.size) : Wo n0 h [] := ⟨q, List.nodup_nil, fun _ q => nomatch q⟩
theorem Wo.at (W : Wo n0 h E) (hi : E[i]? = some (a, P)) : n0 ≤ a ∧ ∃ c : Cell, h[a]? = some c ∧ P c := W.2.2 (a, P) (List.mem_of_getElem? hi)
theorem Wo.lt (W : Wo n0 h E) {x : Addr × (Cell → Prop)} (hx : x ∈ E) : x.1 < h.size := by
  obtain ⟨-, c, hc, -⟩ := W.2.2 x hx
  exact (Array.getElem?_eq_some_iff.mp hc).1
theorem Wo.ext (W : Wo n0 h E) (X : Ext h h') : Wo n0 h' E := ⟨Nat.le_trans W.1 X.1, W.2.1, fun x hx => by
  obtain ⟨q, c, hc, hp⟩ := W.2.2 x hx
  exact ⟨q, c, X.2 _ _ hc, hp⟩⟩
theorem Wo.push (W : Wo n0 h E) (X : Ext h h') {c : Cell} (hc : h'[h.size]? = some c) (hp : P c) : Wo n0 h' ((h.size, P) :: E) := by
  have W' := W.ext X
  refine ⟨W'.1, ?_, fun x hx => ?_⟩
  · rw [List.map_cons, List.nodup_cons]
    refine ⟨fun q => ?_, W.2.1⟩
    obtain ⟨y, hy, ey⟩ := List.mem_map.mp q
    have h1 := W.lt hy
    rw [ey] at h1
    exact Nat.lt_irrefl _ h1
  · rcases List.mem_cons.mp hx with rfl | hx
    · exact ⟨W.1, c, hc, hp⟩
    · exact W'.2.2 x hx
theorem perm_front {α : Type} {x : α} : ∀ {L : List α} {i : Nat}, L[i]? = some x → (x :: L.eraseIdx i).Perm L
  | [], _, q => by simp at q
  | y :: L, 0, q => by
    have q' : y = x := by simpa using q
    subst q'
    exact List.Perm.refl _
  | y :: L, i + 1, q => (List.Perm.swap y x _).trans (List.Perm.cons y (perm_front (L := L) (i := i) (by simpa using q)))
theorem perm_set {α : Type} {L : List α} {i : Nat} (hl : i < L.length) (x : α) : (L.set i x).Perm (x :: L.eraseIdx i) := by
  rw [List.set_eq_take_append_cons_drop, if_pos hl, List.eraseIdx_eq_take_drop_succ]
  exact List.perm_middle
theorem Wo.perm (W : Wo n0 h E) (q : E'.Perm E) : Wo n0 h E' := ⟨W.1, (q.map _).nodup_iff.mpr W.2.1, fun x hx => W.2.2 x (q.mem_iff.mp hx)⟩
theorem Wo.front (W : Wo n0 h E) {x : Addr × (Cell → Prop)} (hi : E[i]? = some x) : Wo n0 h (x :: E.eraseIdx i) := by
  exact W.perm (perm_front hi)
theorem take_range {α : Type} : ∀ (n : Nat) (L : List α), (List.range n).filterMap (fun i => L[i]?) = L.take n := by
  intro n
  induction n with
  | zero => intro L; rfl
  | succ n ih =>
    intro L
    rw [List.range_succ, List.filterMap_append, ih, List.take_add_one]
    congr 1
theorem Wo.pick (W : Wo n0 h E) (is : List Nat) (n : Nat) (hp : is.Perm (List.range n)) (hE : is.filterMap (fun i => E[i]?) ++ E.drop n = E') : Wo n0 h E' := by
  subst hE
  refine W.perm ?_
  have q := (hp.filterMap (fun i => E[i]?)).append_right (E.drop n)
  rw [take_range, List.take_append_drop] at q
  exact q
theorem Wo.tail {x : Addr × (Cell → Prop)} (W : Wo n0 h (x :: E)) : Wo n0 h E := by
  have hn := W.2.1
  rw [List.map_cons, List.nodup_cons] at hn
  exact ⟨W.1, hn.2, fun y hy => W.2.2 y (List.mem_cons_of_mem _ hy)⟩
theorem Wo.weak (W : Wo n0 h ((a, P) :: E)) (q : ∀ c, P c → P' c) : Wo n0 h ((a, P') :: E) := by
  refine ⟨W.1, W.2.1, fun x hx => ?_⟩
  rcases List.mem_cons.mp hx with rfl | hx
  · obtain ⟨g, c, hc, hP⟩ := W.2.2 (a, P) List.mem_cons_self
    exact ⟨g, c, hc, q c hP⟩
  · exact W.2.2 x (List.mem_cons_of_mem _ hx)
theorem Wo.wr0 (W : Wo n0 h ((a, P) :: E)) (w : Wr h h' a sl v) (hp : ∀ c, P c → P' (c.setSlot sl v)) : Wo n0 h' ((a, P') :: E) := by
  have hn := W.2.1
  rw [List.map_cons, List.nodup_cons] at hn
  refine ⟨by rw [w.size]; exact W.1, by rw [List.map_cons, List.nodup_cons]; exact hn, fun x hx => ?_⟩
  rcases List.mem_cons.mp hx with rfl | hx
  · obtain ⟨q, c, hc, hP⟩ := W.2.2 (a, P) List.mem_cons_self
    obtain ⟨c', e1, -, -, -, -, -, e7⟩ := wr_at w hc
    exact ⟨q, c', e1, by rw [(e7 rfl).1]; exact hp c hP⟩
  · obtain ⟨q, c, hc, hP⟩ := W.2.2 x (List.mem_cons_of_mem _ hx)
    obtain ⟨c', e1, -, -, -, e5, -⟩ := wr_at w hc
    have ne : x.1 ≠ a := fun z => hn.1 (by have q := List.mem_map_of_mem (f := Prod.fst) hx; rw [z] at q; exact q)
    exact ⟨q, c', e1, by rw [e5 ne]; exact hP⟩
theorem Wo.wr (W : Wo n0 h E) (hi : E[i]? = some (a, P)) (w : Wr h h' a sl v) (hp : ∀ c, P c → P' (c.setSlot sl v)) : Wo n0 h' (E.set i (a, P')) := by
  have W1 := (W.front hi).wr0 w hp
  obtain ⟨hl, -⟩ := List.getElem?_eq_some_iff.mp hi
  exact W1.perm (perm_set hl _)
theorem Wo.kp (W : Wo n0 h E) (hi : E[i]? = some (a, P)) (K : Keep h h' [a]) {c : Cell} (hc : h'[a]? = some c) (hp : P' c) : Wo n0 h' (E.set i (a, P')) := by
  have W0 := W.front hi
  have hn := W0.2.1
  rw [List.map_cons, List.nodup_cons] at hn
  have W1 : Wo n0 h' ((a, P') :: E.eraseIdx i) := by
    refine ⟨Nat.le_trans W.1 K.1, by rw [List.map_cons, List.nodup_cons]; exact hn, fun x hx => ?_⟩
    rcases List.mem_cons.mp hx with rfl | hx
    · exact ⟨(W.at hi).1, c, hc, hp⟩
    · obtain ⟨q, c1, hc1, hP⟩ := W0.2.2 x (List.mem_cons_of_mem _ hx)
      have ne : x.1 ∉ [a] := fun z => hn.1 (by have q := List.mem_map_of_mem (f := Prod.fst) hx; rw [List.mem_singleton.mp z] at q; exact q)
      exact ⟨q, c1, K.2.1 _ _ hc1 ne, hP⟩
  obtain ⟨hl, -⟩ := List.getElem?_eq_some_iff.mp hi
  exact W1.perm (perm_set hl _)
/-- an object: her class, and what her fields hold -/
def Ob (Z : State) (C : String) (NS : List (String × String)) (vs : List Value) (c : Cell) : Prop :=
  (∃ k : Class, Z.vm.findClass C = some c.cls ∧ Z.vm.classes[c.cls]? = some k ∧ c.vm.isStatics = false ∧ (k.kind = .ordinary → c.slots.size = k.instanceTypes.size)) ∧
  ∀ (i : Nat) (x : String × String) (v : Value), NS[i]? = some x → vs[i]? = some v → ∃ (cf : ClassId) (k : Class) (j : Nat) (f : Field), Z.fieldFound? C x.1 x.2 = some (cf, k, j, f) ∧ f.isStatic = false ∧ c.vm ≠ .unknown ∧ c.vm.isStatics = false ∧ Z.vm.assignable c.cls cf = true ∧ c.slots[f.slot]? = some v
variable {C : String} {NS : List (String × String)} {vs : List Value}
theorem Wo.exa (W : Wo n0 h E) (hi : E[i]? = some (a, Ob Z C NS vs)) : Exa Z h a C := by
  obtain ⟨-, c, hc, ⟨k, h1, h2, h3, h4⟩, -⟩ := W.at hi
  exact ⟨c, k, hc, h1, h2, h3, h4⟩
theorem Wo.fld (W : Wo n0 h E) (hi : E[i]? = some (a, Ob Z C NS vs)) {j : Nat} {n d : String} (hn : NS[j]? = some (n, d)) (hv : vs[j]? = some v) : Fld Z h a C n d v := by
  obtain ⟨-, c, hc, -, hf⟩ := W.at hi
  obtain ⟨cf, k, q, f, r⟩ := hf j (n, d) v hn hv
  exact ⟨c, cf, k, q, f, hc, r⟩
def Dist (Z : State) (C : String) (NS : List (String × String)) : Prop := ∀ (i j : Nat) (x y : String × String), i ≠ j → NS[i]? = some x → NS[j]? = some y → Jvm.RoadKit.slotOf Z C x.1 x.2 ≠ Jvm.RoadKit.slotOf Z C y.1 y.2
theorem Dist.of (HL : ∀ x ∈ NS, Laid Z a0 C C x.1 x.2) (hn : (NS.map Prod.fst).Nodup) (ht : ∀ x ∈ NS, (parseFieldDescriptor x.2).isSome = true) : Dist Z C NS := by
  intro i j x y ne hx hy
  obtain ⟨t, et⟩ := Option.isSome_iff_exists.mp (ht x (List.mem_of_getElem? hx))
  obtain ⟨t', et'⟩ := Option.isSome_iff_exists.mp (ht y (List.mem_of_getElem? hy))
  refine slot_ne (HL x (List.mem_of_getElem? hx)) (HL y (List.mem_of_getElem? hy)) (fun q => ne ?_) et et'
  have h1 : (NS.map Prod.fst)[i]? = some x.1 := by rw [List.getElem?_map, hx]; rfl
  have h2 : (NS.map Prod.fst)[j]? = some y.1 := by rw [List.getElem?_map, hy]; rfl
  exact (List.getElem?_inj (List.getElem?_eq_some_iff.mp h1).1 hn).mp (h1.trans (q ▸ h2.symm))
theorem Ob.put {c : Cell} (D : Dist Z C NS) (O : Ob Z C NS vs c) {j : Nat} {n d : String} (hn : NS[j]? = some (n, d)) (v : Value) {old : Value} (hv : vs[j]? = some old) : Ob Z C NS (vs.set j v) (c.setSlot (Jvm.RoadKit.slotOf Z C n d) v) := by
  obtain ⟨⟨k, h1, h2, h3, h4⟩, hf⟩ := O
  refine ⟨⟨k, h1, h2, h3, fun q => by rw [sz_set]; exact h4 q⟩, fun i x w hx hw => ?_⟩
  by_cases ij : i = j
  · subst ij
    obtain rfl : x = (n, d) := Option.some.inj (hx.symm.trans hn)
    obtain ⟨cf, kk, q, f, r1, r2, r3, r4, r5, r6⟩ := hf i (n, d) old hx hv
    have hl := (List.getElem?_eq_some_iff.mp hv).1
    have hw' : w = v := by rw [List.getElem?_set_self hl] at hw; exact (Option.some.inj hw).symm
    have es : Jvm.RoadKit.slotOf Z C n d = f.slot := by simp [Jvm.RoadKit.slotOf, r1]
    refine ⟨cf, kk, q, f, r1, r2, r3, r4, r5, ?_⟩
    rw [es, hw']
    show (c.slots.setIfInBounds f.slot v)[f.slot]? = some v
    rw [Array.getElem?_setIfInBounds_self_of_lt (Array.getElem?_eq_some_iff.mp r6).1]
  · rw [List.getElem?_set_ne (Ne.symm ij)] at hw
    obtain ⟨cf, kk, q, f, r1, r2, r3, r4, r5, r6⟩ := hf i x w hx hw
    have es : Jvm.RoadKit.slotOf Z C x.1 x.2 = f.slot := by simp [Jvm.RoadKit.slotOf, r1]
    have hD := D i j x (n, d) ij hx hn
    rw [es] at hD
    refine ⟨cf, kk, q, f, r1, r2, r3, r4, r5, ?_⟩
    show (c.slots.setIfInBounds (Jvm.RoadKit.slotOf Z C n d) v)[f.slot]? = some w
    rw [Array.getElem?_setIfInBounds_ne (Ne.symm hD)]
    exact r6
theorem putW (X : Stand p l e R s m args below meth c T locs cells slots) (hx : p.tables.exec = Jvm.exec) (hZ : Z.Warmed39 s.vm) {own n d host : String} {index kk : Nat} {ty : FieldType} (hown : s.vm.findClass own = some m.cls) (w : (Cond.fieldLink own index C n d).before a0 Z = true ∨ (Cond.fieldLinkNest own index C n d host).before a0 Z = true)
    (eT : T.heap = h) (W : Wo n0 h E) (N : Fr n0 locs) (D : Dist Z C NS) (L : (Cond.lays C C n d).before a0 Z = true ∨ ((Cond.laysFinal C C n d).before a0 Z = true ∧ own = C ∧ meth.name = "<init>")) (wi : (Cond.instantiable C kk).before a0 Z = true) (hty : parseFieldDescriptor d = some ty)
    (hi : E[i]? = some (a, Ob Z C NS vs)) {j : Nat} (hn : NS[j]? = some (n, d)) {old : Value} (hv : vs[j]? = some old) (hnar : narrow ty v = v) (hfit : fits ty v = true) {g : JFrame} (hg : g.method = m) {rest : List Value} (hs : g.stack = v :: .ref a :: rest) (hd : decode c.code g.pc = .ok (.putfield index, 3)) :
    ∃ T' h' L', Stand p l e R s m args below meth c T' L' cells slots ∧ T'.heap = h' ∧ Fr n0 L' ∧ Wo n0 h' (E.set i (a, Ob Z C NS (vs.set j v))) ∧ ∀ target, Steps p.tables e below (T'.setTop { g with pc := g.pc + 3, stack := rest }) target → Steps p.tables e below (T.setTop g) target := by
  obtain ⟨T', h', X', e', w', st⟩ := putF X hx hZ hown (host := host) w Via.refl eT (W.fld hi hn hv) (W.exa hi) L wi hty hnar hfit hg hs hd
  exact ⟨T', h', _, X', e', Fr.snoc X' N (W.at hi).1, W.wr hi w' (fun c q => q.put D hn v hv), st⟩
theorem getR (X : Stand p l e R s m args below meth c T locs cells slots) (hx : p.tables.exec = Jvm.exec) (hZ : Z.Warmed39 s.vm) {own O n d : String} {index : Nat} (hown : s.vm.findClass own = some m.cls) (w : (Cond.fieldRef own index O n d).before a0 Z = true)
    (eT : T.heap = h) (F : Fld Z h a O n d v) {g : JFrame} (hg : g.method = m) {rest : List Value} (hs : g.stack = .ref a :: rest) (hd : decode c.code g.pc = .ok (.getfield index, 3)) : ∃ T', Stand p l e R s m args below meth c T' locs cells slots ∧ T'.heap = h ∧ ∀ target, Steps p.tables e below (T'.setTop { g with pc := g.pc + 3, stack := v :: rest }) target → Steps p.tables e below (T.setTop g) target := by
  obtain ⟨cell, cf, k, i, f, h1, h2, h3, h4, -, -, h7⟩ := F
  have hU : Z.Warmed39 T.vm := wtrans hZ X.warmed
  have w' := Cond.fieldRef_warmed39 hU w
  have hcur : (Z.setVm T.vm).vm.findClass own = some m.cls := by
    show T.vm.findClass own = _
    rw [X.warmed.alike.findClass]; exact hown
  obtain ⟨c', k', i', f', g1, g2⟩ := Cond.fieldRef_spec hcur w'
  obtain ⟨k2, q1, -⟩ := State.fieldFound?_setVm (s := Z) hU.alike h2
  cases g1.symm.trans q1
  refine ⟨T, X, eT, fun target hr => ?_⟩
  subst hg
  have hc : T.heap[a]? = some cell := by rw [eT]; exact h1
  jvm_step X.here [hx, hd, getfield.wp_ready (e := e) (s := T) (index := index) (c := cf) (a := a) (field := f) (rest := rest) (cell := cell) (v := v) (f := g) X.here.top g2 h3 hs hc h4 h7]
  exact hr
theorem newWO (X : Stand p l e R s m args below meth c T locs cells slots) (hx : p.tables.exec = Jvm.exec) (hZ : Z.Warmed39 s.vm) {own : String} {index n : Nat} (hown : s.vm.findClass own = some m.cls) (w : (Cond.classLink own index C).before a0 Z = true) (wi : (Cond.instantiable C n).before a0 Z = true) (wz : (Cond.initialized C).before a0 Z = true) (eT : T.heap = h) (W : Wo n0 h E)
    (HL : ∀ x ∈ NS, Laid Z a0 C C x.1 x.2) (hvs : NS.map (fun x => (parseFieldDescriptor x.2).map defaultValue) = vs.map some) {g : JFrame} (hg : g.method = m) (hd : decode c.code g.pc = .ok (.new index, 3)) (hc : cells + 1 ≤ R.cells) (hl : slots + n ≤ R.slots) :
    ∃ T' h' b, Stand p l e R s m args below meth c T' locs (cells + 1) (slots + n) ∧ T'.heap = h' ∧ Wo n0 h' ((b, Ob Z C NS vs) :: E) ∧ ∀ target, Steps p.tables e below (T'.setTop { g with pc := g.pc + 3, stack := .ref b :: g.stack }) target → Steps p.tables e below (T.setTop g) target := by
  obtain ⟨T', h', X', e', E', A, D, -, st⟩ := newO X hx hZ hown w wi wz eT hg hd hc hl
  obtain ⟨cell, k, h1, h2, h3, h4, h5⟩ := A
  refine ⟨T', h', h.size, X', e', W.push E' h1 ⟨⟨k, h2, h3, h4, h5⟩, fun i x v hx hv => ?_⟩, st⟩
  have q : (NS.map (fun x => (parseFieldDescriptor x.2).map defaultValue))[i]? = (vs.map some)[i]? := by rw [hvs]
  rw [List.getElem?_map, List.getElem?_map, hx, hv] at q
  have q' := Option.some.inj q
  obtain ⟨ty, t1, t2⟩ := Option.map_eq_some_iff.mp q'
  subst t2
  obtain ⟨c2, cf, kk, j, f, r1, r⟩ := D (HL x (List.mem_of_getElem? hx)) t1
  cases h1.symm.trans r1
  exact ⟨cf, kk, j, f, r⟩
/-- an array of n components: component k holds f k -/
def Ar (Z : State) (ty : FieldType) (n : Nat) (f : Nat → Value) (c : Cell) : Prop := Z.isArrayOf c ty ∧ c.vm ≠ .unknown ∧ c.slots.size = n ∧ n < 2 ^ 31 ∧ Z.vm.findClass ("[" ++ ty.toString) = some c.cls ∧ ∀ k, k < n → c.slots[k]? = some (f k) ∧ fits ty (f k) = true
def upd (f : Nat → Value) (j : Nat) (v : Value) : Nat → Value := fun k => if k = j then v else f k
theorem upd_same (f : Nat → Value) (j : Nat) (v : Value) : upd f j v j = v := if_pos rfl
theorem upd_other (f : Nat → Value) {j k : Nat} (v : Value) (q : k ≠ j) : upd f j v k = f k := if_neg q
variable {ty : FieldType} {n n' : Nat} {f f' : Nat → Value}
theorem Ar.set {c : Cell} (A : Ar Z ty n f c) (hv : fits ty v = true) (j : Nat) : Ar Z ty n (upd f j v) (c.setSlot j v) := by
  obtain ⟨h1, h2, h3, h4, h6, h5⟩ := A
  refine ⟨h1, h2, by rw [sz_set]; exact h3, h4, h6, fun k hk => ?_⟩
  by_cases q : k = j
  · subst q
    rw [upd_same]
    refine ⟨?_, hv⟩
    show (c.slots.setIfInBounds k v)[k]? = some v
    rw [Array.getElem?_setIfInBounds_self_of_lt (by rw [h3]; exact hk)]
  · rw [upd_other f v q]
    refine ⟨?_, (h5 k hk).2⟩
    show (c.slots.setIfInBounds j v)[k]? = some (f k)
    rw [Array.getElem?_setIfInBounds_ne (Ne.symm q)]
    exact (h5 k hk).1
theorem Ar.same {c : Cell} (A : Ar Z ty n f c) (q : ∀ k, k < n → f k = f' k) : Ar Z ty n f' c := by
  obtain ⟨h1, h2, h3, h4, h6, h5⟩ := A
  exact ⟨h1, h2, h3, h4, h6, fun k hk => by rw [← q k hk]; exact h5 k hk⟩
theorem Ar.new {k : ClassId} {z : Int32} (A : Arr Z h a (newA k ty z) ty) (hz : ¬ z < 0) (hn : z.toNatClampNeg = n) (hC : Exa Z h a ("[" ++ ty.toString)) : Ar Z ty n (fun _ => defaultValue ty) (newA k ty z) := by
  subst hn
  obtain ⟨c1, k1, q1, q2, -⟩ := hC
  cases A.1.symm.trans q1
  exact ⟨A.2.1, A.2.2, sz_new _ _ _, (back32 hz).2, q2, fun i hi => ⟨by simp [newA, hi], by cases ty <;> rfl⟩⟩
theorem out_of {c : Cell} {j : Int32} {k : Nat} (A3 : c.slots.size = n) (hj : ¬ j < 0) (hk : j.toNatClampNeg = k) (hl : k < n) : ¬ (j < 0 ∨ c.slots.size ≤ j.toNatClampNeg) := by
  rw [A3, hk]
  exact fun q => q.elim hj (fun q => absurd hl (Nat.not_lt.mpr q))
theorem ialW (X : Stand p l e R s m args below meth c T locs cells slots) (hx : p.tables.exec = Jvm.exec) (hZ : Z.Warmed39 s.vm) (eT : T.heap = h) (W : Wo n0 h E) (hi : E[i]? = some (a, Ar Z .int n f)) {j : Int32} {k : Nat} (hj : ¬ j < 0) (hk : j.toNatClampNeg = k) (hl : k < n) (hv : f k = v)
    {g : JFrame} (hg : g.method = m) {rest : List Value} (hs : g.stack = .int j :: .ref a :: rest) (hd : decode c.code g.pc = .ok (.iaload, 1)) (target : State)
    (hr : Steps p.tables e below (T.setTop { g with pc := g.pc + 1, stack := v :: rest }) target) : Steps p.tables e below (T.setTop g) target := by
  obtain ⟨-, c', hc, A1, A2, A3, A4, A6, A5⟩ := W.at hi
  exact X.iaload hx (by rw [eT]; exact hc) (State.isArrayOf_alike hZ.alike A1) A2 (out_of A3 hj hk hl) (by rw [hk, (A5 k hl).1, hv]) hg hs hd target hr
theorem dalW (X : Stand p l e R s m args below meth c T locs cells slots) (hx : p.tables.exec = Jvm.exec) (hZ : Z.Warmed39 s.vm) (eT : T.heap = h) (W : Wo n0 h E) (hi : E[i]? = some (a, Ar Z .double n f)) {j : Int32} {k : Nat} (hj : ¬ j < 0) (hk : j.toNatClampNeg = k) (hl : k < n) (hv : f k = v)
    {g : JFrame} (hg : g.method = m) {rest : List Value} (hs : g.stack = .int j :: .ref a :: rest) (hd : decode c.code g.pc = .ok (.daload, 1)) (target : State)
    (hr : Steps p.tables e below (T.setTop { g with pc := g.pc + 1, stack := v :: rest }) target) : Steps p.tables e below (T.setTop g) target := by
  obtain ⟨-, c', hc, A1, A2, A3, A4, A6, A5⟩ := W.at hi
  exact X.daload hx (by rw [eT]; exact hc) (State.isArrayOf_alike hZ.alike A1) A2 (out_of A3 hj hk hl) (by rw [hk, (A5 k hl).1, hv]) hg hs hd target hr
theorem balW (X : Stand p l e R s m args below meth c T locs cells slots) (hx : p.tables.exec = Jvm.exec) (hZ : Z.Warmed39 s.vm) (eT : T.heap = h) (W : Wo n0 h E) (hi : E[i]? = some (a, Ar Z .byte n f)) {j : Int32} {k : Nat} (hj : ¬ j < 0) (hk : j.toNatClampNeg = k) (hl : k < n) (hv : f k = v)
    {g : JFrame} (hg : g.method = m) {rest : List Value} (hs : g.stack = .int j :: .ref a :: rest) (hd : decode c.code g.pc = .ok (.baload, 1)) (target : State)
    (hr : Steps p.tables e below (T.setTop { g with pc := g.pc + 1, stack := v :: rest }) target) : Steps p.tables e below (T.setTop g) target := by
  obtain ⟨-, c', hc, A1, A2, A3, A4, A6, A5⟩ := W.at hi
  exact X.baloadBytes hx (by rw [eT]; exact hc) (State.isArrayOf_alike hZ.alike A1) A2 (out_of A3 hj hk hl) (by rw [hk, (A5 k hl).1, hv]) hg hs hd target hr
theorem aalW (X : Stand p l e R s m args below meth c T locs cells slots) (hx : p.tables.exec = Jvm.exec) (hZ : Z.Warmed39 s.vm) (eT : T.heap = h) (W : Wo n0 h E) (hi : E[i]? = some (a, P)) (hP : ∀ c, P c → Ar Z ty n f c) (hty : ty.isReference = true) {j : Int32} {k : Nat} (hj : ¬ j < 0) (hk : j.toNatClampNeg = k) (hl : k < n) (hv : f k = v)
    {g : JFrame} (hg : g.method = m) {rest : List Value} (hs : g.stack = .int j :: .ref a :: rest) (hd : decode c.code g.pc = .ok (.aaload, 1)) (target : State)
    (hr : Steps p.tables e below (T.setTop { g with pc := g.pc + 1, stack := v :: rest }) target) : Steps p.tables e below (T.setTop g) target := by
  obtain ⟨-, c', hc, hp⟩ := W.at hi
  obtain ⟨A1, A2, A3, A4, A6, A5⟩ := hP c' hp
  exact X.aaload hx (by rw [eT]; exact hc) (State.isArrayOf_alike hZ.alike A1) hty A2 (out_of A3 hj hk hl) (by rw [hk, (A5 k hl).1, hv]) hg hs hd target hr
theorem lenW (X : Stand p l e R s m args below meth c T locs cells slots) (hx : p.tables.exec = Jvm.exec) (hZ : Z.Warmed39 s.vm) (eT : T.heap = h) (W : Wo n0 h E) (hi : E[i]? = some (a, P)) (hP : ∀ c, P c → Ar Z ty n f c) {z : Int32} (hz : n.toInt32 = z)
    {g : JFrame} (hg : g.method = m) {rest : List Value} (hs : g.stack = .ref a :: rest) (hd : decode c.code g.pc = .ok (.arraylength, 1)) (target : State)
    (hr : Steps p.tables e below (T.setTop { g with pc := g.pc + 1, stack := .int z :: rest }) target) : Steps p.tables e below (T.setTop g) target := by
  obtain ⟨-, c', hc, hp⟩ := W.at hi
  obtain ⟨A1, A2, A3, A4, A6, A5⟩ := hP c' hp
  exact X.arraylength hx (cell := c') (by rw [eT]; exact hc) (State.isArrayOf_alike hZ.alike A1) hg hs hd target (by rw [A3, hz]; exact hr)
theorem iasW (X : Stand p l e R s m args below meth c T locs cells slots) (hx : p.tables.exec = Jvm.exec) (hZ : Z.Warmed39 s.vm) (eT : T.heap = h) (W : Wo n0 h E) (N : Fr n0 locs) (hi : E[i]? = some (a, Ar Z .int n f)) {j x : Int32} {k : Nat} (hj : ¬ j < 0) (hk : j.toNatClampNeg = k) (hl : k < n)
    {g : JFrame} (hg : g.method = m) {rest : List Value} (hs : g.stack = .int x :: .int j :: .ref a :: rest) (hd : decode c.code g.pc = .ok (.iastore, 1)) :
    ∃ T' h' L', Stand p l e R s m args below meth c T' L' cells slots ∧ T'.heap = h' ∧ Fr n0 L' ∧ Wo n0 h' (E.set i (a, Ar Z .int n (upd f k (.int x)))) ∧ ∀ target, Steps p.tables e below (T'.setTop { g with pc := g.pc + 1, stack := rest }) target → Steps p.tables e below (T.setTop g) target := by
  obtain ⟨hge, c', hc, A⟩ := W.at hi
  obtain ⟨T', h', X', e', w', st⟩ := stI X hx hZ eT (a := a) (cl := c') ⟨hc, A.1, A.2.1⟩ (out_of A.2.2.1 hj hk hl) hg hs hd
  rw [hk] at w'
  exact ⟨T', h', _, X', e', Fr.snoc X' N hge, W.wr hi w' (fun c q => q.set rfl k), st⟩
theorem dasW (X : Stand p l e R s m args below meth c T locs cells slots) (hx : p.tables.exec = Jvm.exec) (hZ : Z.Warmed39 s.vm) (eT : T.heap = h) (W : Wo n0 h E) (N : Fr n0 locs) (hi : E[i]? = some (a, Ar Z .double n f)) {j : Int32} {x : UInt64} {k : Nat} (hj : ¬ j < 0) (hk : j.toNatClampNeg = k) (hl : k < n)
    {g : JFrame} (hg : g.method = m) {rest : List Value} (hs : g.stack = .double x :: .int j :: .ref a :: rest) (hd : decode c.code g.pc = .ok (.dastore, 1)) :
    ∃ T' h' L', Stand p l e R s m args below meth c T' L' cells slots ∧ T'.heap = h' ∧ Fr n0 L' ∧ Wo n0 h' (E.set i (a, Ar Z .double n (upd f k (.double x)))) ∧ ∀ target, Steps p.tables e below (T'.setTop { g with pc := g.pc + 1, stack := rest }) target → Steps p.tables e below (T.setTop g) target := by
  obtain ⟨hge, c', hc, A⟩ := W.at hi
  obtain ⟨T', h', X', e', w', st⟩ := stD X hx hZ eT (a := a) (cl := c') ⟨hc, A.1, A.2.1⟩ (out_of A.2.2.1 hj hk hl) hg hs hd
  rw [hk] at w'
  exact ⟨T', h', _, X', e', Fr.snoc X' N hge, W.wr hi w' (fun c q => q.set rfl k), st⟩
theorem basW (X : Stand p l e R s m args below meth c T locs cells slots) (hx : p.tables.exec = Jvm.exec) (hZ : Z.Warmed39 s.vm) (eT : T.heap = h) (W : Wo n0 h E) (N : Fr n0 locs) (hi : E[i]? = some (a, Ar Z .byte n f)) {j x : Int32} {k : Nat} (hj : ¬ j < 0) (hk : j.toNatClampNeg = k) (hl : k < n)
    {g : JFrame} (hg : g.method = m) {rest : List Value} (hs : g.stack = .int x :: .int j :: .ref a :: rest) (hd : decode c.code g.pc = .ok (.bastore, 1)) :
    ∃ T' h' L', Stand p l e R s m args below meth c T' L' cells slots ∧ T'.heap = h' ∧ Fr n0 L' ∧ Wo n0 h' (E.set i (a, Ar Z .byte n (upd f k (.int x.toInt8.toInt32)))) ∧ ∀ target, Steps p.tables e below (T'.setTop { g with pc := g.pc + 1, stack := rest }) target → Steps p.tables e below (T.setTop g) target := by
  obtain ⟨hge, c', hc, A⟩ := W.at hi
  obtain ⟨T', h', X', e', w', st⟩ := stB X hx hZ eT (a := a) (cl := c') ⟨hc, A.1, A.2.1⟩ (out_of A.2.2.1 hj hk hl) hg hs hd
  rw [hk] at w'
  exact ⟨T', h', _, X', e', Fr.snoc X' N hge, W.wr hi w' (fun c q => q.set (fits_nar_byte x) k), st⟩
theorem newWA (X : Stand p l e R s m args below meth c T locs cells slots) (hx : p.tables.exec = Jvm.exec) (hZ : Z.Warmed39 s.vm) {aty : ArrayType} (hty : newarray.typeOf aty = ty) (w : (Cond.arrayClass ty).before a0 Z = true) (eT : T.heap = h) (W : Wo n0 h E) {g : JFrame} (hg : g.method = m) (hd : decode c.code g.pc = .ok (.newarray aty, 2)) {z : Int32} {rest : List Value} (hs : g.stack = .int z :: rest)
    (hz : ¬ z < 0) (hn : z.toNatClampNeg = n) {cap : Nat} (hcap : n ≤ cap) (hb : cap * 8 ≤ 536870912) (hc : cells + 1 ≤ R.cells) (hl : slots + cap ≤ R.slots) :
    ∃ T' h' b, Stand p l e R s m args below meth c T' locs (cells + 1) (slots + cap) ∧ T'.heap = h' ∧ Wo n0 h' ((b, Ar Z ty n (fun _ => defaultValue ty)) :: E) ∧ ∀ target, Steps p.tables e below (T'.setTop { g with pc := g.pc + 2, stack := .ref b :: rest }) target → Steps p.tables e below (T.setTop g) target := by
  subst hty
  obtain ⟨T', h', cA, X', e', E', A, B, st⟩ := newPE X hx hZ w eT hg hd hs hz (by rw [hn]; exact hcap) hb hc hl rfl
  exact ⟨T', h', h.size, X', e', W.push E' A.1 (Ar.new A hz hn B), st⟩
/-- what an array's copy leaves -/
def cpy (f g : Nat → Value) (sp dp nn : Nat) : Nat → Value := fun k => if dp ≤ k ∧ k < dp + nn then f (sp + (k - dp)) else g k
theorem toNat_of (hn : n < 2 ^ 31) : n.toInt32.toNatClampNeg = n ∧ ¬ n.toInt32 < 0 := by
  have q : n.toInt32.toInt = n := len_toInt hn
  refine ⟨by simp only [Int32.toNatClampNeg, q]; rfl, ?_⟩
  rw [Int32.lt_iff_toInt_lt, q]
  show ¬ (n : Int) < 0
  omega
theorem getD_range (f : Nat → Value) (n k : Nat) (d : Value) (hk : k < n) : ((List.range n).map f).getD k d = f k := by
  rw [List.getD_eq_getElem?_getD, List.getElem?_map, List.getElem?_range hk]; rfl
theorem Ar.arv {c : Cell} (A : Ar Z ty n f c) (hc : h[a]? = some c) (d : Value) : Arv Z h a c.cls ty n.toInt32 ((List.range n).map f) d := by
  obtain ⟨A1, A2, A3, A4, A6, A5⟩ := A
  obtain ⟨q1, q2⟩ := toNat_of A4
  exact ⟨c, ⟨hc, A1, A2⟩, rfl, by rw [q1]; exact A3, q2, fun k hk => by rw [A3] at hk; rw [getD_range f n k d hk]; exact (A5 k hk).1, fun k hk => by rw [A3] at hk; rw [getD_range f n k d hk]; exact (A5 k hk).2⟩
theorem Ar.of_arv {k : ClassId} {d : Value} {vs : List Value} (B : Arv Z h a k ty n.toInt32 vs d) (hn : n < 2 ^ 31) (hk : Z.vm.findClass ("[" ++ ty.toString) = some k) (hf : ∀ k, k < n → vs.getD k d = f k) : ∃ c : Cell, h[a]? = some c ∧ Ar Z ty n f c := by
  obtain ⟨c, A, rfl, S, -, H, G⟩ := B
  rw [(toNat_of hn).1] at S
  exact ⟨c, A.1, A.2.1, A.2.2, S, hn, hk, fun k hk => by rw [← hf k hk]; exact ⟨H k (by rw [S]; exact hk), G k (by rw [S]; exact hk)⟩⟩
theorem cpW (X : Stand p l e R s m args below meth c T locs cells slots) (hx : p.tables.exec = Jvm.exec) (hZ : Z.Warmed39 s.vm) {own : String} {index : Nat} (hown : s.vm.findClass own = some m.cls)
    (w1 : (Cond.methodLink own index Jvm.Stand.acN).before a0 Z = true) (w2 : (Cond.native Jvm.Stand.acN).before a0 Z = true) (w3 : (Cond.static Jvm.Stand.acN).before a0 Z = true) (w4 : (Cond.initialized "java/lang/System").before a0 Z = true) (eT : T.heap = h) (W : Wo n0 h E) (N : Fr n0 locs)
    {j : Nat} (hi : E[i]? = some (a, Ar Z ty n f)) (hj : E[j]? = some (b, Ar Z ty n' f')) (hty : refKind ty = false) {sp dp nn : Int32} {s' d' k' : Nat} (h1 : ¬ sp < 0) (h2 : ¬ dp < 0) (h3 : ¬ nn < 0) (es : sp.toNatClampNeg = s') (ed : dp.toNatClampNeg = d') (ek : nn.toNatClampNeg = k') (h4 : s' + k' ≤ n) (h5 : d' + k' ≤ n')
    {g : JFrame} (hg : g.method = m) (hsize : g.locals.size = c.maxLocals) {rest : List Value} (hs : g.stack = .int nn :: .int dp :: .ref b :: .int sp :: .ref a :: rest) (hd : decode c.code g.pc = .ok (.invokestatic index, 3))
    (hf : 1 ≤ R.frames) {W0 : Nat} (hW : 2 * g.monitorRoom + (rest.map fun v => v.category).sum ≤ W0) (hlo : W0 + (nativeFrameWords "java/lang/System" "arraycopy" 5 + 11) ≤ R.locals) :
    ∃ T' h' L', Stand p l e R s m args below meth c T' L' cells slots ∧ T'.heap = h' ∧ Fr n0 L' ∧ Wo n0 h' (E.set j (b, Ar Z ty n' (cpy f f' s' d' k'))) ∧ ∀ target, Steps p.tables e below (T'.setTop { g with pc := g.pc + 3, stack := rest }) target → Steps p.tables e below (T.setTop g) target := by
  obtain ⟨-, c1, hc1, A⟩ := W.at hi
  obtain ⟨ge, c2, hc2, B⟩ := W.at hj
  have nA := A.2.2.2.1
  have nB := B.2.2.2.1
  obtain ⟨T', h', L, X', e', N', K, V, st⟩ := cpA X hx hZ hown w1 w2 w3 w4 eT (A.arv hc1 .null) (B.arv hc2 .null) (us := (List.range nn.toNatClampNeg).map fun i => ((List.range n).map f).getD (sp.toNatClampNeg + i) .null) (Or.inl ⟨rfl, hty⟩) h1 h2 h3
    (by rw [(toNat_of nA).1, es, ek]; exact h4) (by rw [(toNat_of nB).1, ed, ek]; exact h5) rfl (by rw [List.length_map, List.length_range, ed, ek]; exact h5) N ge hg hsize hs hd hf hW hlo
  subst es ed ek
  obtain ⟨c', hc', A'⟩ := Ar.of_arv (f := cpy f f' sp.toNatClampNeg dp.toNatClampNeg nn.toNatClampNeg) V nB B.2.2.2.2.1 (fun k hk => by
    simp only [List.getD_eq_getElem?_getD, cpy]
    by_cases q1 : k < dp.toNatClampNeg
    · rw [if_neg (fun z => absurd z.1 (Nat.not_le.mpr q1))]
      rw [List.append_assoc, List.getElem?_append_left (by rw [List.length_take, List.length_map, List.length_range]; omega)]
      rw [List.getElem?_take_of_lt q1, List.getElem?_map, List.getElem?_range hk]; rfl
    · by_cases q2 : k < dp.toNatClampNeg + nn.toNatClampNeg
      · rw [if_pos ⟨Nat.le_of_not_lt q1, q2⟩]
        have l1 : (((List.range n').map f').take dp.toNatClampNeg).length = dp.toNatClampNeg := by rw [List.length_take, List.length_map, List.length_range]; omega
        rw [List.append_assoc, List.getElem?_append_right (by rw [l1]; omega), l1, List.getElem?_append_left (by rw [List.length_map, List.length_range]; omega)]
        rw [List.getElem?_map, List.getElem?_range (by omega)]
        show (((List.range n).map f)[sp.toNatClampNeg + (k - dp.toNatClampNeg)]?).getD .null = _
        rw [List.getElem?_map, List.getElem?_range (by omega)]; rfl
      · rw [if_neg (fun z => q2 z.2)]
        have l1 : (((List.range n').map f').take dp.toNatClampNeg).length = dp.toNatClampNeg := by rw [List.length_take, List.length_map, List.length_range]; omega
        rw [List.append_assoc, List.getElem?_append_right (by rw [l1]; omega), l1, List.getElem?_append_right (by rw [List.length_map, List.length_range]; omega), List.length_map, List.length_range, List.getElem?_drop]
        rw [show dp.toNatClampNeg + nn.toNatClampNeg + (k - dp.toNatClampNeg - nn.toNatClampNeg) = k by omega, List.getElem?_map, List.getElem?_range hk]; rfl)
  exact ⟨T', h', L, X', e', N', W.kp hj K hc' A', st⟩
/-- an array of arrays -/
def Pg (Z : State) (t : FieldType) (n : Nat) (f : Nat → Value) (c : Cell) : Prop := Ar Z (.array t) n f c ∧ OvrA Z c.cls t (FieldType.array t).toString
theorem Pg.set {c : Cell} {t : FieldType} (A : Pg Z t n f c) (hv : fits (.array t) v = true) (j : Nat) : Pg Z t n (upd f j v) (c.setSlot j v) := ⟨A.1.set hv j, A.2⟩
theorem Wo.sto {t : FieldType} {j : Nat} (W : Wo n0 h E) (hi : E[i]? = some (a, Pg Z t n f)) (hj : E[j]? = some (b, Ar Z t n' f')) : Sto Z h a (.ref b) := by
  obtain ⟨-, c1, hc1, A, O⟩ := W.at hi
  obtain ⟨-, c2, hc2, B⟩ := W.at hj
  have hB : Arr Z h b c2 t := ⟨hc2, B.1, B.2.1⟩
  refine Sto.ofVA (cl := c1) ⟨hc1, A.1, A.2.1⟩ rfl O ⟨c2, c2.cls, hc2, B.2.2.2.2.1, ?_⟩
  simp [hB.plain, Vm.assignable_self]
theorem aasW (X : Stand p l e R s m args below meth c T locs cells slots) (hx : p.tables.exec = Jvm.exec) (hZ : Z.Warmed39 s.vm) (eT : T.heap = h) (W : Wo n0 h E) (N : Fr n0 locs) {t : FieldType} (hi : E[i]? = some (a, Pg Z t n f)) {j : Int32} {k : Nat} (hj : ¬ j < 0) (hk : j.toNatClampNeg = k) (hl : k < n) (hf : fits (.array t) v = true) (F : Sto Z h a v)
    {g : JFrame} (hg : g.method = m) {rest : List Value} (hs : g.stack = v :: .int j :: .ref a :: rest) (hd : decode c.code g.pc = .ok (.aastore, 1)) :
    ∃ T' h' L', Stand p l e R s m args below meth c T' L' cells slots ∧ T'.heap = h' ∧ Fr n0 L' ∧ Wo n0 h' (E.set i (a, Pg Z t n (upd f k v))) ∧ ∀ target, Steps p.tables e below (T'.setTop { g with pc := g.pc + 1, stack := rest }) target → Steps p.tables e below (T.setTop g) target := by
  obtain ⟨hge, c', hc, A, O⟩ := W.at hi
  obtain ⟨T', h', X', e', w', st⟩ := stR X hx hZ eT (a := a) (cl := c') (ty := .array t) ⟨hc, A.1, A.2.1⟩ (out_of A.2.2.1 hj hk hl) rfl F hg hs hd
  rw [hk] at w'
  exact ⟨T', h', _, X', e', Fr.snoc X' N hge, W.wr hi w' (fun c q => q.set hf k), st⟩
theorem newWR (X : Stand p l e R s m args below meth c T locs cells slots) (hx : p.tables.exec = Jvm.exec) (hZ : Z.Warmed39 s.vm) {own C : String} {t : FieldType} {index : Nat} (hown : s.vm.findClass own = some m.cls) (hC : (FieldType.array t).toString = C) (w1 : (Cond.classLink own index C).before a0 Z = true) (w2 : (Cond.arrayOver (.array t)).before a0 Z = true)
    (eT : T.heap = h) (W : Wo n0 h E) {g : JFrame} (hg : g.method = m) (hd : decode c.code g.pc = .ok (.anewarray index, 3)) {z : Int32} {rest : List Value} (hs : g.stack = .int z :: rest) (hz : ¬ z < 0) (hn : z.toNatClampNeg = n) {cap : Nat} (hcap : n ≤ cap) (hb : cap * 8 ≤ 536870912) (hc : cells + 1 ≤ R.cells) (hl : slots + cap ≤ R.slots) :
    ∃ T' h' b, Stand p l e R s m args below meth c T' locs (cells + 1) (slots + cap) ∧ T'.heap = h' ∧ Wo n0 h' ((b, Pg Z t n (fun _ => .null)) :: E) ∧ ∀ target, Steps p.tables e below (T'.setTop { g with pc := g.pc + 3, stack := .ref b :: rest }) target → Steps p.tables e below (T.setTop g) target := by
  subst hC
  obtain ⟨T', h', cA, X', e', E', A, B, O, st⟩ := newRA X hx hZ hown rfl w1 w2 eT hg hd hs hz (by rw [hn]; exact hcap) hb hc hl rfl
  exact ⟨T', h', h.size, X', e', W.push E' A.1 ⟨Ar.new A hz hn B, O⟩, st⟩
/-- the run comes from the frame F0 at S to the frame F at T -/
def Rch (p : Program) (e : Env) (below : List Frame) (S : State) (F0 : JFrame) (T : State) (F : JFrame) : Prop := ∀ t, Steps p.tables e below (T.setTop F) t → Steps p.tables e below (S.setTop F0) t
abbrev Rch.g {p : Program} {e : Env} {below : List Frame} {S : State} {F0 : JFrame} {T : State} {F : JFrame} (_ : Rch p e below S F0 T F) : JFrame := F
abbrev Rc {p : Program} {e : Env} {below : List Frame} {S : State} {F0 : JFrame} {T : State} {F : JFrame} (_ : Rch p e below S F0 T F) (T' : State) (F' : JFrame) : Prop := Rch p e below S F0 T' F'
abbrev kI (z : Int32) : Value := .int z
abbrev kJ (z : Int64) : Value := .long z
abbrev kD (z : UInt64) : Value := .double z
abbrev kR (a : Addr) : Value := .ref a
abbrev sI (z : Int32) : Slot := .val (.int z)
abbrev sJ (z : Int64) : Slot := .val (.long z)
abbrev sD (z : UInt64) : Slot := .val (.double z)
abbrev sR (a : Addr) : Slot := .val (.ref a)
abbrev sU : Slot := .unset
abbrev sV : Slot := .second
def zI : Nat → Value := fun _ => .int 0
def zD : Nat → Value := fun _ => .double 0
def zN : Nat → Value := fun _ => .null
theorem mi {α : Type} {L : List α} {d : α} (i : Nat) (h : L[i]? = some d) : d ∈ L := List.mem_of_getElem? h
theorem all0 {α : Type} {Q : α → Prop} : ∀ x ∈ ([] : List α), Q x := fun _ q => nomatch q
theorem allS {α : Type} {Q : α → Prop} {y : α} {L : List α} (q : Q y) (r : ∀ x ∈ L, Q x) : ∀ x ∈ y :: L, Q x := fun x z => (List.mem_cons.mp z).elim (fun u => u ▸ q) (r x)
theorem retA (X : Stand p l e R s m args below meth c T locs cells slots) (hx : p.tables.exec = Jvm.exec) {pc : Nat} {Ls : Array Slot} {t : FieldType} {rest : List Value} (hret : meth.sig.returnType = some t) (ht : t.isReference = true) (hd : decode c.code pc = .ok (.areturn, 1)) {fs : List Frame}
    (hl : ∀ (f : JFrame) (acts : List Action), f.method = m → f.locked = none → f.entered = [] → (doReturn e (T.setTop f) acts (some (.ref a))).1 = T.setFrames fs) : Steps p.tables e below (T.setTop (mkF m pc Ls (.ref a :: rest))) (T.setFrames fs) := by
  have hm' : T.vm.method? m = some meth := X.method'
  show Steps p.tables e below (T.setTop { method := m, pc := pc, locals := Ls, stack := _ :: rest, locked := none }) _
  jvm_step X.here [X.here.top, hx, hd, hm', hret, Value.isRef, ht]
  first | (intro acts; rw [hl _ acts rfl rfl rfl]) | rw [hl _ _ rfl rfl rfl]
  exact Steps.refl _
theorem retD (X : Stand p l e R s m args below meth c T locs cells slots) (hx : p.tables.exec = Jvm.exec) {pc : Nat} {Ls : Array Slot} {z : UInt64} {rest : List Value} (hret : meth.sig.returnType = some .double) (hd : decode c.code pc = .ok (.dreturn, 1)) {fs : List Frame}
    (hl : ∀ (f : JFrame) (acts : List Action), f.method = m → f.locked = none → f.entered = [] → (doReturn e (T.setTop f) acts (some (.double z))).1 = T.setFrames fs) : Steps p.tables e below (T.setTop (mkF m pc Ls (.double z :: rest))) (T.setFrames fs) := by
  have hm' : T.vm.method? m = some meth := X.method'
  have hn : narrow .double (.double z) = .double z := rfl
  show Steps p.tables e below (T.setTop { method := m, pc := pc, locals := Ls, stack := _ :: rest, locked := none }) _
  jvm_step X.here [X.here.top, hx, hd, hm', hret, hn]
  first | (intro acts; rw [hl _ acts rfl rfl rfl]) | rw [hl _ _ rfl rfl rfl]
  exact Steps.refl _
theorem retL (X : Stand p l e R s m args below meth c T locs cells slots) (hx : p.tables.exec = Jvm.exec) {pc : Nat} {Ls : Array Slot} {z : Int64} {rest : List Value} (hret : meth.sig.returnType = some .long) (hd : decode c.code pc = .ok (.lreturn, 1)) {fs : List Frame}
    (hl : ∀ (f : JFrame) (acts : List Action), f.method = m → f.locked = none → f.entered = [] → (doReturn e (T.setTop f) acts (some (.long z))).1 = T.setFrames fs) : Steps p.tables e below (T.setTop (mkF m pc Ls (.long z :: rest))) (T.setFrames fs) := by
  have hm' : T.vm.method? m = some meth := X.method'
  have hn : narrow .long (.long z) = .long z := rfl
  show Steps p.tables e below (T.setTop { method := m, pc := pc, locals := Ls, stack := _ :: rest, locked := none }) _
  jvm_step X.here [X.here.top, hx, hd, hm', hret, hn]
  first | (intro acts; rw [hl _ acts rfl rfl rfl]) | rw [hl _ _ rfl rfl rfl]
  exact Steps.refl _
theorem privB (X : Stand p l e R s m args below meth c T locs cells slots) (hx : p.tables.exec = Jvm.exec) {own : String} {index kk : Nat} {y : MethodName} {bytes : ByteArray} {maxL : Nat} {ret : Option FieldType}
    (hown : s.vm.findClass own = some m.cls) (hlink : (Cond.methodLink own index y).before args s = true) (hinst : (Cond.instanceMethod y).before args s = true) (hplain : (Cond.instantiable y.cls kk).before args s = true)
    (hpriv : s.PrivateAt y) (hcode : (Cond.code y bytes maxL ret).before args s = true) (hy : y.cls ≠ "java/lang/invoke/MethodHandle" ∧ y.cls ≠ "java/lang/invoke/VarHandle")
    {W : Nat} {Pre : Free.Pt → Array Value → Prop} {Post : Free.Pt → Array Value → Option Value → Free.Pt → Prop} (hK : Free.Back l R p e below s args y 3 W Pre Post)
    {g : JFrame} (hg : g.method = m) (hsize : g.locals.size = c.maxLocals) {s₀ : State} (hcome : Steps p.tables e below s₀ (T.setTop g)) {cell : Cell} (hcell : T.heap[a]? = some cell) (hobj : ∀ q, cell.vm ≠ .statics q)
    {argsL rest : List Value} (hlen : ∀ sig, parseMethodDescriptor y.desc = some sig → argsL.length = sig.parameters.length)
    (hstack : g.stack = argsL.reverse ++ .ref a :: rest) (hW : 2 * g.monitorRoom + (rest.map fun v => v.category).sum ≤ W) (hdg : decode c.code g.pc = .ok (.invokevirtual index, 3))
    (hpre : ∀ vm₁, s.WarmedH vm₁ → Pre ⟨T.setVm vm₁, locs, cells, slots⟩ (.ref a :: argsL).toArray) :
    ∃ (v : Option Value) (vm₁ : Vm) (B : Free.Pt), s.WarmedH vm₁ ∧ Stand p l e R s m args below meth c B.U B.locs B.cells B.slots ∧ Post ⟨T.setVm vm₁, locs, cells, slots⟩ (.ref a :: argsL).toArray v B ∧
      Steps p.tables e below s₀ (B.U.setTop { g with pc := g.pc + 3, stack := v.toList ++ rest }) := by
  obtain ⟨mk, methM, hnamed, hmethM, hstM, habM⟩ := Cond.instanceMethod_spec hinst
  obtain ⟨methM', cM, hmethM', -, -, -, -, -, -, hsigM⟩ := Cond.code_spec hnamed hcode
  cases hmethM.symm.trans hmethM'
  obtain ⟨c2, kP, q1, q2, -, q4, -⟩ := Cond.instantiable_spec hplain
  have q5 := findClass_of_methodNamed hnamed
  cases q1.symm.trans q5
  have hkPi : kP.isInterface = false := by cases hq : kP.isInterface <;> simp [hq] at q4 ⊢
  have hselP : selectMethod e.platform s.vm cell.cls mk = .method mk := selectMethod_private hmethM (hpriv mk methM hnamed hmethM)
  obtain ⟨vm₁, X₁, hstep₁⟩ := X.invokevirtual hx hown hlink hnamed hmethM hstM q2 hkPi hy (a := a) (cell := cell) hcell hobj hselP hmethM habM q2 hkPi (g := g) hg (argsL := argsL) (rest := rest) (hlen _ hsigM) hstack hdg
  have hW₁ : s.WarmedH vm₁ := X₁.warmed
  obtain ⟨v, B, X', hpost, hsteps⟩ := hK m meth c ⟨T.setVm vm₁, locs, cells, slots⟩ { g with stack := rest } (.invokevirtual index) mk (.ref a :: argsL).toArray X₁ hg hsize hdg hW (X₁.named hnamed) (hpre vm₁ hW₁)
  exact ⟨v, vm₁, B, hW₁, X', hpost, (hcome.trans (hstep₁ _ fun acts => by rw [doInvoke_state]; exact Steps.refl _)).trans hsteps⟩
end Kit
end Jvm.OwnKit
namespace Jvm.OwnFp
open Jvm.FP Jvm.Free.Fl Jvm.Op
/-- a sixteenth, and one, in units of the least double -/
def U : Int := ((2 ^ (-4 - Core.b64.qmin).toNat : Nat) : Int)
def V1 : Int := ((2 ^ (-Core.b64.qmin).toNat : Nat) : Int)
/-- the double x is n sixteenths, n within b -/
def Sx (b : Nat) (n : Int) (x : UInt64) : Prop := Core.DFin x ∧ Core.zval Core.b64 (Core.val64 x) = n * U ∧ n.natAbs ≤ b
/-- the double y is the whole number z -/
def Vx (z : Int) (y : UInt64) : Prop := Core.DFin y ∧ Core.zval Core.b64 (Core.val64 y) = z * V1 ∧ z.natAbs ≤ 2147483648
theorem rep (n : Int) (h : n.natAbs < 9007199254740992) : ∃ V : Core.Datum, Core.fits Core.b64 V ∧ V ≠ .nan ∧ Core.zval Core.b64 V = n * U := by
  obtain ⟨c, q, e1, e2⟩ := Core.round_exact Core.good_b64 (decide (n < 0)) (c := n.natAbs) (q := -4) (by show n.natAbs < 2 ^ 53; omega) (by decide +kernel) (by decide +kernel)
  refine ⟨.fin (decide (n < 0)) c q, (by rw [← e1]; exact Core.round_fits Core.good_b64 _), (by intro z; cases z), ?_⟩
  show Core.signed (decide (n < 0)) (Core.inUnits c q Core.b64.qmin) = n * U
  rw [e2]
  show Core.signed (decide (n < 0)) (n.natAbs * 2 ^ (-4 - Core.b64.qmin).toNat) = n * ((2 ^ (-4 - Core.b64.qmin).toNat : Nat) : Int)
  rw [Core.signed_mul]
  congr 1
  show (if decide (n < 0) = true then -(n.natAbs : Int) else (n.natAbs : Int)) = n
  by_cases z : n < 0
  · rw [if_pos (decide_eq_true z)]; omega
  · rw [if_neg (by rw [decide_eq_false z]; decide)]; omega
theorem fin_of {n : Int} {x : UInt64} (h : Core.zval Core.b64 (Core.val64 x) = n * U) (hn : n.natAbs < 9007199254740992) (hx : Core.dIsNaN x = false) : Core.DFin x := by
  cases q : Core.val64 x with
  | nan => exact absurd q ((Core.notNaN_iff x).mp hx)
  | fin s c e => exact ⟨s, c, e, q⟩
  | inf s =>
    rw [q] at h
    have h1 := congrArg Int.natAbs h
    have hz : ∀ f : Core.Fmt, Core.zval f (.inf s) = Core.signed s (f.tails * 2 ^ (f.exps - 2)) := fun _ => rfl
    rw [hz, Core.natAbs_signed, Int.natAbs_mul] at h1
    have h2 : 0 < U.natAbs := by decide +kernel
    have h4 : n.natAbs * U.natAbs < 9007199254740992 * U.natAbs := Nat.mul_lt_mul_of_pos_right hn h2
    have h5 : 9007199254740992 * U.natAbs ≤ Core.b64.tails * 2 ^ (Core.b64.exps - 2) := by decide +kernel
    rw [← h1] at h4
    exact absurd h4 (Nat.not_lt.mpr h5)
theorem Sx.nn {a : Nat} {m : Int} {x : UInt64} (hx : Sx a m x) : NoNaN64 x := noNaN64_no.mpr hx.1.notNaN
theorem Sx.mono {a b : Nat} {m : Int} {x : UInt64} (hx : Sx a m x) (h : a ≤ b) : Sx b m x := ⟨hx.1, hx.2.1, Nat.le_trans hx.2.2 h⟩
theorem Sx.zero : Sx 0 0 0 := ⟨(Core.fin_bits 0).mpr (by decide +kernel), by rw [Core.zval64_zero, Int.zero_mul], by decide⟩
theorem Sx.add {a b : Nat} {m n : Int} {x y : UInt64} (hx : Sx a m x) (hy : Sx b n y) (hb : a + b < 9007199254740992) : Sx (a + b) (m + n) (FP.dadd x y) := by
  obtain ⟨fx, vx, bx⟩ := hx
  obtain ⟨fy, vy, byy⟩ := hy
  have hn : (m + n).natAbs ≤ a + b := by omega
  obtain ⟨V, fV, nV, eV⟩ := rep (m + n) (by omega)
  have hs : Core.zval Core.b64 (Core.val64 x) + Core.zval Core.b64 (Core.val64 y) = Core.zval Core.b64 V := by rw [vx, vy, eV, Int.add_mul]
  have h1 := Core.sum_le Core.good_b64 fx fy (Core.val64_fits x) (Core.val64_fits y) fV nV (Int.le_of_eq hs)
  have h2 := Core.sum_ge Core.good_b64 fx fy (Core.val64_fits x) (Core.val64_fits y) fV nV (Int.le_of_eq hs.symm)
  rw [← Core.val64_dadd] at h1 h2
  have h3 : Core.zval Core.b64 (Core.val64 (FP.dadd x y)) = (m + n) * U := (Int.le_antisymm h1 h2).trans eV
  exact ⟨fin_of h3 (by omega) (Core.dadd_out fx.notNaN fy), h3, hn⟩
theorem Sx.mul {a : Nat} {k z : Int} {x y : UInt64} (hx : Sx a k x) (ha : a ≤ 30) (hy : Vx z y) : Sx 64424509440 (k * z) (FP.dmul x y) := by
  obtain ⟨⟨s, c, q, ex⟩, vx, bx⟩ := hx
  obtain ⟨⟨t, d, r, ey⟩, vy, hz⟩ := hy
  have hn : (k * z).natAbs ≤ 64424509440 := by
    rw [Int.natAbs_mul]; exact Nat.mul_le_mul (Nat.le_trans bx ha) hz
  obtain ⟨V, fV, nV, eV⟩ := rep (k * z) (by omega)
  have fitx := Core.val64_fits x
  have fity := Core.val64_fits y
  rw [ex] at fitx vx
  rw [ey] at fity vy
  have q1 : Core.b64.qmin ≤ q := fitx.2.1
  have r1 : Core.b64.qmin ≤ r := fity.2.1
  have vx' : Core.signed s (Core.inUnits c q Core.b64.qmin) = k * U := vx
  have vy' : Core.signed t (Core.inUnits d r Core.b64.qmin) = z * V1 := vy
  have e0 : Core.b64.qmin + Core.b64.qmin ≤ Core.b64.qmin := by decide +kernel
  have hu : Core.inUnits (c * d) (q + r) (Core.b64.qmin + Core.b64.qmin) = Core.inUnits c q Core.b64.qmin * Core.inUnits d r Core.b64.qmin := by
    show c * d * 2 ^ (q + r - (Core.b64.qmin + Core.b64.qmin)).toNat = c * 2 ^ (q - Core.b64.qmin).toNat * (d * 2 ^ (r - Core.b64.qmin).toNat)
    rw [show (q + r - (Core.b64.qmin + Core.b64.qmin)).toNat = (q - Core.b64.qmin).toNat + (r - Core.b64.qmin).toNat by omega, Nat.pow_add]
    exact Nat.mul_mul_mul_comm _ _ _ _
  have hv : Core.signed (s != t) (Core.inUnits (c * d) (q + r) (Core.b64.qmin + Core.b64.qmin)) = Core.zval Core.b64 V * ((2 ^ (Core.b64.qmin - (Core.b64.qmin + Core.b64.qmin)).toNat : Nat) : Int) := by
    rw [hu, Core.signed_xor, vx', vy', eV, show (Core.b64.qmin - (Core.b64.qmin + Core.b64.qmin)).toNat = (-Core.b64.qmin).toNat by omega]
    show k * U * (z * V1) = k * z * U * V1
    generalize U = uu
    generalize V1 = vv
    ac_rfl
  have e1 : Core.b64.qmin + Core.b64.qmin ≤ q + r := by omega
  have h1 := Core.zval_round_le Core.good_b64 (s := s != t) (c := c * d) (q := q + r) fV nV e0 e1 (Int.le_of_eq hv)
  have h2 := Core.zval_round_ge Core.good_b64 (s := s != t) (c := c * d) (q := q + r) fV nV e0 e1 (Int.le_of_eq hv.symm)
  have h3 : Core.zval Core.b64 (Core.val64 (FP.dmul x y)) = (k * z) * U := by
    rw [show Core.val64 (FP.dmul x y) = _ from Core.val64_dmul x y, ex, ey]
    exact (Int.le_antisymm h1 h2).trans eV
  exact ⟨fin_of h3 (by omega) (Core.dmul_out ⟨s, c, q, ex⟩ ⟨t, d, r, ey⟩), h3, hn⟩
theorem Sx.eq {a b : Nat} {n : Int} {x y : UInt64} (hx : Sx a n x) (hy : Sx b n y) : cmpValue (FP.dcmp x y) .l = 0 := by
  rw [show FP.dcmp x y = _ from Core.dcmp_zval hx.1.ne_nan hy.1.ne_nan, hx.2.1, hy.2.1, Core.compare_ite, if_neg (Int.lt_irrefl _), if_pos rfl]
  first | done | rfl
theorem i2d_v (a : Int32) : Vx a.toInt (FP.i2d a) := by
  have r := Jvm.RoadKit.rng32 a
  have w : Core.Whole a.toInt (Core.val64 (FP.i2d a)) := by
    rw [show Core.val64 (FP.i2d a) = _ from Core.val64_i2d a]
    exact Core.whole_round Core.good_b64 Core.wide_b64 (by show a.toInt.natAbs ≤ 2 ^ 53; omega) (Core.whole_ofInt _)
  exact ⟨Core.i2d_fin a, Core.whole_zval Core.good_b64 (Core.val64_fits _) w, by omega⟩
theorem pk0 : ∀ k, k < 16 → (FP.ddiv (FP.i2d (Int32.ofNat k)) 4625196817309499392).toNat % 2 ^ 63 < 9218868437227405312 ∧ Core.zval Core.b64 (Core.val64 (FP.ddiv (FP.i2d (Int32.ofNat k)) 4625196817309499392)) = (k : Int) * U := by decide +kernel
theorem pk (k : Nat) (h : k < 16) : Sx 15 (k : Int) (FP.ddiv (FP.i2d (Int32.ofNat k)) 4625196817309499392) := ⟨(Core.fin_bits _).mpr (pk0 k h).1, (pk0 k h).2, by omega⟩
end Jvm.OwnFp
namespace Jvm.Pilot.@@N@@
open Jvm Jvm.ClassFile Sem Op Lib Jvm.Free Jvm.Stand Jvm.LawKit Jvm.RoadKit Bundle Jvm.Pilot.@@N@@.Jvm.D
open Jvm.OwnKit (Wo Ob Ar Pg Dist upd upd_same upd_other cpy getR putW newWO newWA newWR ialW dalW balW aalW lenW iasW dasW basW aasW cpW Rch zI zD zN mi Rc kI kJ kD kR sI sJ sD sR sU sV)
open Jvm.OwnFp (Sx Vx)
theorem own_add (a b : Nat) : Int32.ofNat a + Int32.ofNat b = Int32.ofNat (a + b) := (Int32.ofNat_add a b).symm
theorem own_int {a : Nat} (h : a < 2147483648) : (Int32.ofNat a).toInt = a := Int32.toInt_ofNat_of_lt h
theorem own_sub {a b : Nat} (h : b ≤ a) (ha : a < 2147483648) : Int32.ofNat a - Int32.ofNat b = Int32.ofNat (a - b) := by
  apply Int32.toInt_inj.mp
  have h1 := c_isub (Int32.ofNat a) (Int32.ofNat b)
  have h2 := rng32 (Int32.ofNat a - Int32.ofNat b)
  rw [own_int ha, own_int (by omega)] at h1
  rw [own_int (by omega)]
  omega
theorem own_lt {a b : Nat} (h : a < b) (hb : b < 2147483648) : Int32.ofNat a < Int32.ofNat b := by
  rw [Int32.lt_iff_toInt_lt, own_int (by omega), own_int hb]; omega
theorem own_nlt {a b : Nat} (h : b ≤ a) (ha : a < 2147483648) : ¬ (Int32.ofNat a < Int32.ofNat b) := by
  rw [Int32.lt_iff_toInt_lt, own_int ha, own_int (by omega)]; omega
theorem own_ne {a b : Nat} (h : a ≠ b) (ha : a < 2147483648) (hb : b < 2147483648) : ¬ (Int32.ofNat a = Int32.ofNat b) := fun q => by
  have q' := congrArg Int32.toInt q
  rw [own_int ha, own_int hb] at q'; omega
theorem own_nn {a : Nat} (h : a < 2147483648) : ¬ (Int32.ofNat a < 0) := by
  rw [Int32.lt_iff_toInt_lt, own_int h]; show ¬ (a : Int) < 0; omega
theorem own_tn {a : Nat} (h : a < 2147483648) : (Int32.ofNat a).toNatClampNeg = a := by
  simp only [Int32.toNatClampNeg, own_int h]; rfl
theorem own_rem (x y : Int32) (N : Nat) (hy : y.toInt = N) (hN : 0 < N) (hN' : N < 2147483648) (h0 : 0 ≤ x.toInt) : ∃ r : Nat, r < N ∧ x - x / y * y = Int32.ofNat r := by
  rw [irem_eq_mod]
  have h1 := (c_irem x y N hy).1 h0
  have h2 := Int.emod_nonneg x.toInt (b := (N : Int)) (by omega)
  have h3 := Int.emod_lt_of_pos x.toInt (b := (N : Int)) (by omega)
  refine ⟨(x.toInt % N).toNat, by omega, ?_⟩
  apply Int32.toInt_inj.mp
  rw [h1, Int32.toInt_ofNat_of_lt (by omega)]
  omega
/-- the int in a value -/
def own_iv : Value → Int32
  | .int z => z
  | _ => 0
theorem own_fits {v : Value} (h : fits .int v = true) : v = .int (own_iv v) := by cases v <;> simp [fits] at h ⊢ <;> rfl
theorem own_arI {n0 : Nat} {h : Heap} {E : List (Addr × (Cell → Prop))} {i : Nat} {a : Addr} {Z : State} {n : Nat} {f : Nat → Value} (W : Wo n0 h E) (hi : E[i]? = some (a, Ar Z .int n f)) {k : Nat} (hk : k < n) : f k = .int (own_iv (f k)) := by
  obtain ⟨-, c, -, A⟩ := W.at hi
  exact own_fits (A.2.2.2.2.2 k hk).2
def own_bi (b : Bool) : Int32 := if b then 1 else 0

def nsR : List (String × String) := [("keys", "[I"), ("ranges", "[I"), ("nextShape", "[I"), ("firstChoice", "[I"), ("firstKey", "[I"), ("keyLength", "[I"), ("firstRange", "[I"), ("firstAction", "[I"), ("firstCommand", "[I"), ("firstTransition", "[I"), ("actions", "[I"), ("commands", "[I"), ("successors", "[I"), ("probabilities", "[D"), ("shapeCount", "I"), ("lastRow", "[I"), ("rowCount", "I"), ("shapeOf", "[I"), ("nextRow", "[I"), ("blockOf", "[I"), ("shift", "[I"), ("varyingCount", "[I"), ("blocks", "[[D"), ("blockCount", "I"), ("used", "I")]
theorem own_lR {Z : State} {a0 : Array Value} (hw : ∀ d ∈ tables_1, d.before a0 Z = true) : ∀ x ∈ nsR, Laid Z a0 "com/example/sambre/sambre/engine/Rows" "com/example/sambre/sambre/engine/Rows" x.1 x.2 := Jvm.OwnKit.allS (Or.inl (hw _ (mi 15 rfl))) (Jvm.OwnKit.allS (Or.inl (hw _ (mi 17 rfl))) (Jvm.OwnKit.allS (Or.inl (hw _ (mi 19 rfl))) (Jvm.OwnKit.allS (Or.inl (hw _ (mi 21 rfl))) (Jvm.OwnKit.allS (Or.inl (hw _ (mi 23 rfl))) (Jvm.OwnKit.allS (Or.inl (hw _ (mi 25 rfl))) (Jvm.OwnKit.allS (Or.inl (hw _ (mi 27 rfl))) (Jvm.OwnKit.allS (Or.inl (hw _ (mi 29 rfl))) (Jvm.OwnKit.allS (Or.inl (hw _ (mi 31 rfl))) (Jvm.OwnKit.allS (Or.inl (hw _ (mi 33 rfl))) (Jvm.OwnKit.allS (Or.inl (hw _ (mi 35 rfl))) (Jvm.OwnKit.allS (Or.inl (hw _ (mi 37 rfl))) (Jvm.OwnKit.allS (Or.inl (hw _ (mi 39 rfl))) (Jvm.OwnKit.allS (Or.inl (hw _ (mi 41 rfl))) (Jvm.OwnKit.allS (Or.inl (hw _ (mi 102 rfl))) (Jvm.OwnKit.allS (Or.inl (hw _ (mi 106 rfl))) (Jvm.OwnKit.allS (Or.inl (hw _ (mi 123 rfl))) (Jvm.OwnKit.allS (Or.inl (hw _ (mi 130 rfl))) (Jvm.OwnKit.allS (Or.inl (hw _ (mi 162 rfl))) (Jvm.OwnKit.allS (Or.inl (hw _ (mi 164 rfl))) (Jvm.OwnKit.allS (Or.inl (hw _ (mi 166 rfl))) (Jvm.OwnKit.allS (Or.inl (hw _ (mi 168 rfl))) (Jvm.OwnKit.allS (Or.inl (hw _ (mi 172 rfl))) (Jvm.OwnKit.allS (Or.inl (hw _ (mi 175 rfl))) (Jvm.OwnKit.allS (Or.inl (hw _ (mi 185 rfl))) (Jvm.OwnKit.all0)))))))))))))))))))))))))
theorem own_dR {Z : State} {a0 : Array Value} (hw : ∀ d ∈ tables_1, d.before a0 Z = true) : Dist Z "com/example/sambre/sambre/engine/Rows" nsR := Dist.of (own_lR hw) (by decide +kernel) (by decide +kernel)
theorem own_vR : nsR.map (fun x => (parseFieldDescriptor x.2).map defaultValue) = ([.null, .null, .null, .null, .null, .null, .null, .null, .null, .null, .null, .null, .null, .null, (.int (0 : Int32)), .null, (.int (0 : Int32)), .null, .null, .null, .null, .null, .null, (.int (0 : Int32)), (.int (0 : Int32))] : List Value).map some := by first | rfl | decide +kernel
abbrev oR (Z : State) (vs : List Value) : Cell → Prop := Ob Z "com/example/sambre/sambre/engine/Rows" nsR vs
def nsB : List (String × String) := [("key", "[I"), ("keyLength", "I"), ("varying", "[D"), ("varyingCount", "I"), ("firstAction", "[I"), ("actions", "[I"), ("firstCommand", "[I"), ("commands", "[I"), ("firstTransition", "[I"), ("successors", "[I"), ("probabilities", "[D"), ("choiceCount", "I"), ("actionCount", "I"), ("commandCount", "I"), ("transitionCount", "I"), ("places", "Ljava/util/Map;")]
theorem own_lB {Z : State} {a0 : Array Value} (hw : ∀ d ∈ tables_1, d.before a0 Z = true) : ∀ x ∈ nsB, Laid Z a0 "com/example/sambre/sambre/engine/Rows$Builder" "com/example/sambre/sambre/engine/Rows$Builder" x.1 x.2 := Jvm.OwnKit.allS (Or.inl (hw _ (mi 69 rfl))) (Jvm.OwnKit.allS (Or.inl (hw _ (mi 71 rfl))) (Jvm.OwnKit.allS (Or.inl (hw _ (mi 73 rfl))) (Jvm.OwnKit.allS (Or.inl (hw _ (mi 75 rfl))) (Jvm.OwnKit.allS (Or.inl (hw _ (mi 50 rfl))) (Jvm.OwnKit.allS (Or.inl (hw _ (mi 52 rfl))) (Jvm.OwnKit.allS (Or.inl (hw _ (mi 54 rfl))) (Jvm.OwnKit.allS (Or.inl (hw _ (mi 56 rfl))) (Jvm.OwnKit.allS (Or.inl (hw _ (mi 58 rfl))) (Jvm.OwnKit.allS (Or.inl (hw _ (mi 60 rfl))) (Jvm.OwnKit.allS (Or.inl (hw _ (mi 62 rfl))) (Jvm.OwnKit.allS (Or.inl (hw _ (mi 77 rfl))) (Jvm.OwnKit.allS (Or.inl (hw _ (mi 79 rfl))) (Jvm.OwnKit.allS (Or.inl (hw _ (mi 81 rfl))) (Jvm.OwnKit.allS (Or.inl (hw _ (mi 83 rfl))) (Jvm.OwnKit.allS (Or.inl (hw _ (mi 85 rfl))) (Jvm.OwnKit.all0))))))))))))))))
theorem own_dB {Z : State} {a0 : Array Value} (hw : ∀ d ∈ tables_1, d.before a0 Z = true) : Dist Z "com/example/sambre/sambre/engine/Rows$Builder" nsB := Dist.of (own_lB hw) (by decide +kernel) (by decide +kernel)
theorem own_vB : nsB.map (fun x => (parseFieldDescriptor x.2).map defaultValue) = ([.null, (.int (0 : Int32)), .null, (.int (0 : Int32)), .null, .null, .null, .null, .null, .null, .null, (.int (0 : Int32)), (.int (0 : Int32)), (.int (0 : Int32)), (.int (0 : Int32)), .null] : List Value).map some := by first | rfl | decide +kernel
abbrev oB (Z : State) (vs : List Value) : Cell → Prop := Ob Z "com/example/sambre/sambre/engine/Rows$Builder" nsB vs
abbrev y_inl : MethodName := ⟨"java/lang/Integer", "numberOfLeadingZeros", "(I)I"⟩
theorem pd_inl : parseMethodDescriptor "(I)I" = some ⟨[.int], some .int⟩ := by decide +kernel
theorem pn_Integer : plainName "java/lang/Integer" = true := by first | (simp [plainName, overriddenIn]; done) | decide +kernel
def Ld_inl : List (Nat × Instr × Nat) := [(0, .iload_n 0, 1), (1, .ifCond .gt 14, 3), (15, .bipush 31, 2), (17, .istore_n 1, 1), (18, .iload_n 0, 1), (19, .ldc_w 264, 3), (22, .if_icmp .lt 11, 3), (33, .iload_n 0, 1), (34, .sipush 256, 3), (37, .if_icmp .lt 11, 3), (48, .iload_n 0, 1), (49, .bipush 16, 2), (51, .if_icmp .lt 10, 3), (54, .iinc 1 (-4), 3), (57, .iload_n 0, 1), (58, .iconst 4, 1), (59, .iushr, 1), (60, .istore_n 0, 1), (61, .iload_n 0, 1), (62, .iconst 4, 1), (63, .if_icmp .lt 10, 3), (73, .iload_n 1, 1), (74, .iload_n 0, 1), (75, .iconst 1, 1), (76, .iushr, 1), (77, .isub, 1), (78, .ireturn, 1)]
set_option maxRecDepth 65536 in
theorem d_inl : ∀ x ∈ Ld_inl, decode jdk_33_method_47_code x.1 = .ok (x.2.1, x.2.2) := by decide +kernel
theorem ef_rmIN19 (m : MethodId)  : entryFrame m #[(.int (19 : Int32))] 2 = mkF m 0 #[.val (.int (19 : Int32)), .unset] [] := by first | (simp [entryFrame, mkF, argsToLocals, Value.category]; done) | rfl
def QrmIN19 (Z : State)  (Rr : List (Addr × (Cell → Prop))) (n0 : Nat) (v : Option Value) (h : Heap) (L : List Loc) : Prop := v = some (.int (27 : Int32)) ∧ Fr n0 L ∧ Wo n0 h (Rr)
set_option maxRecDepth 65536 in
set_option maxHeartbeats 40000000 in
theorem rmIN19 (l : Launch) (Z : State) (a0 : Array Value) (hw : ∀ d ∈ tables_1, d.before a0 Z = true) (ws : List Jvm.Cond)  (Rr : List (Addr × (Cell → Prop))) (h0 : Heap) (n0 : Nat) (W0 : Wo n0 h0 (Rr)) :
    MetFree l y_inl (head1 (Jvm.Cond.code y_inl jdk_33_method_47_code 2 (some .int) :: ws) ({ frames := 0, cells := 0, slots := 0, locals := 0 } : Room)) (fun aa U => aa = #[(.int (19 : Int32))] ∧ Z.Warmed39 U.vm ∧ U.heap = h0) (fun _ _ _ _ _ => True) (fun _ U ou U' => ∃ v L, ou = .returned v ∧ QrmIN19 Z  Rr n0 v U'.heap L ∧ FrameEnd U ou U' L ({ frames := 0, cells := 0, slots := 0, locals := 0 } : Room).cells ({ frames := 0, cells := 0, slots := 0, locals := 0 } : Room).slots) := by
  refine MetFree.of_bodySF (plainFor_of_name pn_Integer) hisR ?_
  intro p e s m args below meth c s₁ Bd hml0 hP hK
  obtain ⟨rfl, hZ, hh⟩ := hP
  have hx := Bd.exec
  have hby := Bd.bytes
  have hml : c.maxLocals = 2 := hml0
  have hD : ∀ (k : Nat) {pc : Nat} {i : Instr} {n : Nat}, Ld_inl[k]? = some (pc, i, n) → decode c.code pc = .ok (i, n) := by intro k pc i n h; exact hb hby (d_inl (pc, i, n) (mi k h))
  have hown : s.vm.findClass "java/lang/Integer" = some m.cls := findClass_of_methodNamed Bd.named
  have hnm := (name_of_methodNamed Bd.named Bd.method).1
  have X0 : Stand p l e ({ frames := 0, cells := 0, slots := 0, locals := 0 } : Room) s m #[(.int (19 : Int32))] below meth c s₁ [] 0 0 := Stand.of_body Bd
  have e0 : s₁.heap = h0 := by rw [← hh, Bd.state]; rfl
  have N0 := Fr.nil n0
  obtain ⟨F0, hF0⟩ : ∃ F, F = mkF m 0 #[.val (.int (19 : Int32)), .unset] [] := ⟨_, rfl⟩
  have pre0 : ∀ t, Steps p.tables e below (s₁.setTop F0) t → Steps p.tables e below (s₁.setTop (entryFrame m #[(.int (19 : Int32))] 2)) t := fun t k => castTop ((ef_rmIN19 m ).trans hF0.symm) k
  have K0 : Rch p e below s₁ F0 s₁ (mkF m 0 #[.val (.int (19 : Int32)), .unset] []) := fun t k => castTop hF0 k
  have K1 : Rc K0 s₁ (mkF m 78 #[sI 1, sI 27] [(kI 27)]) := fun t k => K0 t (by
    refine XS.iloadN X0.here hx rfl (hD 0 rfl) rfl ?_
    refine XS.ifYes X0.here hx rfl (pc0 := 1) (pc' := 15) rfl (hD 1 rfl) rfl (by decide) (by decide) (by decide) ?_
    refine XS.bipush X0.here hx rfl (hD 2 rfl) ?_
    refine XS.istoreN X0.here hx rfl (hD 3 rfl) rfl (l' := #[sI 19, sI 31]) rfl ?_
    refine XS.iloadN X0.here hx rfl (hD 4 rfl) rfl ?_
    refine X0.ldcwInt hx hown (mvT hZ (hw _ (mi 152 rfl))) (g := (mkF m 19 #[sI 19, sI 31] [(kI 19)])) rfl (hD 5 rfl) _ ?_
    refine XS.icmpYes X0.here hx rfl (pc0 := 22) (pc' := 33) rfl (hD 6 rfl) rfl (by decide) (by decide) (by decide) ?_
    refine XS.iloadN X0.here hx rfl (hD 7 rfl) rfl ?_
    refine XS.sipush X0.here hx rfl (hD 8 rfl) ?_
    refine XS.icmpYes X0.here hx rfl (pc0 := 37) (pc' := 48) rfl (hD 9 rfl) rfl (by decide) (by decide) (by decide) ?_
    refine XS.iloadN X0.here hx rfl (hD 10 rfl) rfl ?_
    refine XS.bipush X0.here hx rfl (hD 11 rfl) ?_
    refine XS.icmpNo X0.here hx rfl (hD 12 rfl) rfl (by decide) ?_
    refine XS.iinc X0.here hx rfl (hD 13 rfl) rfl (l' := #[sI 19, sI 27]) rfl ?_
    refine XS.iloadN X0.here hx rfl (hD 14 rfl) rfl ?_
    refine XS.iconst X0.here hx rfl (hD 15 rfl) ?_
    refine XS.iushr X0.here hx rfl (hD 16 rfl) rfl ?_
    refine XS.istoreN X0.here hx rfl (hD 17 rfl) rfl (l' := #[sI 1, sI 27]) rfl ?_
    refine XS.iloadN X0.here hx rfl (hD 18 rfl) rfl ?_
    refine XS.iconst X0.here hx rfl (hD 19 rfl) ?_
    refine XS.icmpYes X0.here hx rfl (pc0 := 63) (pc' := 73) rfl (hD 20 rfl) rfl (by decide) (by decide) (by decide) ?_
    refine XS.iloadN X0.here hx rfl (hD 21 rfl) rfl ?_
    refine XS.iloadN X0.here hx rfl (hD 22 rfl) rfl ?_
    refine XS.iconst X0.here hx rfl (hD 23 rfl) ?_
    refine XS.iushr X0.here hx rfl (hD 24 rfl) rfl ?_
    refine XS.isub X0.here hx rfl (hD 25 rfl) rfl ?_
    exact k)
  obtain ⟨fs, hr, hrun, hended, hWm, hsame⟩ := X0.leave (v := some (.int (27 : Int32))) (fun h => by rw [Bd.returns] at h; cases h)
  refine ⟨_, _, pre0 _ (K1 _ (retI X0 hx Bd.returns (hD 26 rfl) hr)), hrun, hended, _, _, rfl, ?_, ⟨_, rfl⟩, hWm, hsame.mono (by decide) (by decide)⟩
  show QrmIN19 Z  Rr n0 _ s₁.heap _
  rw [e0]
  exact ⟨rfl, N0, W0⟩
theorem ef_rmIN23 (m : MethodId)  : entryFrame m #[(.int (23 : Int32))] 2 = mkF m 0 #[.val (.int (23 : Int32)), .unset] [] := by first | (simp [entryFrame, mkF, argsToLocals, Value.category]; done) | rfl
def QrmIN23 (Z : State)  (Rr : List (Addr × (Cell → Prop))) (n0 : Nat) (v : Option Value) (h : Heap) (L : List Loc) : Prop := v = some (.int (27 : Int32)) ∧ Fr n0 L ∧ Wo n0 h (Rr)
set_option maxRecDepth 65536 in
set_option maxHeartbeats 40000000 in
theorem rmIN23 (l : Launch) (Z : State) (a0 : Array Value) (hw : ∀ d ∈ tables_1, d.before a0 Z = true) (ws : List Jvm.Cond)  (Rr : List (Addr × (Cell → Prop))) (h0 : Heap) (n0 : Nat) (W0 : Wo n0 h0 (Rr)) :
    MetFree l y_inl (head1 (Jvm.Cond.code y_inl jdk_33_method_47_code 2 (some .int) :: ws) ({ frames := 0, cells := 0, slots := 0, locals := 0 } : Room)) (fun aa U => aa = #[(.int (23 : Int32))] ∧ Z.Warmed39 U.vm ∧ U.heap = h0) (fun _ _ _ _ _ => True) (fun _ U ou U' => ∃ v L, ou = .returned v ∧ QrmIN23 Z  Rr n0 v U'.heap L ∧ FrameEnd U ou U' L ({ frames := 0, cells := 0, slots := 0, locals := 0 } : Room).cells ({ frames := 0, cells := 0, slots := 0, locals := 0 } : Room).slots) := by
  refine MetFree.of_bodySF (plainFor_of_name pn_Integer) hisR ?_
  intro p e s m args below meth c s₁ Bd hml0 hP hK
  obtain ⟨rfl, hZ, hh⟩ := hP
  have hx := Bd.exec
  have hby := Bd.bytes
  have hml : c.maxLocals = 2 := hml0
  have hD : ∀ (k : Nat) {pc : Nat} {i : Instr} {n : Nat}, Ld_inl[k]? = some (pc, i, n) → decode c.code pc = .ok (i, n) := by intro k pc i n h; exact hb hby (d_inl (pc, i, n) (mi k h))
  have hown : s.vm.findClass "java/lang/Integer" = some m.cls := findClass_of_methodNamed Bd.named
  have hnm := (name_of_methodNamed Bd.named Bd.method).1
  have X0 : Stand p l e ({ frames := 0, cells := 0, slots := 0, locals := 0 } : Room) s m #[(.int (23 : Int32))] below meth c s₁ [] 0 0 := Stand.of_body Bd
  have e0 : s₁.heap = h0 := by rw [← hh, Bd.state]; rfl
  have N0 := Fr.nil n0
  obtain ⟨F0, hF0⟩ : ∃ F, F = mkF m 0 #[.val (.int (23 : Int32)), .unset] [] := ⟨_, rfl⟩
  have pre0 : ∀ t, Steps p.tables e below (s₁.setTop F0) t → Steps p.tables e below (s₁.setTop (entryFrame m #[(.int (23 : Int32))] 2)) t := fun t k => castTop ((ef_rmIN23 m ).trans hF0.symm) k
  have K0 : Rch p e below s₁ F0 s₁ (mkF m 0 #[.val (.int (23 : Int32)), .unset] []) := fun t k => castTop hF0 k
  have K1 : Rc K0 s₁ (mkF m 78 #[sI 1, sI 27] [(kI 27)]) := fun t k => K0 t (by
    refine XS.iloadN X0.here hx rfl (hD 0 rfl) rfl ?_
    refine XS.ifYes X0.here hx rfl (pc0 := 1) (pc' := 15) rfl (hD 1 rfl) rfl (by decide) (by decide) (by decide) ?_
    refine XS.bipush X0.here hx rfl (hD 2 rfl) ?_
    refine XS.istoreN X0.here hx rfl (hD 3 rfl) rfl (l' := #[sI 23, sI 31]) rfl ?_
    refine XS.iloadN X0.here hx rfl (hD 4 rfl) rfl ?_
    refine X0.ldcwInt hx hown (mvT hZ (hw _ (mi 152 rfl))) (g := (mkF m 19 #[sI 23, sI 31] [(kI 23)])) rfl (hD 5 rfl) _ ?_
    refine XS.icmpYes X0.here hx rfl (pc0 := 22) (pc' := 33) rfl (hD 6 rfl) rfl (by decide) (by decide) (by decide) ?_
    refine XS.iloadN X0.here hx rfl (hD 7 rfl) rfl ?_
    refine XS.sipush X0.here hx rfl (hD 8 rfl) ?_
    refine XS.icmpYes X0.here hx rfl (pc0 := 37) (pc' := 48) rfl (hD 9 rfl) rfl (by decide) (by decide) (by decide) ?_
    refine XS.iloadN X0.here hx rfl (hD 10 rfl) rfl ?_
    refine XS.bipush X0.here hx rfl (hD 11 rfl) ?_
    refine XS.icmpNo X0.here hx rfl (hD 12 rfl) rfl (by decide) ?_
    refine XS.iinc X0.here hx rfl (hD 13 rfl) rfl (l' := #[sI 23, sI 27]) rfl ?_
    refine XS.iloadN X0.here hx rfl (hD 14 rfl) rfl ?_
    refine XS.iconst X0.here hx rfl (hD 15 rfl) ?_
    refine XS.iushr X0.here hx rfl (hD 16 rfl) rfl ?_
    refine XS.istoreN X0.here hx rfl (hD 17 rfl) rfl (l' := #[sI 1, sI 27]) rfl ?_
    refine XS.iloadN X0.here hx rfl (hD 18 rfl) rfl ?_
    refine XS.iconst X0.here hx rfl (hD 19 rfl) ?_
    refine XS.icmpYes X0.here hx rfl (pc0 := 63) (pc' := 73) rfl (hD 20 rfl) rfl (by decide) (by decide) (by decide) ?_
    refine XS.iloadN X0.here hx rfl (hD 21 rfl) rfl ?_
    refine XS.iloadN X0.here hx rfl (hD 22 rfl) rfl ?_
    refine XS.iconst X0.here hx rfl (hD 23 rfl) ?_
    refine XS.iushr X0.here hx rfl (hD 24 rfl) rfl ?_
    refine XS.isub X0.here hx rfl (hD 25 rfl) rfl ?_
    exact k)
  obtain ⟨fs, hr, hrun, hended, hWm, hsame⟩ := X0.leave (v := some (.int (27 : Int32))) (fun h => by rw [Bd.returns] at h; cases h)
  refine ⟨_, _, pre0 _ (K1 _ (retI X0 hx Bd.returns (hD 26 rfl) hr)), hrun, hended, _, _, rfl, ?_, ⟨_, rfl⟩, hWm, hsame.mono (by decide) (by decide)⟩
  show QrmIN23 Z  Rr n0 _ s₁.heap _
  rw [e0]
  exact ⟨rfl, N0, W0⟩
abbrev y_lnl : MethodName := ⟨"java/lang/Long", "numberOfLeadingZeros", "(J)I"⟩
theorem pd_lnl : parseMethodDescriptor "(J)I" = some ⟨[.long], some .int⟩ := by decide +kernel
theorem pn_Long : plainName "java/lang/Long" = true := by first | (simp [plainName, overriddenIn]; done) | decide +kernel
def Ld_lnl : List (Nat × Instr × Nat) := [(0, .lload_n 0, 1), (1, .bipush 32, 2), (3, .lushr, 1), (4, .l2i, 1), (5, .istore_n 2, 1), (6, .iload_n 2, 1), (7, .ifCond .ne 14, 3), (10, .bipush 32, 2), (12, .lload_n 0, 1), (13, .l2i, 1), (14, .invokestatic 308, 3), (17, .iadd, 1), (18, .goto 7, 3), (25, .ireturn, 1)]
set_option maxRecDepth 65536 in
theorem d_lnl : ∀ x ∈ Ld_lnl, decode jdk_35_method_48_code x.1 = .ok (x.2.1, x.2.2) := by decide +kernel
theorem ef_rmLN19 (m : MethodId)  : entryFrame m #[(.long (19 : Int64))] 3 = mkF m 0 #[.val (.long (19 : Int64)), .second, .unset] [] := by first | (simp [entryFrame, mkF, argsToLocals, Value.category]; done) | rfl
def QrmLN19 (Z : State)  (Rr : List (Addr × (Cell → Prop))) (n0 : Nat) (v : Option Value) (h : Heap) (L : List Loc) : Prop := v = some (.int (59 : Int32)) ∧ Fr n0 L ∧ Wo n0 h (Rr)
set_option maxRecDepth 65536 in
set_option maxHeartbeats 40000000 in
theorem rmLN19 (l : Launch) (Z : State) (a0 : Array Value) (hw : ∀ d ∈ tables_1, d.before a0 Z = true) (ws : List Jvm.Cond)  (Rr : List (Addr × (Cell → Prop))) (h0 : Heap) (n0 : Nat) (W0 : Wo n0 h0 (Rr)) :
    MetFree l y_lnl (head1 (Jvm.Cond.code y_lnl jdk_35_method_48_code 3 (some .int) :: ws) ({ frames := 1, cells := 0, slots := 0, locals := 14 } : Room)) (fun aa U => aa = #[(.long (19 : Int64))] ∧ Z.Warmed39 U.vm ∧ U.heap = h0) (fun _ _ _ _ _ => True) (fun _ U ou U' => ∃ v L, ou = .returned v ∧ QrmLN19 Z  Rr n0 v U'.heap L ∧ FrameEnd U ou U' L ({ frames := 1, cells := 0, slots := 0, locals := 14 } : Room).cells ({ frames := 1, cells := 0, slots := 0, locals := 14 } : Room).slots) := by
  refine MetFree.of_bodySF (plainFor_of_name pn_Long) hisR ?_
  intro p e s m args below meth c s₁ Bd hml0 hP hK
  obtain ⟨rfl, hZ, hh⟩ := hP
  have hx := Bd.exec
  have hby := Bd.bytes
  have hml : c.maxLocals = 3 := hml0
  have hD : ∀ (k : Nat) {pc : Nat} {i : Instr} {n : Nat}, Ld_lnl[k]? = some (pc, i, n) → decode c.code pc = .ok (i, n) := by intro k pc i n h; exact hb hby (d_lnl (pc, i, n) (mi k h))
  have hown : s.vm.findClass "java/lang/Long" = some m.cls := findClass_of_methodNamed Bd.named
  have hnm := (name_of_methodNamed Bd.named Bd.method).1
  have X0 : Stand p l e ({ frames := 1, cells := 0, slots := 0, locals := 14 } : Room) s m #[(.long (19 : Int64))] below meth c s₁ [] 0 0 := Stand.of_body Bd
  have e0 : s₁.heap = h0 := by rw [← hh, Bd.state]; rfl
  have N0 := Fr.nil n0
  obtain ⟨F0, hF0⟩ : ∃ F, F = mkF m 0 #[.val (.long (19 : Int64)), .second, .unset] [] := ⟨_, rfl⟩
  have pre0 : ∀ t, Steps p.tables e below (s₁.setTop F0) t → Steps p.tables e below (s₁.setTop (entryFrame m #[(.long (19 : Int64))] 3)) t := fun t k => castTop ((ef_rmLN19 m ).trans hF0.symm) k
  have K0 : Rch p e below s₁ F0 s₁ (mkF m 0 #[.val (.long (19 : Int64)), .second, .unset] []) := fun t k => castTop hF0 k
  have K1 : Rc K0 s₁ (mkF m 14 #[sJ 19, sV, sI 0] [(kI 19), (kI 32)]) := fun t k => K0 t (by
    refine XS.lloadN X0.here hx rfl (hD 0 rfl) rfl ?_
    refine XS.bipush X0.here hx rfl (hD 1 rfl) ?_
    refine XS.lushr X0.here hx rfl (hD 2 rfl) rfl ?_
    refine XS.l2i X0.here hx rfl (hD 3 rfl) rfl ?_
    refine XS.istoreN X0.here hx rfl (hD 4 rfl) rfl (l' := #[sJ 19, sV, sI 0]) rfl ?_
    refine XS.iloadN X0.here hx rfl (hD 5 rfl) rfl ?_
    refine XS.ifNo X0.here hx rfl (hD 6 rfl) rfl (by decide) ?_
    refine XS.bipush X0.here hx rfl (hD 7 rfl) ?_
    refine XS.lloadN X0.here hx rfl (hD 8 rfl) rfl ?_
    refine XS.l2i X0.here hx rfl (hD 9 rfl) rfl ?_
    exact k)
  obtain ⟨_, _, ⟨T2, L2, k2, n2⟩, -, X2, ⟨Lc2, hQ2, l2, y2, z2⟩, st2⟩ := Jvm.LawKit.callS X0 hx (y := y_inl) hown (mvT hZ (hw _ (mi 148 rfl))) (mvT hZ (hw _ (mi 149 rfl))) (mvT hZ (hw _ (mi 150 rfl))) (mvT hZ (hw _ (mi 151 rfl))) (by decide) (backOf (W := 1) (rmIN19 l Z a0 hw []  (Rr) h0 n0 W0) hZ (hw _ (mi 151 rfl)) (hw _ (mi 150 rfl)) (by decide) (by decide)) (g := K1.g) rfl (by rw [hml]; rfl) (argsL := [(.int (19 : Int32))]) (rest := [(.int (32 : Int32))]) (lenOf pd_inl rfl) rfl (by show 2 * 0 + _ ≤ _; exact Nat.le_of_eq rfl) (hD 10 rfl) (fun _ _ => ⟨rfl, e0, (by decide : 0 + 0 ≤ _), (by decide : 0 + 0 ≤ _)⟩)
  dsimp only [Pt.U, Pt.locs, Pt.cells, Pt.slots] at X2 l2 y2 z2 st2 hQ2
  subst l2 y2 z2
  obtain ⟨rfl, N2q, W2⟩ := hQ2
  have N2 := Fr.app N0 N2q
  have K3 : Rc K0 T2 (mkF m 25 #[sJ 19, sV, sI 0] [(kI 59)]) := fun t k => K1 t (st2 t (by
    refine XS.iadd X2.here hx rfl (hD 11 rfl) rfl ?_
    refine XS.goto X2.here hx rfl (pc0 := 18) (pc' := 25) rfl (hD 12 rfl) (by decide) (by decide) ?_
    exact k))
  obtain ⟨fs, hr, hrun, hended, hWm, hsame⟩ := X2.leave (v := some (.int (59 : Int32))) (fun h => by rw [Bd.returns] at h; cases h)
  refine ⟨_, _, pre0 _ (K3 _ (retI X2 hx Bd.returns (hD 13 rfl) hr)), hrun, hended, _, _, rfl, ?_, ⟨_, rfl⟩, hWm, hsame.mono (by decide) (by decide)⟩
  show QrmLN19 Z  Rr n0 _ T2.heap _
  exact ⟨rfl, N2, W2⟩
theorem ef_rmLN23 (m : MethodId)  : entryFrame m #[(.long (23 : Int64))] 3 = mkF m 0 #[.val (.long (23 : Int64)), .second, .unset] [] := by first | (simp [entryFrame, mkF, argsToLocals, Value.category]; done) | rfl
def QrmLN23 (Z : State)  (Rr : List (Addr × (Cell → Prop))) (n0 : Nat) (v : Option Value) (h : Heap) (L : List Loc) : Prop := v = some (.int (59 : Int32)) ∧ Fr n0 L ∧ Wo n0 h (Rr)
set_option maxRecDepth 65536 in
set_option maxHeartbeats 40000000 in
theorem rmLN23 (l : Launch) (Z : State) (a0 : Array Value) (hw : ∀ d ∈ tables_1, d.before a0 Z = true) (ws : List Jvm.Cond)  (Rr : List (Addr × (Cell → Prop))) (h0 : Heap) (n0 : Nat) (W0 : Wo n0 h0 (Rr)) :
    MetFree l y_lnl (head1 (Jvm.Cond.code y_lnl jdk_35_method_48_code 3 (some .int) :: ws) ({ frames := 1, cells := 0, slots := 0, locals := 14 } : Room)) (fun aa U => aa = #[(.long (23 : Int64))] ∧ Z.Warmed39 U.vm ∧ U.heap = h0) (fun _ _ _ _ _ => True) (fun _ U ou U' => ∃ v L, ou = .returned v ∧ QrmLN23 Z  Rr n0 v U'.heap L ∧ FrameEnd U ou U' L ({ frames := 1, cells := 0, slots := 0, locals := 14 } : Room).cells ({ frames := 1, cells := 0, slots := 0, locals := 14 } : Room).slots) := by
  refine MetFree.of_bodySF (plainFor_of_name pn_Long) hisR ?_
  intro p e s m args below meth c s₁ Bd hml0 hP hK
  obtain ⟨rfl, hZ, hh⟩ := hP
  have hx := Bd.exec
  have hby := Bd.bytes
  have hml : c.maxLocals = 3 := hml0
  have hD : ∀ (k : Nat) {pc : Nat} {i : Instr} {n : Nat}, Ld_lnl[k]? = some (pc, i, n) → decode c.code pc = .ok (i, n) := by intro k pc i n h; exact hb hby (d_lnl (pc, i, n) (mi k h))
  have hown : s.vm.findClass "java/lang/Long" = some m.cls := findClass_of_methodNamed Bd.named
  have hnm := (name_of_methodNamed Bd.named Bd.method).1
  have X0 : Stand p l e ({ frames := 1, cells := 0, slots := 0, locals := 14 } : Room) s m #[(.long (23 : Int64))] below meth c s₁ [] 0 0 := Stand.of_body Bd
  have e0 : s₁.heap = h0 := by rw [← hh, Bd.state]; rfl
  have N0 := Fr.nil n0
  obtain ⟨F0, hF0⟩ : ∃ F, F = mkF m 0 #[.val (.long (23 : Int64)), .second, .unset] [] := ⟨_, rfl⟩
  have pre0 : ∀ t, Steps p.tables e below (s₁.setTop F0) t → Steps p.tables e below (s₁.setTop (entryFrame m #[(.long (23 : Int64))] 3)) t := fun t k => castTop ((ef_rmLN23 m ).trans hF0.symm) k
  have K0 : Rch p e below s₁ F0 s₁ (mkF m 0 #[.val (.long (23 : Int64)), .second, .unset] []) := fun t k => castTop hF0 k
  have K1 : Rc K0 s₁ (mkF m 14 #[sJ 23, sV, sI 0] [(kI 23), (kI 32)]) := fun t k => K0 t (by
    refine XS.lloadN X0.here hx rfl (hD 0 rfl) rfl ?_
    refine XS.bipush X0.here hx rfl (hD 1 rfl) ?_
    refine XS.lushr X0.here hx rfl (hD 2 rfl) rfl ?_
    refine XS.l2i X0.here hx rfl (hD 3 rfl) rfl ?_
    refine XS.istoreN X0.here hx rfl (hD 4 rfl) rfl (l' := #[sJ 23, sV, sI 0]) rfl ?_
    refine XS.iloadN X0.here hx rfl (hD 5 rfl) rfl ?_
    refine XS.ifNo X0.here hx rfl (hD 6 rfl) rfl (by decide) ?_
    refine XS.bipush X0.here hx rfl (hD 7 rfl) ?_
    refine XS.lloadN X0.here hx rfl (hD 8 rfl) rfl ?_
    refine XS.l2i X0.here hx rfl (hD 9 rfl) rfl ?_
    exact k)
  obtain ⟨_, _, ⟨T2, L2, k2, n2⟩, -, X2, ⟨Lc2, hQ2, l2, y2, z2⟩, st2⟩ := Jvm.LawKit.callS X0 hx (y := y_inl) hown (mvT hZ (hw _ (mi 148 rfl))) (mvT hZ (hw _ (mi 149 rfl))) (mvT hZ (hw _ (mi 150 rfl))) (mvT hZ (hw _ (mi 151 rfl))) (by decide) (backOf (W := 1) (rmIN23 l Z a0 hw []  (Rr) h0 n0 W0) hZ (hw _ (mi 151 rfl)) (hw _ (mi 150 rfl)) (by decide) (by decide)) (g := K1.g) rfl (by rw [hml]; rfl) (argsL := [(.int (23 : Int32))]) (rest := [(.int (32 : Int32))]) (lenOf pd_inl rfl) rfl (by show 2 * 0 + _ ≤ _; exact Nat.le_of_eq rfl) (hD 10 rfl) (fun _ _ => ⟨rfl, e0, (by decide : 0 + 0 ≤ _), (by decide : 0 + 0 ≤ _)⟩)
  dsimp only [Pt.U, Pt.locs, Pt.cells, Pt.slots] at X2 l2 y2 z2 st2 hQ2
  subst l2 y2 z2
  obtain ⟨rfl, N2q, W2⟩ := hQ2
  have N2 := Fr.app N0 N2q
  have K3 : Rc K0 T2 (mkF m 25 #[sJ 23, sV, sI 0] [(kI 59)]) := fun t k => K1 t (st2 t (by
    refine XS.iadd X2.here hx rfl (hD 11 rfl) rfl ?_
    refine XS.goto X2.here hx rfl (pc0 := 18) (pc' := 25) rfl (hD 12 rfl) (by decide) (by decide) ?_
    exact k))
  obtain ⟨fs, hr, hrun, hended, hWm, hsame⟩ := X2.leave (v := some (.int (59 : Int32))) (fun h => by rw [Bd.returns] at h; cases h)
  refine ⟨_, _, pre0 _ (K3 _ (retI X2 hx Bd.returns (hD 13 rfl) hr)), hrun, hended, _, _, rfl, ?_, ⟨_, rfl⟩, hWm, hsame.mono (by decide) (by decide)⟩
  show QrmLN23 Z  Rr n0 _ T2.heap _
  exact ⟨rfl, N2, W2⟩
abbrev y_hob : MethodName := ⟨"java/lang/Long", "highestOneBit", "(J)J"⟩
theorem pd_hob : parseMethodDescriptor "(J)J" = some ⟨[.long], some .long⟩ := by decide +kernel
def Ld_hob : List (Nat × Instr × Nat) := [(0, .lload_n 0, 1), (1, .ldc2_w 168, 3), (4, .lload_n 0, 1), (5, .invokestatic 98, 3), (8, .lushr, 1), (9, .land, 1), (10, .lreturn, 1)]
set_option maxRecDepth 65536 in
theorem d_hob : ∀ x ∈ Ld_hob, decode jdk_35_method_46_code x.1 = .ok (x.2.1, x.2.2) := by decide +kernel
theorem ef_rmHO19 (m : MethodId)  : entryFrame m #[(.long (19 : Int64))] 2 = mkF m 0 #[.val (.long (19 : Int64)), .second] [] := by first | (simp [entryFrame, mkF, argsToLocals, Value.category]; done) | rfl
def QrmHO19 (Z : State)  (Rr : List (Addr × (Cell → Prop))) (n0 : Nat) (v : Option Value) (h : Heap) (L : List Loc) : Prop := v = some (.long (16 : Int64)) ∧ Fr n0 L ∧ Wo n0 h (Rr)
set_option maxRecDepth 65536 in
set_option maxHeartbeats 40000000 in
theorem rmHO19 (l : Launch) (Z : State) (a0 : Array Value) (hw : ∀ d ∈ tables_1, d.before a0 Z = true) (ws : List Jvm.Cond)  (Rr : List (Addr × (Cell → Prop))) (h0 : Heap) (n0 : Nat) (W0 : Wo n0 h0 (Rr)) :
    MetFree l y_hob (head1 (Jvm.Cond.code y_hob jdk_35_method_46_code 2 (some .long) :: ws) ({ frames := 2, cells := 0, slots := 0, locals := 32 } : Room)) (fun aa U => aa = #[(.long (19 : Int64))] ∧ Z.Warmed39 U.vm ∧ U.heap = h0) (fun _ _ _ _ _ => True) (fun _ U ou U' => ∃ v L, ou = .returned v ∧ QrmHO19 Z  Rr n0 v U'.heap L ∧ FrameEnd U ou U' L ({ frames := 2, cells := 0, slots := 0, locals := 32 } : Room).cells ({ frames := 2, cells := 0, slots := 0, locals := 32 } : Room).slots) := by
  refine MetFree.of_bodySF (plainFor_of_name pn_Long) hisR ?_
  intro p e s m args below meth c s₁ Bd hml0 hP hK
  obtain ⟨rfl, hZ, hh⟩ := hP
  have hx := Bd.exec
  have hby := Bd.bytes
  have hml : c.maxLocals = 2 := hml0
  have hD : ∀ (k : Nat) {pc : Nat} {i : Instr} {n : Nat}, Ld_hob[k]? = some (pc, i, n) → decode c.code pc = .ok (i, n) := by intro k pc i n h; exact hb hby (d_hob (pc, i, n) (mi k h))
  have hown : s.vm.findClass "java/lang/Long" = some m.cls := findClass_of_methodNamed Bd.named
  have hnm := (name_of_methodNamed Bd.named Bd.method).1
  have X0 : Stand p l e ({ frames := 2, cells := 0, slots := 0, locals := 32 } : Room) s m #[(.long (19 : Int64))] below meth c s₁ [] 0 0 := Stand.of_body Bd
  have e0 : s₁.heap = h0 := by rw [← hh, Bd.state]; rfl
  have N0 := Fr.nil n0
  obtain ⟨F0, hF0⟩ : ∃ F, F = mkF m 0 #[.val (.long (19 : Int64)), .second] [] := ⟨_, rfl⟩
  have pre0 : ∀ t, Steps p.tables e below (s₁.setTop F0) t → Steps p.tables e below (s₁.setTop (entryFrame m #[(.long (19 : Int64))] 2)) t := fun t k => castTop ((ef_rmHO19 m ).trans hF0.symm) k
  have K0 : Rch p e below s₁ F0 s₁ (mkF m 0 #[.val (.long (19 : Int64)), .second] []) := fun t k => castTop hF0 k
  have K1 : Rc K0 s₁ (mkF m 5 #[sJ 19, sV] [(kJ 19), (kJ (-9223372036854775808)), (kJ 19)]) := fun t k => K0 t (by
    refine XS.lloadN X0.here hx rfl (hD 0 rfl) rfl ?_
    refine X0.ldc2Long hx hown (mvT hZ (hw _ (mi 144 rfl))) (g := (mkF m 1 #[sJ 19, sV] [(kJ 19)])) rfl (hD 1 rfl) _ ?_
    refine XS.lloadN X0.here hx rfl (hD 2 rfl) rfl ?_
    exact k)
  obtain ⟨_, _, ⟨T2, L2, k2, n2⟩, -, X2, ⟨Lc2, hQ2, l2, y2, z2⟩, st2⟩ := Jvm.LawKit.callS X0 hx (y := y_lnl) hown (mvT hZ (hw _ (mi 145 rfl))) (mvT hZ (hw _ (mi 146 rfl))) (mvT hZ (hw _ (mi 142 rfl))) (mvT hZ (hw _ (mi 147 rfl))) (by decide) (backOf (W := 4) (rmLN19 l Z a0 hw []  (Rr) h0 n0 W0) hZ (hw _ (mi 147 rfl)) (hw _ (mi 142 rfl)) (by decide) (by decide)) (g := K1.g) rfl (by rw [hml]; rfl) (argsL := [(.long (19 : Int64))]) (rest := [(.long (-9223372036854775808 : Int64)), (.long (19 : Int64))]) (lenOf pd_lnl rfl) rfl (by show 2 * 0 + _ ≤ _; exact Nat.le_of_eq rfl) (hD 3 rfl) (fun _ _ => ⟨rfl, e0, (by decide : 0 + 0 ≤ _), (by decide : 0 + 0 ≤ _)⟩)
  dsimp only [Pt.U, Pt.locs, Pt.cells, Pt.slots] at X2 l2 y2 z2 st2 hQ2
  subst l2 y2 z2
  obtain ⟨rfl, N2q, W2⟩ := hQ2
  have N2 := Fr.app N0 N2q
  have K3 : Rc K0 T2 (mkF m 10 #[sJ 19, sV] [(kJ 16)]) := fun t k => K1 t (st2 t (by
    refine XS.lushr X2.here hx rfl (hD 4 rfl) rfl ?_
    refine XS.land X2.here hx rfl (hD 5 rfl) rfl ?_
    exact k))
  obtain ⟨fs, hr, hrun, hended, hWm, hsame⟩ := X2.leave (v := some (.long (16 : Int64))) (fun h => by rw [Bd.returns] at h; cases h)
  refine ⟨_, _, pre0 _ (K3 _ (Jvm.OwnKit.retL X2 hx Bd.returns (hD 6 rfl) hr)), hrun, hended, _, _, rfl, ?_, ⟨_, rfl⟩, hWm, hsame.mono (by decide) (by decide)⟩
  show QrmHO19 Z  Rr n0 _ T2.heap _
  exact ⟨rfl, N2, W2⟩
theorem ef_rmHO23 (m : MethodId)  : entryFrame m #[(.long (23 : Int64))] 2 = mkF m 0 #[.val (.long (23 : Int64)), .second] [] := by first | (simp [entryFrame, mkF, argsToLocals, Value.category]; done) | rfl
def QrmHO23 (Z : State)  (Rr : List (Addr × (Cell → Prop))) (n0 : Nat) (v : Option Value) (h : Heap) (L : List Loc) : Prop := v = some (.long (16 : Int64)) ∧ Fr n0 L ∧ Wo n0 h (Rr)
set_option maxRecDepth 65536 in
set_option maxHeartbeats 40000000 in
theorem rmHO23 (l : Launch) (Z : State) (a0 : Array Value) (hw : ∀ d ∈ tables_1, d.before a0 Z = true) (ws : List Jvm.Cond)  (Rr : List (Addr × (Cell → Prop))) (h0 : Heap) (n0 : Nat) (W0 : Wo n0 h0 (Rr)) :
    MetFree l y_hob (head1 (Jvm.Cond.code y_hob jdk_35_method_46_code 2 (some .long) :: ws) ({ frames := 2, cells := 0, slots := 0, locals := 32 } : Room)) (fun aa U => aa = #[(.long (23 : Int64))] ∧ Z.Warmed39 U.vm ∧ U.heap = h0) (fun _ _ _ _ _ => True) (fun _ U ou U' => ∃ v L, ou = .returned v ∧ QrmHO23 Z  Rr n0 v U'.heap L ∧ FrameEnd U ou U' L ({ frames := 2, cells := 0, slots := 0, locals := 32 } : Room).cells ({ frames := 2, cells := 0, slots := 0, locals := 32 } : Room).slots) := by
  refine MetFree.of_bodySF (plainFor_of_name pn_Long) hisR ?_
  intro p e s m args below meth c s₁ Bd hml0 hP hK
  obtain ⟨rfl, hZ, hh⟩ := hP
  have hx := Bd.exec
  have hby := Bd.bytes
  have hml : c.maxLocals = 2 := hml0
  have hD : ∀ (k : Nat) {pc : Nat} {i : Instr} {n : Nat}, Ld_hob[k]? = some (pc, i, n) → decode c.code pc = .ok (i, n) := by intro k pc i n h; exact hb hby (d_hob (pc, i, n) (mi k h))
  have hown : s.vm.findClass "java/lang/Long" = some m.cls := findClass_of_methodNamed Bd.named
  have hnm := (name_of_methodNamed Bd.named Bd.method).1
  have X0 : Stand p l e ({ frames := 2, cells := 0, slots := 0, locals := 32 } : Room) s m #[(.long (23 : Int64))] below meth c s₁ [] 0 0 := Stand.of_body Bd
  have e0 : s₁.heap = h0 := by rw [← hh, Bd.state]; rfl
  have N0 := Fr.nil n0
  obtain ⟨F0, hF0⟩ : ∃ F, F = mkF m 0 #[.val (.long (23 : Int64)), .second] [] := ⟨_, rfl⟩
  have pre0 : ∀ t, Steps p.tables e below (s₁.setTop F0) t → Steps p.tables e below (s₁.setTop (entryFrame m #[(.long (23 : Int64))] 2)) t := fun t k => castTop ((ef_rmHO23 m ).trans hF0.symm) k
  have K0 : Rch p e below s₁ F0 s₁ (mkF m 0 #[.val (.long (23 : Int64)), .second] []) := fun t k => castTop hF0 k
  have K1 : Rc K0 s₁ (mkF m 5 #[sJ 23, sV] [(kJ 23), (kJ (-9223372036854775808)), (kJ 23)]) := fun t k => K0 t (by
    refine XS.lloadN X0.here hx rfl (hD 0 rfl) rfl ?_
    refine X0.ldc2Long hx hown (mvT hZ (hw _ (mi 144 rfl))) (g := (mkF m 1 #[sJ 23, sV] [(kJ 23)])) rfl (hD 1 rfl) _ ?_
    refine XS.lloadN X0.here hx rfl (hD 2 rfl) rfl ?_
    exact k)
  obtain ⟨_, _, ⟨T2, L2, k2, n2⟩, -, X2, ⟨Lc2, hQ2, l2, y2, z2⟩, st2⟩ := Jvm.LawKit.callS X0 hx (y := y_lnl) hown (mvT hZ (hw _ (mi 145 rfl))) (mvT hZ (hw _ (mi 146 rfl))) (mvT hZ (hw _ (mi 142 rfl))) (mvT hZ (hw _ (mi 147 rfl))) (by decide) (backOf (W := 4) (rmLN23 l Z a0 hw []  (Rr) h0 n0 W0) hZ (hw _ (mi 147 rfl)) (hw _ (mi 142 rfl)) (by decide) (by decide)) (g := K1.g) rfl (by rw [hml]; rfl) (argsL := [(.long (23 : Int64))]) (rest := [(.long (-9223372036854775808 : Int64)), (.long (23 : Int64))]) (lenOf pd_lnl rfl) rfl (by show 2 * 0 + _ ≤ _; exact Nat.le_of_eq rfl) (hD 3 rfl) (fun _ _ => ⟨rfl, e0, (by decide : 0 + 0 ≤ _), (by decide : 0 + 0 ≤ _)⟩)
  dsimp only [Pt.U, Pt.locs, Pt.cells, Pt.slots] at X2 l2 y2 z2 st2 hQ2
  subst l2 y2 z2
  obtain ⟨rfl, N2q, W2⟩ := hQ2
  have N2 := Fr.app N0 N2q
  have K3 : Rc K0 T2 (mkF m 10 #[sJ 23, sV] [(kJ 16)]) := fun t k => K1 t (st2 t (by
    refine XS.lushr X2.here hx rfl (hD 4 rfl) rfl ?_
    refine XS.land X2.here hx rfl (hD 5 rfl) rfl ?_
    exact k))
  obtain ⟨fs, hr, hrun, hended, hWm, hsame⟩ := X2.leave (v := some (.long (16 : Int64))) (fun h => by rw [Bd.returns] at h; cases h)
  refine ⟨_, _, pre0 _ (K3 _ (Jvm.OwnKit.retL X2 hx Bd.returns (hD 6 rfl) hr)), hrun, hended, _, _, rfl, ?_, ⟨_, rfl⟩, hWm, hsame.mono (by decide) (by decide)⟩
  show QrmHO23 Z  Rr n0 _ T2.heap _
  exact ⟨rfl, N2, W2⟩
abbrev y_minl : MethodName := ⟨"java/lang/Math", "min", "(JJ)J"⟩
theorem pd_minl : parseMethodDescriptor "(JJ)J" = some ⟨[.long, .long], some .long⟩ := by decide +kernel
def Ld_minl : List (Nat × Instr × Nat) := [(0, .lload_n 0, 1), (1, .lload_n 2, 1), (2, .lcmp, 1), (3, .ifCond .gt 7, 3), (6, .lload_n 0, 1), (7, .goto 4, 3), (11, .lreturn, 1)]
set_option maxRecDepth 65536 in
theorem d_minl : ∀ x ∈ Ld_minl, decode jdk_29_method_70_code x.1 = .ok (x.2.1, x.2.2) := by decide +kernel
theorem ef_rmML (m : MethodId)  : entryFrame m #[(.long (4 : Int64)), (.long (2147483639 : Int64))] 4 = mkF m 0 #[.val (.long (4 : Int64)), .second, .val (.long (2147483639 : Int64)), .second] [] := by first | (simp [entryFrame, mkF, argsToLocals, Value.category]; done) | rfl
def QrmML (Z : State)  (Rr : List (Addr × (Cell → Prop))) (n0 : Nat) (v : Option Value) (h : Heap) (L : List Loc) : Prop := v = some (.long (4 : Int64)) ∧ Fr n0 L ∧ Wo n0 h (Rr)
set_option maxRecDepth 65536 in
set_option maxHeartbeats 40000000 in
theorem rmML (l : Launch) (Z : State) (a0 : Array Value) (hw : ∀ d ∈ tables_1, d.before a0 Z = true) (ws : List Jvm.Cond)  (Rr : List (Addr × (Cell → Prop))) (h0 : Heap) (n0 : Nat) (W0 : Wo n0 h0 (Rr)) :
    MetFree l y_minl (head1 (Jvm.Cond.code y_minl jdk_29_method_70_code 4 (some .long) :: ws) ({ frames := 0, cells := 0, slots := 0, locals := 0 } : Room)) (fun aa U => aa = #[(.long (4 : Int64)), (.long (2147483639 : Int64))] ∧ Z.Warmed39 U.vm ∧ U.heap = h0) (fun _ _ _ _ _ => True) (fun _ U ou U' => ∃ v L, ou = .returned v ∧ QrmML Z  Rr n0 v U'.heap L ∧ FrameEnd U ou U' L ({ frames := 0, cells := 0, slots := 0, locals := 0 } : Room).cells ({ frames := 0, cells := 0, slots := 0, locals := 0 } : Room).slots) := by
  refine MetFree.of_bodySF (Jvm.Free.JP.mathPlain rfl (by decide +kernel)) hisR ?_
  intro p e s m args below meth c s₁ Bd hml0 hP hK
  obtain ⟨rfl, hZ, hh⟩ := hP
  have hx := Bd.exec
  have hby := Bd.bytes
  have hml : c.maxLocals = 4 := hml0
  have hD : ∀ (k : Nat) {pc : Nat} {i : Instr} {n : Nat}, Ld_minl[k]? = some (pc, i, n) → decode c.code pc = .ok (i, n) := by intro k pc i n h; exact hb hby (d_minl (pc, i, n) (mi k h))
  have hown : s.vm.findClass "java/lang/Math" = some m.cls := findClass_of_methodNamed Bd.named
  have hnm := (name_of_methodNamed Bd.named Bd.method).1
  have X0 : Stand p l e ({ frames := 0, cells := 0, slots := 0, locals := 0 } : Room) s m #[(.long (4 : Int64)), (.long (2147483639 : Int64))] below meth c s₁ [] 0 0 := Stand.of_body Bd
  have e0 : s₁.heap = h0 := by rw [← hh, Bd.state]; rfl
  have N0 := Fr.nil n0
  obtain ⟨F0, hF0⟩ : ∃ F, F = mkF m 0 #[.val (.long (4 : Int64)), .second, .val (.long (2147483639 : Int64)), .second] [] := ⟨_, rfl⟩
  have pre0 : ∀ t, Steps p.tables e below (s₁.setTop F0) t → Steps p.tables e below (s₁.setTop (entryFrame m #[(.long (4 : Int64)), (.long (2147483639 : Int64))] 4)) t := fun t k => castTop ((ef_rmML m ).trans hF0.symm) k
  have K0 : Rch p e below s₁ F0 s₁ (mkF m 0 #[.val (.long (4 : Int64)), .second, .val (.long (2147483639 : Int64)), .second] []) := fun t k => castTop hF0 k
  have K1 : Rc K0 s₁ (mkF m 11 #[sJ 4, sV, sJ 2147483639, sV] [(kJ 4)]) := fun t k => K0 t (by
    refine XS.lloadN X0.here hx rfl (hD 0 rfl) rfl ?_
    refine XS.lloadN X0.here hx rfl (hD 1 rfl) rfl ?_
    refine XS.lcmp X0.here hx rfl (hD 2 rfl) rfl ?_
    refine XS.ifNo X0.here hx rfl (hD 3 rfl) rfl (by decide) ?_
    refine XS.lloadN X0.here hx rfl (hD 4 rfl) rfl ?_
    refine XS.goto X0.here hx rfl (pc0 := 7) (pc' := 11) rfl (hD 5 rfl) (by decide) (by decide) ?_
    exact k)
  obtain ⟨fs, hr, hrun, hended, hWm, hsame⟩ := X0.leave (v := some (.long (4 : Int64))) (fun h => by rw [Bd.returns] at h; cases h)
  refine ⟨_, _, pre0 _ (K1 _ (Jvm.OwnKit.retL X0 hx Bd.returns (hD 6 rfl) hr)), hrun, hended, _, _, rfl, ?_, ⟨_, rfl⟩, hWm, hsame.mono (by decide) (by decide)⟩
  show QrmML Z  Rr n0 _ s₁.heap _
  rw [e0]
  exact ⟨rfl, N0, W0⟩
abbrev y_fil : MethodName := ⟨"com/example/sambre/sambre/engine/ArrayLengths", "filling", "(JI)I"⟩
theorem pd_fil : parseMethodDescriptor "(JI)I" = some ⟨[.long, .int], some .int⟩ := by decide +kernel
theorem pn_ArrayLengths : plainName "com/example/sambre/sambre/engine/ArrayLengths" = true := by first | (simp [plainName, overriddenIn]; done) | decide +kernel
def Ld_fil : List (Nat × Instr × Nat) := [(0, .lload_n 0, 1), (1, .ldc2_w 11, 3), (4, .lsub, 1), (5, .iload_n 2, 1), (6, .i2l, 1), (7, .ldiv, 1), (8, .ldc2_w 13, 3), (11, .invokestatic 15, 3), (14, .l2i, 1), (15, .ireturn, 1)]
set_option maxRecDepth 65536 in
theorem d_fil : ∀ x ∈ Ld_fil, decode prog_6_method_2_code x.1 = .ok (x.2.1, x.2.2) := by decide +kernel
theorem ef_rmFI (m : MethodId)  : entryFrame m #[(.long (32 : Int64)), (.int (4 : Int32))] 3 = mkF m 0 #[.val (.long (32 : Int64)), .second, .val (.int (4 : Int32))] [] := by first | (simp [entryFrame, mkF, argsToLocals, Value.category]; done) | rfl
def QrmFI (Z : State)  (Rr : List (Addr × (Cell → Prop))) (n0 : Nat) (v : Option Value) (h : Heap) (L : List Loc) : Prop := v = some (.int (4 : Int32)) ∧ Fr n0 L ∧ Wo n0 h (Rr)
set_option maxRecDepth 65536 in
set_option maxHeartbeats 40000000 in
theorem rmFI (l : Launch) (Z : State) (a0 : Array Value) (hw : ∀ d ∈ tables_1, d.before a0 Z = true) (ws : List Jvm.Cond)  (Rr : List (Addr × (Cell → Prop))) (h0 : Heap) (n0 : Nat) (W0 : Wo n0 h0 (Rr)) :
    MetFree l y_fil (head1 (Jvm.Cond.code y_fil prog_6_method_2_code 3 (some .int) :: ws) ({ frames := 1, cells := 0, slots := 0, locals := 15 } : Room)) (fun aa U => aa = #[(.long (32 : Int64)), (.int (4 : Int32))] ∧ Z.Warmed39 U.vm ∧ U.heap = h0) (fun _ _ _ _ _ => True) (fun _ U ou U' => ∃ v L, ou = .returned v ∧ QrmFI Z  Rr n0 v U'.heap L ∧ FrameEnd U ou U' L ({ frames := 1, cells := 0, slots := 0, locals := 15 } : Room).cells ({ frames := 1, cells := 0, slots := 0, locals := 15 } : Room).slots) := by
  refine MetFree.of_bodySF (plainFor_of_name pn_ArrayLengths) hisR ?_
  intro p e s m args below meth c s₁ Bd hml0 hP hK
  obtain ⟨rfl, hZ, hh⟩ := hP
  have hx := Bd.exec
  have hby := Bd.bytes
  have hml : c.maxLocals = 3 := hml0
  have hD : ∀ (k : Nat) {pc : Nat} {i : Instr} {n : Nat}, Ld_fil[k]? = some (pc, i, n) → decode c.code pc = .ok (i, n) := by intro k pc i n h; exact hb hby (d_fil (pc, i, n) (mi k h))
  have hown : s.vm.findClass "com/example/sambre/sambre/engine/ArrayLengths" = some m.cls := findClass_of_methodNamed Bd.named
  have hnm := (name_of_methodNamed Bd.named Bd.method).1
  have X0 : Stand p l e ({ frames := 1, cells := 0, slots := 0, locals := 15 } : Room) s m #[(.long (32 : Int64)), (.int (4 : Int32))] below meth c s₁ [] 0 0 := Stand.of_body Bd
  have e0 : s₁.heap = h0 := by rw [← hh, Bd.state]; rfl
  have N0 := Fr.nil n0
  obtain ⟨F0, hF0⟩ : ∃ F, F = mkF m 0 #[.val (.long (32 : Int64)), .second, .val (.int (4 : Int32))] [] := ⟨_, rfl⟩
  have pre0 : ∀ t, Steps p.tables e below (s₁.setTop F0) t → Steps p.tables e below (s₁.setTop (entryFrame m #[(.long (32 : Int64)), (.int (4 : Int32))] 3)) t := fun t k => castTop ((ef_rmFI m ).trans hF0.symm) k
  have K0 : Rch p e below s₁ F0 s₁ (mkF m 0 #[.val (.long (32 : Int64)), .second, .val (.int (4 : Int32))] []) := fun t k => castTop hF0 k
  have K1 : Rc K0 s₁ (mkF m 11 #[sJ 32, sV, sI 4] [(kJ 2147483639), (kJ 4)]) := fun t k => K0 t (by
    refine XS.lloadN X0.here hx rfl (hD 0 rfl) rfl ?_
    refine X0.ldc2Long hx hown (mvT hZ (hw _ (mi 139 rfl))) (g := (mkF m 1 #[sJ 32, sV, sI 4] [(kJ 32)])) rfl (hD 1 rfl) _ ?_
    refine XS.lsub X0.here hx rfl (hD 2 rfl) rfl ?_
    refine XS.iloadN X0.here hx rfl (hD 3 rfl) rfl ?_
    refine XS.i2l X0.here hx rfl (hD 4 rfl) rfl ?_
    refine XS.ldiv X0.here hx rfl (hD 5 rfl) rfl (by decide) ?_
    refine X0.ldc2Long hx hown (mvT hZ (hw _ (mi 156 rfl))) (g := (mkF m 8 #[sJ 32, sV, sI 4] [(kJ 4)])) rfl (hD 6 rfl) _ ?_
    exact k)
  obtain ⟨_, _, ⟨T2, L2, k2, n2⟩, -, X2, ⟨Lc2, hQ2, l2, y2, z2⟩, st2⟩ := Jvm.LawKit.callS X0 hx (y := y_minl) hown (mvT hZ (hw _ (mi 157 rfl))) (mvT hZ (hw _ (mi 158 rfl))) (mvT hZ (hw _ (mi 159 rfl))) (mvT hZ (hw _ (mi 160 rfl))) (by decide) (backOf (W := 0) (rmML l Z a0 hw []  (Rr) h0 n0 W0) hZ (hw _ (mi 160 rfl)) (hw _ (mi 159 rfl)) (by decide) (by decide)) (g := K1.g) rfl (by rw [hml]; rfl) (argsL := [(.long (4 : Int64)), (.long (2147483639 : Int64))]) (rest := []) (lenOf pd_minl rfl) rfl (by show 2 * 0 + _ ≤ _; exact Nat.le_of_eq rfl) (hD 7 rfl) (fun _ _ => ⟨rfl, e0, (by decide : 0 + 0 ≤ _), (by decide : 0 + 0 ≤ _)⟩)
  dsimp only [Pt.U, Pt.locs, Pt.cells, Pt.slots] at X2 l2 y2 z2 st2 hQ2
  subst l2 y2 z2
  obtain ⟨rfl, N2q, W2⟩ := hQ2
  have N2 := Fr.app N0 N2q
  have K3 : Rc K0 T2 (mkF m 15 #[sJ 32, sV, sI 4] [(kI 4)]) := fun t k => K1 t (st2 t (XS.l2i X2.here hx rfl (hD 8 rfl) rfl k))
  obtain ⟨fs, hr, hrun, hended, hWm, hsame⟩ := X2.leave (v := some (.int (4 : Int32))) (fun h => by rw [Bd.returns] at h; cases h)
  refine ⟨_, _, pre0 _ (K3 _ (retI X2 hx Bd.returns (hD 9 rfl) hr)), hrun, hended, _, _, rfl, ?_, ⟨_, rfl⟩, hWm, hsame.mono (by decide) (by decide)⟩
  show QrmFI Z  Rr n0 _ T2.heap _
  exact ⟨rfl, N2, W2⟩
abbrev y_atl : MethodName := ⟨"com/example/sambre/sambre/engine/ArrayLengths", "atLeast", "(II)I"⟩
theorem pd_atl : parseMethodDescriptor "(II)I" = some ⟨[.int, .int], some .int⟩ := by decide +kernel
def Ld_atl : List (Nat × Instr × Nat) := [(0, .ldc2_w 11, 3), (3, .iload_n 0, 1), (4, .i2l, 1), (5, .iload_n 1, 1), (6, .i2l, 1), (7, .lmul, 1), (8, .ladd, 1), (9, .lstore_n 2, 1), (10, .lload_n 2, 1), (11, .lconst 1, 1), (12, .lsub, 1), (13, .invokestatic 21, 3), (16, .iconst 1, 1), (17, .lshl, 1), (18, .iload_n 1, 1), (19, .invokestatic 27, 3), (22, .ireturn, 1)]
set_option maxRecDepth 65536 in
theorem d_atl : ∀ x ∈ Ld_atl, decode prog_6_method_3_code x.1 = .ok (x.2.1, x.2.2) := by decide +kernel
theorem ef_rmAL1 (m : MethodId)  : entryFrame m #[(.int (1 : Int32)), (.int (4 : Int32))] 4 = mkF m 0 #[.val (.int (1 : Int32)), .val (.int (4 : Int32)), .unset, .unset] [] := by first | (simp [entryFrame, mkF, argsToLocals, Value.category]; done) | rfl
def QrmAL1 (Z : State)  (Rr : List (Addr × (Cell → Prop))) (n0 : Nat) (v : Option Value) (h : Heap) (L : List Loc) : Prop := v = some (.int (4 : Int32)) ∧ Fr n0 L ∧ Wo n0 h (Rr)
set_option maxRecDepth 65536 in
set_option maxHeartbeats 40000000 in
theorem rmAL1 (l : Launch) (Z : State) (a0 : Array Value) (hw : ∀ d ∈ tables_1, d.before a0 Z = true) (ws : List Jvm.Cond)  (Rr : List (Addr × (Cell → Prop))) (h0 : Heap) (n0 : Nat) (W0 : Wo n0 h0 (Rr)) :
    MetFree l y_atl (head1 (Jvm.Cond.code y_atl prog_6_method_3_code 4 (some .int) :: ws) ({ frames := 3, cells := 0, slots := 0, locals := 45 } : Room)) (fun aa U => aa = #[(.int (1 : Int32)), (.int (4 : Int32))] ∧ Z.Warmed39 U.vm ∧ U.heap = h0) (fun _ _ _ _ _ => True) (fun _ U ou U' => ∃ v L, ou = .returned v ∧ QrmAL1 Z  Rr n0 v U'.heap L ∧ FrameEnd U ou U' L ({ frames := 3, cells := 0, slots := 0, locals := 45 } : Room).cells ({ frames := 3, cells := 0, slots := 0, locals := 45 } : Room).slots) := by
  refine MetFree.of_bodySF (plainFor_of_name pn_ArrayLengths) hisR ?_
  intro p e s m args below meth c s₁ Bd hml0 hP hK
  obtain ⟨rfl, hZ, hh⟩ := hP
  have hx := Bd.exec
  have hby := Bd.bytes
  have hml : c.maxLocals = 4 := hml0
  have hD : ∀ (k : Nat) {pc : Nat} {i : Instr} {n : Nat}, Ld_atl[k]? = some (pc, i, n) → decode c.code pc = .ok (i, n) := by intro k pc i n h; exact hb hby (d_atl (pc, i, n) (mi k h))
  have hown : s.vm.findClass "com/example/sambre/sambre/engine/ArrayLengths" = some m.cls := findClass_of_methodNamed Bd.named
  have hnm := (name_of_methodNamed Bd.named Bd.method).1
  have X0 : Stand p l e ({ frames := 3, cells := 0, slots := 0, locals := 45 } : Room) s m #[(.int (1 : Int32)), (.int (4 : Int32))] below meth c s₁ [] 0 0 := Stand.of_body Bd
  have e0 : s₁.heap = h0 := by rw [← hh, Bd.state]; rfl
  have N0 := Fr.nil n0
  obtain ⟨F0, hF0⟩ : ∃ F, F = mkF m 0 #[.val (.int (1 : Int32)), .val (.int (4 : Int32)), .unset, .unset] [] := ⟨_, rfl⟩
  have pre0 : ∀ t, Steps p.tables e below (s₁.setTop F0) t → Steps p.tables e below (s₁.setTop (entryFrame m #[(.int (1 : Int32)), (.int (4 : Int32))] 4)) t := fun t k => castTop ((ef_rmAL1 m ).trans hF0.symm) k
  have K0 : Rch p e below s₁ F0 s₁ (mkF m 0 #[.val (.int (1 : Int32)), .val (.int (4 : Int32)), .unset, .unset] []) := fun t k => castTop hF0 k
  have K1 : Rc K0 s₁ (mkF m 13 #[sI 1, sI 4, sJ 20, sV] [(kJ 19)]) := fun t k => K0 t (by
    refine X0.ldc2Long hx hown (mvT hZ (hw _ (mi 139 rfl))) (g := (mkF m 0 #[sI 1, sI 4, sU, sU] [])) rfl (hD 0 rfl) _ ?_
    refine XS.iloadN X0.here hx rfl (hD 1 rfl) rfl ?_
    refine XS.i2l X0.here hx rfl (hD 2 rfl) rfl ?_
    refine XS.iloadN X0.here hx rfl (hD 3 rfl) rfl ?_
    refine XS.i2l X0.here hx rfl (hD 4 rfl) rfl ?_
    refine XS.lmul X0.here hx rfl (hD 5 rfl) rfl ?_
    refine XS.ladd X0.here hx rfl (hD 6 rfl) rfl ?_
    refine XS.lstoreN X0.here hx rfl (hD 7 rfl) rfl (l' := #[sI 1, sI 4, sJ 20, sV]) rfl ?_
    refine XS.lloadN X0.here hx rfl (hD 8 rfl) rfl ?_
    refine XS.lconst X0.here hx rfl (hD 9 rfl) ?_
    refine XS.lsub X0.here hx rfl (hD 10 rfl) rfl ?_
    exact k)
  obtain ⟨_, _, ⟨T2, L2, k2, n2⟩, -, X2, ⟨Lc2, hQ2, l2, y2, z2⟩, st2⟩ := Jvm.LawKit.callS X0 hx (y := y_hob) hown (mvT hZ (hw _ (mi 140 rfl))) (mvT hZ (hw _ (mi 141 rfl))) (mvT hZ (hw _ (mi 142 rfl))) (mvT hZ (hw _ (mi 143 rfl))) (by decide) (backOf (W := 0) (rmHO19 l Z a0 hw []  (Rr) h0 n0 W0) hZ (hw _ (mi 143 rfl)) (hw _ (mi 142 rfl)) (by decide) (by decide)) (g := K1.g) rfl (by rw [hml]; rfl) (argsL := [(.long (19 : Int64))]) (rest := []) (lenOf pd_hob rfl) rfl (by show 2 * 0 + _ ≤ _; exact Nat.le_of_eq rfl) (hD 11 rfl) (fun _ _ => ⟨rfl, e0, (by decide : 0 + 0 ≤ _), (by decide : 0 + 0 ≤ _)⟩)
  dsimp only [Pt.U, Pt.locs, Pt.cells, Pt.slots] at X2 l2 y2 z2 st2 hQ2
  subst l2 y2 z2
  obtain ⟨rfl, N2q, W2⟩ := hQ2
  have N2 := Fr.app N0 N2q
  have K3 : Rc K0 T2 (mkF m 19 #[sI 1, sI 4, sJ 20, sV] [(kI 4), (kJ 32)]) := fun t k => K1 t (st2 t (by
    refine XS.iconst X2.here hx rfl (hD 12 rfl) ?_
    refine XS.lshl X2.here hx rfl (hD 13 rfl) rfl ?_
    refine XS.iloadN X2.here hx rfl (hD 14 rfl) rfl ?_
    exact k))
  obtain ⟨_, _, ⟨T4, L4, k4, n4⟩, -, X4, ⟨Lc4, hQ4, l4, y4, z4⟩, st4⟩ := Jvm.LawKit.callS X2 hx (y := y_fil) hown (mvT hZ (hw _ (mi 153 rfl))) (mvT hZ (hw _ (mi 154 rfl))) (mvT hZ (hw _ (mi 137 rfl))) (mvT hZ (hw _ (mi 155 rfl))) (by decide) (backOf (W := 0) (rmFI l Z a0 hw []  (Rr) T2.heap n0 W2) hZ (hw _ (mi 155 rfl)) (hw _ (mi 137 rfl)) (by decide) (by decide)) (g := K3.g) rfl (by rw [hml]; rfl) (argsL := [(.long (32 : Int64)), (.int (4 : Int32))]) (rest := []) (lenOf pd_fil rfl) rfl (by show 2 * 0 + _ ≤ _; exact Nat.le_of_eq rfl) (hD 15 rfl) (fun _ _ => ⟨rfl, (rfl : T2.heap = T2.heap), (by decide : 0 + 0 ≤ _), (by decide : 0 + 0 ≤ _)⟩)
  dsimp only [Pt.U, Pt.locs, Pt.cells, Pt.slots] at X4 l4 y4 z4 st4 hQ4
  subst l4 y4 z4
  obtain ⟨rfl, N4q, W4⟩ := hQ4
  have N4 := Fr.app N2 N4q
  have K5 : Rc K0 T4 (mkF m 22 #[sI 1, sI 4, sJ 20, sV] [(kI 4)]) := fun t k => K3 t (st4 t (k))
  obtain ⟨fs, hr, hrun, hended, hWm, hsame⟩ := X4.leave (v := some (.int (4 : Int32))) (fun h => by rw [Bd.returns] at h; cases h)
  refine ⟨_, _, pre0 _ (K5 _ (retI X4 hx Bd.returns (hD 16 rfl) hr)), hrun, hended, _, _, rfl, ?_, ⟨_, rfl⟩, hWm, hsame.mono (by decide) (by decide)⟩
  show QrmAL1 Z  Rr n0 _ T4.heap _
  exact ⟨rfl, N4, W4⟩
theorem ef_rmAL2 (m : MethodId)  : entryFrame m #[(.int (2 : Int32)), (.int (4 : Int32))] 4 = mkF m 0 #[.val (.int (2 : Int32)), .val (.int (4 : Int32)), .unset, .unset] [] := by first | (simp [entryFrame, mkF, argsToLocals, Value.category]; done) | rfl
def QrmAL2 (Z : State)  (Rr : List (Addr × (Cell → Prop))) (n0 : Nat) (v : Option Value) (h : Heap) (L : List Loc) : Prop := v = some (.int (4 : Int32)) ∧ Fr n0 L ∧ Wo n0 h (Rr)
set_option maxRecDepth 65536 in
set_option maxHeartbeats 40000000 in
theorem rmAL2 (l : Launch) (Z : State) (a0 : Array Value) (hw : ∀ d ∈ tables_1, d.before a0 Z = true) (ws : List Jvm.Cond)  (Rr : List (Addr × (Cell → Prop))) (h0 : Heap) (n0 : Nat) (W0 : Wo n0 h0 (Rr)) :
    MetFree l y_atl (head1 (Jvm.Cond.code y_atl prog_6_method_3_code 4 (some .int) :: ws) ({ frames := 3, cells := 0, slots := 0, locals := 45 } : Room)) (fun aa U => aa = #[(.int (2 : Int32)), (.int (4 : Int32))] ∧ Z.Warmed39 U.vm ∧ U.heap = h0) (fun _ _ _ _ _ => True) (fun _ U ou U' => ∃ v L, ou = .returned v ∧ QrmAL2 Z  Rr n0 v U'.heap L ∧ FrameEnd U ou U' L ({ frames := 3, cells := 0, slots := 0, locals := 45 } : Room).cells ({ frames := 3, cells := 0, slots := 0, locals := 45 } : Room).slots) := by
  refine MetFree.of_bodySF (plainFor_of_name pn_ArrayLengths) hisR ?_
  intro p e s m args below meth c s₁ Bd hml0 hP hK
  obtain ⟨rfl, hZ, hh⟩ := hP
  have hx := Bd.exec
  have hby := Bd.bytes
  have hml : c.maxLocals = 4 := hml0
  have hD : ∀ (k : Nat) {pc : Nat} {i : Instr} {n : Nat}, Ld_atl[k]? = some (pc, i, n) → decode c.code pc = .ok (i, n) := by intro k pc i n h; exact hb hby (d_atl (pc, i, n) (mi k h))
  have hown : s.vm.findClass "com/example/sambre/sambre/engine/ArrayLengths" = some m.cls := findClass_of_methodNamed Bd.named
  have hnm := (name_of_methodNamed Bd.named Bd.method).1
  have X0 : Stand p l e ({ frames := 3, cells := 0, slots := 0, locals := 45 } : Room) s m #[(.int (2 : Int32)), (.int (4 : Int32))] below meth c s₁ [] 0 0 := Stand.of_body Bd
  have e0 : s₁.heap = h0 := by rw [← hh, Bd.state]; rfl
  have N0 := Fr.nil n0
  obtain ⟨F0, hF0⟩ : ∃ F, F = mkF m 0 #[.val (.int (2 : Int32)), .val (.int (4 : Int32)), .unset, .unset] [] := ⟨_, rfl⟩
  have pre0 : ∀ t, Steps p.tables e below (s₁.setTop F0) t → Steps p.tables e below (s₁.setTop (entryFrame m #[(.int (2 : Int32)), (.int (4 : Int32))] 4)) t := fun t k => castTop ((ef_rmAL2 m ).trans hF0.symm) k
  have K0 : Rch p e below s₁ F0 s₁ (mkF m 0 #[.val (.int (2 : Int32)), .val (.int (4 : Int32)), .unset, .unset] []) := fun t k => castTop hF0 k
  have K1 : Rc K0 s₁ (mkF m 13 #[sI 2, sI 4, sJ 24, sV] [(kJ 23)]) := fun t k => K0 t (by
    refine X0.ldc2Long hx hown (mvT hZ (hw _ (mi 139 rfl))) (g := (mkF m 0 #[sI 2, sI 4, sU, sU] [])) rfl (hD 0 rfl) _ ?_
    refine XS.iloadN X0.here hx rfl (hD 1 rfl) rfl ?_
    refine XS.i2l X0.here hx rfl (hD 2 rfl) rfl ?_
    refine XS.iloadN X0.here hx rfl (hD 3 rfl) rfl ?_
    refine XS.i2l X0.here hx rfl (hD 4 rfl) rfl ?_
    refine XS.lmul X0.here hx rfl (hD 5 rfl) rfl ?_
    refine XS.ladd X0.here hx rfl (hD 6 rfl) rfl ?_
    refine XS.lstoreN X0.here hx rfl (hD 7 rfl) rfl (l' := #[sI 2, sI 4, sJ 24, sV]) rfl ?_
    refine XS.lloadN X0.here hx rfl (hD 8 rfl) rfl ?_
    refine XS.lconst X0.here hx rfl (hD 9 rfl) ?_
    refine XS.lsub X0.here hx rfl (hD 10 rfl) rfl ?_
    exact k)
  obtain ⟨_, _, ⟨T2, L2, k2, n2⟩, -, X2, ⟨Lc2, hQ2, l2, y2, z2⟩, st2⟩ := Jvm.LawKit.callS X0 hx (y := y_hob) hown (mvT hZ (hw _ (mi 140 rfl))) (mvT hZ (hw _ (mi 141 rfl))) (mvT hZ (hw _ (mi 142 rfl))) (mvT hZ (hw _ (mi 143 rfl))) (by decide) (backOf (W := 0) (rmHO23 l Z a0 hw []  (Rr) h0 n0 W0) hZ (hw _ (mi 143 rfl)) (hw _ (mi 142 rfl)) (by decide) (by decide)) (g := K1.g) rfl (by rw [hml]; rfl) (argsL := [(.long (23 : Int64))]) (rest := []) (lenOf pd_hob rfl) rfl (by show 2 * 0 + _ ≤ _; exact Nat.le_of_eq rfl) (hD 11 rfl) (fun _ _ => ⟨rfl, e0, (by decide : 0 + 0 ≤ _), (by decide : 0 + 0 ≤ _)⟩)
  dsimp only [Pt.U, Pt.locs, Pt.cells, Pt.slots] at X2 l2 y2 z2 st2 hQ2
  subst l2 y2 z2
  obtain ⟨rfl, N2q, W2⟩ := hQ2
  have N2 := Fr.app N0 N2q
  have K3 : Rc K0 T2 (mkF m 19 #[sI 2, sI 4, sJ 24, sV] [(kI 4), (kJ 32)]) := fun t k => K1 t (st2 t (by
    refine XS.iconst X2.here hx rfl (hD 12 rfl) ?_
    refine XS.lshl X2.here hx rfl (hD 13 rfl) rfl ?_
    refine XS.iloadN X2.here hx rfl (hD 14 rfl) rfl ?_
    exact k))
  obtain ⟨_, _, ⟨T4, L4, k4, n4⟩, -, X4, ⟨Lc4, hQ4, l4, y4, z4⟩, st4⟩ := Jvm.LawKit.callS X2 hx (y := y_fil) hown (mvT hZ (hw _ (mi 153 rfl))) (mvT hZ (hw _ (mi 154 rfl))) (mvT hZ (hw _ (mi 137 rfl))) (mvT hZ (hw _ (mi 155 rfl))) (by decide) (backOf (W := 0) (rmFI l Z a0 hw []  (Rr) T2.heap n0 W2) hZ (hw _ (mi 155 rfl)) (hw _ (mi 137 rfl)) (by decide) (by decide)) (g := K3.g) rfl (by rw [hml]; rfl) (argsL := [(.long (32 : Int64)), (.int (4 : Int32))]) (rest := []) (lenOf pd_fil rfl) rfl (by show 2 * 0 + _ ≤ _; exact Nat.le_of_eq rfl) (hD 15 rfl) (fun _ _ => ⟨rfl, (rfl : T2.heap = T2.heap), (by decide : 0 + 0 ≤ _), (by decide : 0 + 0 ≤ _)⟩)
  dsimp only [Pt.U, Pt.locs, Pt.cells, Pt.slots] at X4 l4 y4 z4 st4 hQ4
  subst l4 y4 z4
  obtain ⟨rfl, N4q, W4⟩ := hQ4
  have N4 := Fr.app N2 N4q
  have K5 : Rc K0 T4 (mkF m 22 #[sI 2, sI 4, sJ 24, sV] [(kI 4)]) := fun t k => K3 t (st4 t (k))
  obtain ⟨fs, hr, hrun, hended, hWm, hsame⟩ := X4.leave (v := some (.int (4 : Int32))) (fun h => by rw [Bd.returns] at h; cases h)
  refine ⟨_, _, pre0 _ (K5 _ (retI X4 hx Bd.returns (hD 16 rfl) hr)), hrun, hended, _, _, rfl, ?_, ⟨_, rfl⟩, hWm, hsame.mono (by decide) (by decide)⟩
  show QrmAL2 Z  Rr n0 _ T4.heap _
  exact ⟨rfl, N4, W4⟩
abbrev y_ri : MethodName := ⟨"com/example/sambre/sambre/engine/Rows", "<init>", "()V"⟩
theorem pd_ri : parseMethodDescriptor "()V" = some ⟨[], none⟩ := by decide +kernel
theorem pn_Rows : plainName "com/example/sambre/sambre/engine/Rows" = true := by first | (simp [plainName, overriddenIn]; done) | decide +kernel
def Ld_ri : List (Nat × Instr × Nat) := [(0, .aload_n 0, 1), (1, .invokespecial 1, 3), (4, .aload_n 0, 1), (5, .iconst 0, 1), (6, .newarray .int, 2), (8, .putfield 7, 3), (11, .aload_n 0, 1), (12, .iconst 0, 1), (13, .newarray .int, 2), (15, .putfield 13, 3), (18, .aload_n 0, 1), (19, .bipush 16, 2), (21, .newarray .int, 2), (23, .putfield 16, 3), (26, .aload_n 0, 1), (27, .bipush 17, 2), (29, .newarray .int, 2), (31, .putfield 19, 3), (34, .aload_n 0, 1), (35, .bipush 17, 2), (37, .newarray .int, 2), (39, .putfield 22, 3), (42, .aload_n 0, 1), (43, .bipush 16, 2), (45, .newarray .int, 2), (47, .putfield 25, 3), (50, .aload_n 0, 1), (51, .bipush 17, 2), (53, .newarray .int, 2), (55, .putfield 28, 3), (58, .aload_n 0, 1), (59, .bipush 17, 2), (61, .newarray .int, 2), (63, .putfield 31, 3), (66, .aload_n 0, 1), (67, .bipush 17, 2), (69, .newarray .int, 2), (71, .putfield 34, 3), (74, .aload_n 0, 1), (75, .bipush 17, 2), (77, .newarray .int, 2), (79, .putfield 37, 3), (82, .aload_n 0, 1), (83, .bipush 16, 2), (85, .newarray .int, 2), (87, .putfield 40, 3), (90, .aload_n 0, 1), (91, .bipush 16, 2), (93, .newarray .int, 2), (95, .putfield 43, 3), (98, .aload_n 0, 1), (99, .bipush 64, 2), (101, .newarray .int, 2), (103, .putfield 46, 3), (106, .aload_n 0, 1), (107, .bipush 64, 2), (109, .newarray .double, 2), (111, .putfield 49, 3), (114, .return_, 1)]
set_option maxRecDepth 65536 in
theorem d_ri : ∀ x ∈ Ld_ri, decode prog_87_method_1_code x.1 = .ok (x.2.1, x.2.2) := by decide +kernel
theorem ef_rmRI (m : MethodId) (r : Addr) : entryFrame m #[(.ref r)] 1 = mkF m 0 #[.val (.ref r)] [] := by first | (simp [entryFrame, mkF, argsToLocals, Value.category]; done) | rfl
def QrmRI (Z : State) (r : Addr) (Rr : List (Addr × (Cell → Prop))) (n0 : Nat) (v : Option Value) (h : Heap) (L : List Loc) : Prop := ∃ a43 a40 a37 a34 a31 a28 a25 a22 a19 a16 a13 a10 a7 a4, v = none ∧ Fr n0 L ∧ Wo n0 h ((a43, Ar Z .double 64 zD) :: (a40, Ar Z .int 64 zI) :: (a37, Ar Z .int 16 zI) :: (a34, Ar Z .int 16 zI) :: (a31, Ar Z .int 17 zI) :: (a28, Ar Z .int 17 zI) :: (a25, Ar Z .int 17 zI) :: (a22, Ar Z .int 17 zI) :: (a19, Ar Z .int 16 zI) :: (a16, Ar Z .int 17 zI) :: (a13, Ar Z .int 17 zI) :: (a10, Ar Z .int 16 zI) :: (a7, Ar Z .int 0 zI) :: (a4, Ar Z .int 0 zI) :: (r, oR Z [(kR a4), (kR a7), (kR a10), (kR a13), (kR a16), (kR a19), (kR a22), (kR a25), (kR a28), (kR a31), (kR a34), (kR a37), (kR a40), (kR a43), (kI 0), .null, (kI 0), .null, .null, .null, .null, .null, .null, (kI 0), (kI 0)]) :: Rr)
set_option maxRecDepth 65536 in
set_option maxHeartbeats 40000000 in
theorem rmRI (l : Launch) (Z : State) (a0 : Array Value) (hw : ∀ d ∈ tables_1, d.before a0 Z = true) (ws : List Jvm.Cond) (r : Addr) (Rr : List (Addr × (Cell → Prop))) (h0 : Heap) (n0 : Nat) (W0 : Wo n0 h0 ((r, oR Z [.null, .null, .null, .null, .null, .null, .null, .null, .null, .null, .null, .null, .null, .null, (kI 0), .null, (kI 0), .null, .null, .null, .null, .null, .null, (kI 0), (kI 0)]) :: Rr)) :
    MetFree l y_ri (head1 (Jvm.Cond.code y_ri prog_87_method_1_code 1 none :: ws) ({ frames := 1, cells := 14, slots := 294, locals := 12 } : Room)) (fun aa U => aa = #[(.ref r)] ∧ Z.Warmed39 U.vm ∧ U.heap = h0) (fun _ _ _ _ _ => True) (fun _ U ou U' => ∃ v L, ou = .returned v ∧ QrmRI Z r Rr n0 v U'.heap L ∧ FrameEnd U ou U' L ({ frames := 1, cells := 14, slots := 294, locals := 12 } : Room).cells ({ frames := 1, cells := 14, slots := 294, locals := 12 } : Room).slots) := by
  refine MetFree.of_bodySF (plainFor_of_name pn_Rows) hisR ?_
  intro p e s m args below meth c s₁ Bd hml0 hP hK
  obtain ⟨rfl, hZ, hh⟩ := hP
  have hx := Bd.exec
  have hby := Bd.bytes
  have hml : c.maxLocals = 1 := hml0
  have hD : ∀ (k : Nat) {pc : Nat} {i : Instr} {n : Nat}, Ld_ri[k]? = some (pc, i, n) → decode c.code pc = .ok (i, n) := by intro k pc i n h; exact hb hby (d_ri (pc, i, n) (mi k h))
  have hown : s.vm.findClass "com/example/sambre/sambre/engine/Rows" = some m.cls := findClass_of_methodNamed Bd.named
  have hnm := (name_of_methodNamed Bd.named Bd.method).1
  have X0 : Stand p l e ({ frames := 1, cells := 14, slots := 294, locals := 12 } : Room) s m #[(.ref r)] below meth c s₁ [] 0 0 := Stand.of_body Bd
  have e0 : s₁.heap = h0 := by rw [← hh, Bd.state]; rfl
  have N0 := Fr.nil n0
  obtain ⟨F0, hF0⟩ : ∃ F, F = mkF m 0 #[.val (.ref r)] [] := ⟨_, rfl⟩
  have pre0 : ∀ t, Steps p.tables e below (s₁.setTop F0) t → Steps p.tables e below (s₁.setTop (entryFrame m #[(.ref r)] 1)) t := fun t k => castTop ((ef_rmRI m r).trans hF0.symm) k
  have K0 : Rch p e below s₁ F0 s₁ (mkF m 0 #[.val (.ref r)] []) := fun t k => castTop hF0 k
  have K1 : Rc K0 s₁ (mkF m 1 #[sR r] [(kR r)]) := fun t k => K0 t (XS.aloadN X0.here hx rfl (hD 0 rfl) rfl rfl k)
  obtain ⟨T2, X2, e2, st2⟩ := initO X0 hx hZ hown (hw _ (mi 11 rfl)) (hw _ (mi 12 rfl)) (hw _ (mi 13 rfl)) e0 (g := K1.g) rfl (by rw [hml]; rfl) rfl (hD 1 rfl) (by decide) (W := 0) (by show 2 * 0 + _ ≤ _; exact Nat.le_of_eq rfl) (by decide)
  have K3 : Rc K0 T2 (mkF m 6 #[sR r] [(kI 0), (kR r)]) := fun t k => K1 t (st2 t (by
    refine XS.aloadN X2.here hx rfl (hD 2 rfl) rfl rfl ?_
    refine XS.iconst X2.here hx rfl (hD 3 rfl) ?_
    exact k))
  obtain ⟨T4, h4, a4, X4, e4, W4q, st4⟩ := newWA X2 hx hZ (aty := .int) (ty := .int) rfl (hw _ (mi 4 rfl)) e2 W0 (g := K3.g) rfl (hD 4 rfl) (z := (0 : Int32)) (n := 0) rfl (by decide) (by decide) (cap := 0) (by decide) (by decide) (by decide : 0 + 1 ≤ _) (by decide : 0 + 0 ≤ _)
  obtain ⟨T5, h5, L5, X5, e5, N5, W5q, st5⟩ := putW X4 hx hZ hown (host := "") (Or.inl (hw _ (mi 14 rfl))) e4 W4q N0 (own_dR hw) (Or.inl (hw _ (mi 15 rfl))) (hw _ (mi 6 rfl)) (ty := (.array .int)) (by decide +kernel) (i := 1) (a := r) rfl (j := 0) rfl rfl (v := (.ref a4)) rfl rfl (g := (mkF m 8 #[sR r] [(kR a4), (kR r)])) rfl rfl (hD 5 rfl)
  have K6 : Rc K0 T5 (mkF m 13 #[sR r] [(kI 0), (kR r)]) := fun t k => K3 t (st4 t (st5 t (by
    refine XS.aloadN X5.here hx rfl (hD 6 rfl) rfl rfl ?_
    refine XS.iconst X5.here hx rfl (hD 7 rfl) ?_
    exact k)))
  obtain ⟨T7, h7, a7, X7, e7, W7q, st7⟩ := newWA X5 hx hZ (aty := .int) (ty := .int) rfl (hw _ (mi 4 rfl)) e5 W5q (g := K6.g) rfl (hD 8 rfl) (z := (0 : Int32)) (n := 0) rfl (by decide) (by decide) (cap := 0) (by decide) (by decide) (by decide : 1 + 1 ≤ _) (by decide : 0 + 0 ≤ _)
  obtain ⟨T8, h8, L8, X8, e8, N8, W8q, st8⟩ := putW X7 hx hZ hown (host := "") (Or.inl (hw _ (mi 16 rfl))) e7 W7q N5 (own_dR hw) (Or.inl (hw _ (mi 17 rfl))) (hw _ (mi 6 rfl)) (ty := (.array .int)) (by decide +kernel) (i := 2) (a := r) rfl (j := 1) rfl rfl (v := (.ref a7)) rfl rfl (g := (mkF m 15 #[sR r] [(kR a7), (kR r)])) rfl rfl (hD 9 rfl)
  have W8 : Wo n0 h8 ((a7, Ar Z .int 0 zI) :: (a4, Ar Z .int 0 zI) :: (r, oR Z [(kR a4), (kR a7), .null, .null, .null, .null, .null, .null, .null, .null, .null, .null, .null, .null, (kI 0), .null, (kI 0), .null, .null, .null, .null, .null, .null, (kI 0), (kI 0)]) :: Rr) := W8q
  have K9 : Rc K0 T8 (mkF m 21 #[sR r] [(kI 16), (kR r)]) := fun t k => K6 t (st7 t (st8 t (by
    refine XS.aloadN X8.here hx rfl (hD 10 rfl) rfl rfl ?_
    refine XS.bipush X8.here hx rfl (hD 11 rfl) ?_
    exact k)))
  obtain ⟨T10, h10, a10, X10, e10, W10q, st10⟩ := newWA X8 hx hZ (aty := .int) (ty := .int) rfl (hw _ (mi 4 rfl)) e8 W8 (g := K9.g) rfl (hD 12 rfl) (z := (16 : Int32)) (n := 16) rfl (by decide) (by decide) (cap := 16) (by decide) (by decide) (by decide : 2 + 1 ≤ _) (by decide : 0 + 16 ≤ _)
  obtain ⟨T11, h11, L11, X11, e11, N11, W11q, st11⟩ := putW X10 hx hZ hown (host := "") (Or.inl (hw _ (mi 18 rfl))) e10 W10q N8 (own_dR hw) (Or.inl (hw _ (mi 19 rfl))) (hw _ (mi 6 rfl)) (ty := (.array .int)) (by decide +kernel) (i := 3) (a := r) rfl (j := 2) rfl rfl (v := (.ref a10)) rfl rfl (g := (mkF m 23 #[sR r] [(kR a10), (kR r)])) rfl rfl (hD 13 rfl)
  have K12 : Rc K0 T11 (mkF m 29 #[sR r] [(kI 17), (kR r)]) := fun t k => K9 t (st10 t (st11 t (by
    refine XS.aloadN X11.here hx rfl (hD 14 rfl) rfl rfl ?_
    refine XS.bipush X11.here hx rfl (hD 15 rfl) ?_
    exact k)))
  obtain ⟨T13, h13, a13, X13, e13, W13q, st13⟩ := newWA X11 hx hZ (aty := .int) (ty := .int) rfl (hw _ (mi 4 rfl)) e11 W11q (g := K12.g) rfl (hD 16 rfl) (z := (17 : Int32)) (n := 17) rfl (by decide) (by decide) (cap := 17) (by decide) (by decide) (by decide : 3 + 1 ≤ _) (by decide : 16 + 17 ≤ _)
  obtain ⟨T14, h14, L14, X14, e14, N14, W14q, st14⟩ := putW X13 hx hZ hown (host := "") (Or.inl (hw _ (mi 20 rfl))) e13 W13q N11 (own_dR hw) (Or.inl (hw _ (mi 21 rfl))) (hw _ (mi 6 rfl)) (ty := (.array .int)) (by decide +kernel) (i := 4) (a := r) rfl (j := 3) rfl rfl (v := (.ref a13)) rfl rfl (g := (mkF m 31 #[sR r] [(kR a13), (kR r)])) rfl rfl (hD 17 rfl)
  have W14 : Wo n0 h14 ((a13, Ar Z .int 17 zI) :: (a10, Ar Z .int 16 zI) :: (a7, Ar Z .int 0 zI) :: (a4, Ar Z .int 0 zI) :: (r, oR Z [(kR a4), (kR a7), (kR a10), (kR a13), .null, .null, .null, .null, .null, .null, .null, .null, .null, .null, (kI 0), .null, (kI 0), .null, .null, .null, .null, .null, .null, (kI 0), (kI 0)]) :: Rr) := W14q
  have K15 : Rc K0 T14 (mkF m 37 #[sR r] [(kI 17), (kR r)]) := fun t k => K12 t (st13 t (st14 t (by
    refine XS.aloadN X14.here hx rfl (hD 18 rfl) rfl rfl ?_
    refine XS.bipush X14.here hx rfl (hD 19 rfl) ?_
    exact k)))
  obtain ⟨T16, h16, a16, X16, e16, W16q, st16⟩ := newWA X14 hx hZ (aty := .int) (ty := .int) rfl (hw _ (mi 4 rfl)) e14 W14 (g := K15.g) rfl (hD 20 rfl) (z := (17 : Int32)) (n := 17) rfl (by decide) (by decide) (cap := 17) (by decide) (by decide) (by decide : 4 + 1 ≤ _) (by decide : 33 + 17 ≤ _)
  obtain ⟨T17, h17, L17, X17, e17, N17, W17q, st17⟩ := putW X16 hx hZ hown (host := "") (Or.inl (hw _ (mi 22 rfl))) e16 W16q N14 (own_dR hw) (Or.inl (hw _ (mi 23 rfl))) (hw _ (mi 6 rfl)) (ty := (.array .int)) (by decide +kernel) (i := 5) (a := r) rfl (j := 4) rfl rfl (v := (.ref a16)) rfl rfl (g := (mkF m 39 #[sR r] [(kR a16), (kR r)])) rfl rfl (hD 21 rfl)
  have K18 : Rc K0 T17 (mkF m 45 #[sR r] [(kI 16), (kR r)]) := fun t k => K15 t (st16 t (st17 t (by
    refine XS.aloadN X17.here hx rfl (hD 22 rfl) rfl rfl ?_
    refine XS.bipush X17.here hx rfl (hD 23 rfl) ?_
    exact k)))
  obtain ⟨T19, h19, a19, X19, e19, W19q, st19⟩ := newWA X17 hx hZ (aty := .int) (ty := .int) rfl (hw _ (mi 4 rfl)) e17 W17q (g := K18.g) rfl (hD 24 rfl) (z := (16 : Int32)) (n := 16) rfl (by decide) (by decide) (cap := 16) (by decide) (by decide) (by decide : 5 + 1 ≤ _) (by decide : 50 + 16 ≤ _)
  obtain ⟨T20, h20, L20, X20, e20, N20, W20q, st20⟩ := putW X19 hx hZ hown (host := "") (Or.inl (hw _ (mi 24 rfl))) e19 W19q N17 (own_dR hw) (Or.inl (hw _ (mi 25 rfl))) (hw _ (mi 6 rfl)) (ty := (.array .int)) (by decide +kernel) (i := 6) (a := r) rfl (j := 5) rfl rfl (v := (.ref a19)) rfl rfl (g := (mkF m 47 #[sR r] [(kR a19), (kR r)])) rfl rfl (hD 25 rfl)
  have W20 : Wo n0 h20 ((a19, Ar Z .int 16 zI) :: (a16, Ar Z .int 17 zI) :: (a13, Ar Z .int 17 zI) :: (a10, Ar Z .int 16 zI) :: (a7, Ar Z .int 0 zI) :: (a4, Ar Z .int 0 zI) :: (r, oR Z [(kR a4), (kR a7), (kR a10), (kR a13), (kR a16), (kR a19), .null, .null, .null, .null, .null, .null, .null, .null, (kI 0), .null, (kI 0), .null, .null, .null, .null, .null, .null, (kI 0), (kI 0)]) :: Rr) := W20q
  have K21 : Rc K0 T20 (mkF m 53 #[sR r] [(kI 17), (kR r)]) := fun t k => K18 t (st19 t (st20 t (by
    refine XS.aloadN X20.here hx rfl (hD 26 rfl) rfl rfl ?_
    refine XS.bipush X20.here hx rfl (hD 27 rfl) ?_
    exact k)))
  obtain ⟨T22, h22, a22, X22, e22, W22q, st22⟩ := newWA X20 hx hZ (aty := .int) (ty := .int) rfl (hw _ (mi 4 rfl)) e20 W20 (g := K21.g) rfl (hD 28 rfl) (z := (17 : Int32)) (n := 17) rfl (by decide) (by decide) (cap := 17) (by decide) (by decide) (by decide : 6 + 1 ≤ _) (by decide : 66 + 17 ≤ _)
  obtain ⟨T23, h23, L23, X23, e23, N23, W23q, st23⟩ := putW X22 hx hZ hown (host := "") (Or.inl (hw _ (mi 26 rfl))) e22 W22q N20 (own_dR hw) (Or.inl (hw _ (mi 27 rfl))) (hw _ (mi 6 rfl)) (ty := (.array .int)) (by decide +kernel) (i := 7) (a := r) rfl (j := 6) rfl rfl (v := (.ref a22)) rfl rfl (g := (mkF m 55 #[sR r] [(kR a22), (kR r)])) rfl rfl (hD 29 rfl)
  have K24 : Rc K0 T23 (mkF m 61 #[sR r] [(kI 17), (kR r)]) := fun t k => K21 t (st22 t (st23 t (by
    refine XS.aloadN X23.here hx rfl (hD 30 rfl) rfl rfl ?_
    refine XS.bipush X23.here hx rfl (hD 31 rfl) ?_
    exact k)))
  obtain ⟨T25, h25, a25, X25, e25, W25q, st25⟩ := newWA X23 hx hZ (aty := .int) (ty := .int) rfl (hw _ (mi 4 rfl)) e23 W23q (g := K24.g) rfl (hD 32 rfl) (z := (17 : Int32)) (n := 17) rfl (by decide) (by decide) (cap := 17) (by decide) (by decide) (by decide : 7 + 1 ≤ _) (by decide : 83 + 17 ≤ _)
  obtain ⟨T26, h26, L26, X26, e26, N26, W26q, st26⟩ := putW X25 hx hZ hown (host := "") (Or.inl (hw _ (mi 28 rfl))) e25 W25q N23 (own_dR hw) (Or.inl (hw _ (mi 29 rfl))) (hw _ (mi 6 rfl)) (ty := (.array .int)) (by decide +kernel) (i := 8) (a := r) rfl (j := 7) rfl rfl (v := (.ref a25)) rfl rfl (g := (mkF m 63 #[sR r] [(kR a25), (kR r)])) rfl rfl (hD 33 rfl)
  have W26 : Wo n0 h26 ((a25, Ar Z .int 17 zI) :: (a22, Ar Z .int 17 zI) :: (a19, Ar Z .int 16 zI) :: (a16, Ar Z .int 17 zI) :: (a13, Ar Z .int 17 zI) :: (a10, Ar Z .int 16 zI) :: (a7, Ar Z .int 0 zI) :: (a4, Ar Z .int 0 zI) :: (r, oR Z [(kR a4), (kR a7), (kR a10), (kR a13), (kR a16), (kR a19), (kR a22), (kR a25), .null, .null, .null, .null, .null, .null, (kI 0), .null, (kI 0), .null, .null, .null, .null, .null, .null, (kI 0), (kI 0)]) :: Rr) := W26q
  have K27 : Rc K0 T26 (mkF m 69 #[sR r] [(kI 17), (kR r)]) := fun t k => K24 t (st25 t (st26 t (by
    refine XS.aloadN X26.here hx rfl (hD 34 rfl) rfl rfl ?_
    refine XS.bipush X26.here hx rfl (hD 35 rfl) ?_
    exact k)))
  obtain ⟨T28, h28, a28, X28, e28, W28q, st28⟩ := newWA X26 hx hZ (aty := .int) (ty := .int) rfl (hw _ (mi 4 rfl)) e26 W26 (g := K27.g) rfl (hD 36 rfl) (z := (17 : Int32)) (n := 17) rfl (by decide) (by decide) (cap := 17) (by decide) (by decide) (by decide : 8 + 1 ≤ _) (by decide : 100 + 17 ≤ _)
  obtain ⟨T29, h29, L29, X29, e29, N29, W29q, st29⟩ := putW X28 hx hZ hown (host := "") (Or.inl (hw _ (mi 30 rfl))) e28 W28q N26 (own_dR hw) (Or.inl (hw _ (mi 31 rfl))) (hw _ (mi 6 rfl)) (ty := (.array .int)) (by decide +kernel) (i := 9) (a := r) rfl (j := 8) rfl rfl (v := (.ref a28)) rfl rfl (g := (mkF m 71 #[sR r] [(kR a28), (kR r)])) rfl rfl (hD 37 rfl)
  have K30 : Rc K0 T29 (mkF m 77 #[sR r] [(kI 17), (kR r)]) := fun t k => K27 t (st28 t (st29 t (by
    refine XS.aloadN X29.here hx rfl (hD 38 rfl) rfl rfl ?_
    refine XS.bipush X29.here hx rfl (hD 39 rfl) ?_
    exact k)))
  obtain ⟨T31, h31, a31, X31, e31, W31q, st31⟩ := newWA X29 hx hZ (aty := .int) (ty := .int) rfl (hw _ (mi 4 rfl)) e29 W29q (g := K30.g) rfl (hD 40 rfl) (z := (17 : Int32)) (n := 17) rfl (by decide) (by decide) (cap := 17) (by decide) (by decide) (by decide : 9 + 1 ≤ _) (by decide : 117 + 17 ≤ _)
  obtain ⟨T32, h32, L32, X32, e32, N32, W32q, st32⟩ := putW X31 hx hZ hown (host := "") (Or.inl (hw _ (mi 32 rfl))) e31 W31q N29 (own_dR hw) (Or.inl (hw _ (mi 33 rfl))) (hw _ (mi 6 rfl)) (ty := (.array .int)) (by decide +kernel) (i := 10) (a := r) rfl (j := 9) rfl rfl (v := (.ref a31)) rfl rfl (g := (mkF m 79 #[sR r] [(kR a31), (kR r)])) rfl rfl (hD 41 rfl)
  have W32 : Wo n0 h32 ((a31, Ar Z .int 17 zI) :: (a28, Ar Z .int 17 zI) :: (a25, Ar Z .int 17 zI) :: (a22, Ar Z .int 17 zI) :: (a19, Ar Z .int 16 zI) :: (a16, Ar Z .int 17 zI) :: (a13, Ar Z .int 17 zI) :: (a10, Ar Z .int 16 zI) :: (a7, Ar Z .int 0 zI) :: (a4, Ar Z .int 0 zI) :: (r, oR Z [(kR a4), (kR a7), (kR a10), (kR a13), (kR a16), (kR a19), (kR a22), (kR a25), (kR a28), (kR a31), .null, .null, .null, .null, (kI 0), .null, (kI 0), .null, .null, .null, .null, .null, .null, (kI 0), (kI 0)]) :: Rr) := W32q
  have K33 : Rc K0 T32 (mkF m 85 #[sR r] [(kI 16), (kR r)]) := fun t k => K30 t (st31 t (st32 t (by
    refine XS.aloadN X32.here hx rfl (hD 42 rfl) rfl rfl ?_
    refine XS.bipush X32.here hx rfl (hD 43 rfl) ?_
    exact k)))
  obtain ⟨T34, h34, a34, X34, e34, W34q, st34⟩ := newWA X32 hx hZ (aty := .int) (ty := .int) rfl (hw _ (mi 4 rfl)) e32 W32 (g := K33.g) rfl (hD 44 rfl) (z := (16 : Int32)) (n := 16) rfl (by decide) (by decide) (cap := 16) (by decide) (by decide) (by decide : 10 + 1 ≤ _) (by decide : 134 + 16 ≤ _)
  obtain ⟨T35, h35, L35, X35, e35, N35, W35q, st35⟩ := putW X34 hx hZ hown (host := "") (Or.inl (hw _ (mi 34 rfl))) e34 W34q N32 (own_dR hw) (Or.inl (hw _ (mi 35 rfl))) (hw _ (mi 6 rfl)) (ty := (.array .int)) (by decide +kernel) (i := 11) (a := r) rfl (j := 10) rfl rfl (v := (.ref a34)) rfl rfl (g := (mkF m 87 #[sR r] [(kR a34), (kR r)])) rfl rfl (hD 45 rfl)
  have K36 : Rc K0 T35 (mkF m 93 #[sR r] [(kI 16), (kR r)]) := fun t k => K33 t (st34 t (st35 t (by
    refine XS.aloadN X35.here hx rfl (hD 46 rfl) rfl rfl ?_
    refine XS.bipush X35.here hx rfl (hD 47 rfl) ?_
    exact k)))
  obtain ⟨T37, h37, a37, X37, e37, W37q, st37⟩ := newWA X35 hx hZ (aty := .int) (ty := .int) rfl (hw _ (mi 4 rfl)) e35 W35q (g := K36.g) rfl (hD 48 rfl) (z := (16 : Int32)) (n := 16) rfl (by decide) (by decide) (cap := 16) (by decide) (by decide) (by decide : 11 + 1 ≤ _) (by decide : 150 + 16 ≤ _)
  obtain ⟨T38, h38, L38, X38, e38, N38, W38q, st38⟩ := putW X37 hx hZ hown (host := "") (Or.inl (hw _ (mi 36 rfl))) e37 W37q N35 (own_dR hw) (Or.inl (hw _ (mi 37 rfl))) (hw _ (mi 6 rfl)) (ty := (.array .int)) (by decide +kernel) (i := 12) (a := r) rfl (j := 11) rfl rfl (v := (.ref a37)) rfl rfl (g := (mkF m 95 #[sR r] [(kR a37), (kR r)])) rfl rfl (hD 49 rfl)
  have W38 : Wo n0 h38 ((a37, Ar Z .int 16 zI) :: (a34, Ar Z .int 16 zI) :: (a31, Ar Z .int 17 zI) :: (a28, Ar Z .int 17 zI) :: (a25, Ar Z .int 17 zI) :: (a22, Ar Z .int 17 zI) :: (a19, Ar Z .int 16 zI) :: (a16, Ar Z .int 17 zI) :: (a13, Ar Z .int 17 zI) :: (a10, Ar Z .int 16 zI) :: (a7, Ar Z .int 0 zI) :: (a4, Ar Z .int 0 zI) :: (r, oR Z [(kR a4), (kR a7), (kR a10), (kR a13), (kR a16), (kR a19), (kR a22), (kR a25), (kR a28), (kR a31), (kR a34), (kR a37), .null, .null, (kI 0), .null, (kI 0), .null, .null, .null, .null, .null, .null, (kI 0), (kI 0)]) :: Rr) := W38q
  have K39 : Rc K0 T38 (mkF m 101 #[sR r] [(kI 64), (kR r)]) := fun t k => K36 t (st37 t (st38 t (by
    refine XS.aloadN X38.here hx rfl (hD 50 rfl) rfl rfl ?_
    refine XS.bipush X38.here hx rfl (hD 51 rfl) ?_
    exact k)))
  obtain ⟨T40, h40, a40, X40, e40, W40q, st40⟩ := newWA X38 hx hZ (aty := .int) (ty := .int) rfl (hw _ (mi 4 rfl)) e38 W38 (g := K39.g) rfl (hD 52 rfl) (z := (64 : Int32)) (n := 64) rfl (by decide) (by decide) (cap := 64) (by decide) (by decide) (by decide : 12 + 1 ≤ _) (by decide : 166 + 64 ≤ _)
  obtain ⟨T41, h41, L41, X41, e41, N41, W41q, st41⟩ := putW X40 hx hZ hown (host := "") (Or.inl (hw _ (mi 38 rfl))) e40 W40q N38 (own_dR hw) (Or.inl (hw _ (mi 39 rfl))) (hw _ (mi 6 rfl)) (ty := (.array .int)) (by decide +kernel) (i := 13) (a := r) rfl (j := 12) rfl rfl (v := (.ref a40)) rfl rfl (g := (mkF m 103 #[sR r] [(kR a40), (kR r)])) rfl rfl (hD 53 rfl)
  have K42 : Rc K0 T41 (mkF m 109 #[sR r] [(kI 64), (kR r)]) := fun t k => K39 t (st40 t (st41 t (by
    refine XS.aloadN X41.here hx rfl (hD 54 rfl) rfl rfl ?_
    refine XS.bipush X41.here hx rfl (hD 55 rfl) ?_
    exact k)))
  obtain ⟨T43, h43, a43, X43, e43, W43q, st43⟩ := newWA X41 hx hZ (aty := .double) (ty := .double) rfl (hw _ (mi 0 rfl)) e41 W41q (g := K42.g) rfl (hD 56 rfl) (z := (64 : Int32)) (n := 64) rfl (by decide) (by decide) (cap := 64) (by decide) (by decide) (by decide : 13 + 1 ≤ _) (by decide : 230 + 64 ≤ _)
  obtain ⟨T44, h44, L44, X44, e44, N44, W44q, st44⟩ := putW X43 hx hZ hown (host := "") (Or.inl (hw _ (mi 40 rfl))) e43 W43q N41 (own_dR hw) (Or.inl (hw _ (mi 41 rfl))) (hw _ (mi 6 rfl)) (ty := (.array .double)) (by decide +kernel) (i := 14) (a := r) rfl (j := 13) rfl rfl (v := (.ref a43)) rfl rfl (g := (mkF m 111 #[sR r] [(kR a43), (kR r)])) rfl rfl (hD 57 rfl)
  have W44 : Wo n0 h44 ((a43, Ar Z .double 64 zD) :: (a40, Ar Z .int 64 zI) :: (a37, Ar Z .int 16 zI) :: (a34, Ar Z .int 16 zI) :: (a31, Ar Z .int 17 zI) :: (a28, Ar Z .int 17 zI) :: (a25, Ar Z .int 17 zI) :: (a22, Ar Z .int 17 zI) :: (a19, Ar Z .int 16 zI) :: (a16, Ar Z .int 17 zI) :: (a13, Ar Z .int 17 zI) :: (a10, Ar Z .int 16 zI) :: (a7, Ar Z .int 0 zI) :: (a4, Ar Z .int 0 zI) :: (r, oR Z [(kR a4), (kR a7), (kR a10), (kR a13), (kR a16), (kR a19), (kR a22), (kR a25), (kR a28), (kR a31), (kR a34), (kR a37), (kR a40), (kR a43), (kI 0), .null, (kI 0), .null, .null, .null, .null, .null, .null, (kI 0), (kI 0)]) :: Rr) := W44q
  have K45 : Rc K0 T44 (mkF m 114 #[sR r] []) := fun t k => K42 t (st43 t (st44 t (k)))
  obtain ⟨fs, hr, hrun, hended, hWm, hsame⟩ := X44.leave (v := none) (fun _ => rfl)
  refine ⟨_, _, pre0 _ (K45 _ (X44.returnOut hx Bd.returns (hD 58 rfl) hr)), hrun, hended, _, _, rfl, ?_, ⟨_, rfl⟩, hWm, hsame.mono (by decide) (by decide)⟩
  show QrmRI Z r Rr n0 _ T44.heap _
  rw [e44]
  exact ⟨a43, a40, a37, a34, a31, a28, a25, a22, a19, a16, a13, a10, a7, a4, rfl, N44, W44⟩
abbrev y_bi : MethodName := ⟨"com/example/sambre/sambre/engine/Rows$Builder", "<init>", "()V"⟩
theorem pd_bi : parseMethodDescriptor "()V" = some ⟨[], none⟩ := by decide +kernel
theorem pn_Rows_Builder : plainName "com/example/sambre/sambre/engine/Rows$Builder" = true := by first | (simp [plainName, overriddenIn]; done) | decide +kernel
def Ld_bi : List (Nat × Instr × Nat) := [(0, .aload_n 0, 1), (1, .invokespecial 1, 3), (4, .aload_n 0, 1), (5, .iconst 2, 1), (6, .newarray .int, 2), (8, .putfield 7, 3), (11, .aload_n 0, 1), (12, .iconst 2, 1), (13, .newarray .int, 2), (15, .putfield 13, 3), (18, .aload_n 0, 1), (19, .iconst 2, 1), (20, .newarray .int, 2), (22, .putfield 16, 3), (25, .aload_n 0, 1), (26, .iconst 2, 1), (27, .newarray .int, 2), (29, .putfield 19, 3), (32, .aload_n 0, 1), (33, .iconst 2, 1), (34, .newarray .int, 2), (36, .putfield 22, 3), (39, .aload_n 0, 1), (40, .iconst 4, 1), (41, .newarray .int, 2), (43, .putfield 25, 3), (46, .aload_n 0, 1), (47, .iconst 4, 1), (48, .newarray .double, 2), (50, .putfield 28, 3), (53, .return_, 1)]
set_option maxRecDepth 65536 in
theorem d_bi : ∀ x ∈ Ld_bi, decode prog_88_method_1_code x.1 = .ok (x.2.1, x.2.2) := by decide +kernel
theorem ef_rmBI (m : MethodId) (b : Addr) : entryFrame m #[(.ref b)] 1 = mkF m 0 #[.val (.ref b)] [] := by first | (simp [entryFrame, mkF, argsToLocals, Value.category]; done) | rfl
def QrmBI (Z : State) (b : Addr) (Rr : List (Addr × (Cell → Prop))) (n0 : Nat) (v : Option Value) (h : Heap) (L : List Loc) : Prop := ∃ a22 a19 a16 a13 a10 a7 a4, v = none ∧ Fr n0 L ∧ Wo n0 h ((a22, Ar Z .double 4 zD) :: (a19, Ar Z .int 4 zI) :: (a16, Ar Z .int 2 zI) :: (a13, Ar Z .int 2 zI) :: (a10, Ar Z .int 2 zI) :: (a7, Ar Z .int 2 zI) :: (a4, Ar Z .int 2 zI) :: (b, oB Z [.null, (kI 0), .null, (kI 0), (kR a4), (kR a7), (kR a10), (kR a13), (kR a16), (kR a19), (kR a22), (kI 0), (kI 0), (kI 0), (kI 0), .null]) :: Rr)
set_option maxRecDepth 65536 in
set_option maxHeartbeats 40000000 in
theorem rmBI (l : Launch) (Z : State) (a0 : Array Value) (hw : ∀ d ∈ tables_1, d.before a0 Z = true) (ws : List Jvm.Cond) (b : Addr) (Rr : List (Addr × (Cell → Prop))) (h0 : Heap) (n0 : Nat) (W0 : Wo n0 h0 ((b, oB Z [.null, (kI 0), .null, (kI 0), .null, .null, .null, .null, .null, .null, .null, (kI 0), (kI 0), (kI 0), (kI 0), .null]) :: Rr)) :
    MetFree l y_bi (head1 (Jvm.Cond.code y_bi prog_88_method_1_code 1 none :: ws) ({ frames := 1, cells := 7, slots := 18, locals := 12 } : Room)) (fun aa U => aa = #[(.ref b)] ∧ Z.Warmed39 U.vm ∧ U.heap = h0) (fun _ _ _ _ _ => True) (fun _ U ou U' => ∃ v L, ou = .returned v ∧ QrmBI Z b Rr n0 v U'.heap L ∧ FrameEnd U ou U' L ({ frames := 1, cells := 7, slots := 18, locals := 12 } : Room).cells ({ frames := 1, cells := 7, slots := 18, locals := 12 } : Room).slots) := by
  refine MetFree.of_bodySF (plainFor_of_name pn_Rows_Builder) hisR ?_
  intro p e s m args below meth c s₁ Bd hml0 hP hK
  obtain ⟨rfl, hZ, hh⟩ := hP
  have hx := Bd.exec
  have hby := Bd.bytes
  have hml : c.maxLocals = 1 := hml0
  have hD : ∀ (k : Nat) {pc : Nat} {i : Instr} {n : Nat}, Ld_bi[k]? = some (pc, i, n) → decode c.code pc = .ok (i, n) := by intro k pc i n h; exact hb hby (d_bi (pc, i, n) (mi k h))
  have hown : s.vm.findClass "com/example/sambre/sambre/engine/Rows$Builder" = some m.cls := findClass_of_methodNamed Bd.named
  have hnm := (name_of_methodNamed Bd.named Bd.method).1
  have X0 : Stand p l e ({ frames := 1, cells := 7, slots := 18, locals := 12 } : Room) s m #[(.ref b)] below meth c s₁ [] 0 0 := Stand.of_body Bd
  have e0 : s₁.heap = h0 := by rw [← hh, Bd.state]; rfl
  have N0 := Fr.nil n0
  obtain ⟨F0, hF0⟩ : ∃ F, F = mkF m 0 #[.val (.ref b)] [] := ⟨_, rfl⟩
  have pre0 : ∀ t, Steps p.tables e below (s₁.setTop F0) t → Steps p.tables e below (s₁.setTop (entryFrame m #[(.ref b)] 1)) t := fun t k => castTop ((ef_rmBI m b).trans hF0.symm) k
  have K0 : Rch p e below s₁ F0 s₁ (mkF m 0 #[.val (.ref b)] []) := fun t k => castTop hF0 k
  have K1 : Rc K0 s₁ (mkF m 1 #[sR b] [(kR b)]) := fun t k => K0 t (XS.aloadN X0.here hx rfl (hD 0 rfl) rfl rfl k)
  obtain ⟨T2, X2, e2, st2⟩ := initO X0 hx hZ hown (hw _ (mi 48 rfl)) (hw _ (mi 12 rfl)) (hw _ (mi 13 rfl)) e0 (g := K1.g) rfl (by rw [hml]; rfl) rfl (hD 1 rfl) (by decide) (W := 0) (by show 2 * 0 + _ ≤ _; exact Nat.le_of_eq rfl) (by decide)
  have K3 : Rc K0 T2 (mkF m 6 #[sR b] [(kI 2), (kR b)]) := fun t k => K1 t (st2 t (by
    refine XS.aloadN X2.here hx rfl (hD 2 rfl) rfl rfl ?_
    refine XS.iconst X2.here hx rfl (hD 3 rfl) ?_
    exact k))
  obtain ⟨T4, h4, a4, X4, e4, W4q, st4⟩ := newWA X2 hx hZ (aty := .int) (ty := .int) rfl (hw _ (mi 4 rfl)) e2 W0 (g := K3.g) rfl (hD 4 rfl) (z := (2 : Int32)) (n := 2) rfl (by decide) (by decide) (cap := 2) (by decide) (by decide) (by decide : 0 + 1 ≤ _) (by decide : 0 + 2 ≤ _)
  obtain ⟨T5, h5, L5, X5, e5, N5, W5q, st5⟩ := putW X4 hx hZ hown (host := "") (Or.inl (hw _ (mi 49 rfl))) e4 W4q N0 (own_dB hw) (Or.inl (hw _ (mi 50 rfl))) (hw _ (mi 43 rfl)) (ty := (.array .int)) (by decide +kernel) (i := 1) (a := b) rfl (j := 4) rfl rfl (v := (.ref a4)) rfl rfl (g := (mkF m 8 #[sR b] [(kR a4), (kR b)])) rfl rfl (hD 5 rfl)
  have K6 : Rc K0 T5 (mkF m 13 #[sR b] [(kI 2), (kR b)]) := fun t k => K3 t (st4 t (st5 t (by
    refine XS.aloadN X5.here hx rfl (hD 6 rfl) rfl rfl ?_
    refine XS.iconst X5.here hx rfl (hD 7 rfl) ?_
    exact k)))
  obtain ⟨T7, h7, a7, X7, e7, W7q, st7⟩ := newWA X5 hx hZ (aty := .int) (ty := .int) rfl (hw _ (mi 4 rfl)) e5 W5q (g := K6.g) rfl (hD 8 rfl) (z := (2 : Int32)) (n := 2) rfl (by decide) (by decide) (cap := 2) (by decide) (by decide) (by decide : 1 + 1 ≤ _) (by decide : 2 + 2 ≤ _)
  obtain ⟨T8, h8, L8, X8, e8, N8, W8q, st8⟩ := putW X7 hx hZ hown (host := "") (Or.inl (hw _ (mi 51 rfl))) e7 W7q N5 (own_dB hw) (Or.inl (hw _ (mi 52 rfl))) (hw _ (mi 43 rfl)) (ty := (.array .int)) (by decide +kernel) (i := 2) (a := b) rfl (j := 5) rfl rfl (v := (.ref a7)) rfl rfl (g := (mkF m 15 #[sR b] [(kR a7), (kR b)])) rfl rfl (hD 9 rfl)
  have W8 : Wo n0 h8 ((a7, Ar Z .int 2 zI) :: (a4, Ar Z .int 2 zI) :: (b, oB Z [.null, (kI 0), .null, (kI 0), (kR a4), (kR a7), .null, .null, .null, .null, .null, (kI 0), (kI 0), (kI 0), (kI 0), .null]) :: Rr) := W8q
  have K9 : Rc K0 T8 (mkF m 20 #[sR b] [(kI 2), (kR b)]) := fun t k => K6 t (st7 t (st8 t (by
    refine XS.aloadN X8.here hx rfl (hD 10 rfl) rfl rfl ?_
    refine XS.iconst X8.here hx rfl (hD 11 rfl) ?_
    exact k)))
  obtain ⟨T10, h10, a10, X10, e10, W10q, st10⟩ := newWA X8 hx hZ (aty := .int) (ty := .int) rfl (hw _ (mi 4 rfl)) e8 W8 (g := K9.g) rfl (hD 12 rfl) (z := (2 : Int32)) (n := 2) rfl (by decide) (by decide) (cap := 2) (by decide) (by decide) (by decide : 2 + 1 ≤ _) (by decide : 4 + 2 ≤ _)
  obtain ⟨T11, h11, L11, X11, e11, N11, W11q, st11⟩ := putW X10 hx hZ hown (host := "") (Or.inl (hw _ (mi 53 rfl))) e10 W10q N8 (own_dB hw) (Or.inl (hw _ (mi 54 rfl))) (hw _ (mi 43 rfl)) (ty := (.array .int)) (by decide +kernel) (i := 3) (a := b) rfl (j := 6) rfl rfl (v := (.ref a10)) rfl rfl (g := (mkF m 22 #[sR b] [(kR a10), (kR b)])) rfl rfl (hD 13 rfl)
  have K12 : Rc K0 T11 (mkF m 27 #[sR b] [(kI 2), (kR b)]) := fun t k => K9 t (st10 t (st11 t (by
    refine XS.aloadN X11.here hx rfl (hD 14 rfl) rfl rfl ?_
    refine XS.iconst X11.here hx rfl (hD 15 rfl) ?_
    exact k)))
  obtain ⟨T13, h13, a13, X13, e13, W13q, st13⟩ := newWA X11 hx hZ (aty := .int) (ty := .int) rfl (hw _ (mi 4 rfl)) e11 W11q (g := K12.g) rfl (hD 16 rfl) (z := (2 : Int32)) (n := 2) rfl (by decide) (by decide) (cap := 2) (by decide) (by decide) (by decide : 3 + 1 ≤ _) (by decide : 6 + 2 ≤ _)
  obtain ⟨T14, h14, L14, X14, e14, N14, W14q, st14⟩ := putW X13 hx hZ hown (host := "") (Or.inl (hw _ (mi 55 rfl))) e13 W13q N11 (own_dB hw) (Or.inl (hw _ (mi 56 rfl))) (hw _ (mi 43 rfl)) (ty := (.array .int)) (by decide +kernel) (i := 4) (a := b) rfl (j := 7) rfl rfl (v := (.ref a13)) rfl rfl (g := (mkF m 29 #[sR b] [(kR a13), (kR b)])) rfl rfl (hD 17 rfl)
  have W14 : Wo n0 h14 ((a13, Ar Z .int 2 zI) :: (a10, Ar Z .int 2 zI) :: (a7, Ar Z .int 2 zI) :: (a4, Ar Z .int 2 zI) :: (b, oB Z [.null, (kI 0), .null, (kI 0), (kR a4), (kR a7), (kR a10), (kR a13), .null, .null, .null, (kI 0), (kI 0), (kI 0), (kI 0), .null]) :: Rr) := W14q
  have K15 : Rc K0 T14 (mkF m 34 #[sR b] [(kI 2), (kR b)]) := fun t k => K12 t (st13 t (st14 t (by
    refine XS.aloadN X14.here hx rfl (hD 18 rfl) rfl rfl ?_
    refine XS.iconst X14.here hx rfl (hD 19 rfl) ?_
    exact k)))
  obtain ⟨T16, h16, a16, X16, e16, W16q, st16⟩ := newWA X14 hx hZ (aty := .int) (ty := .int) rfl (hw _ (mi 4 rfl)) e14 W14 (g := K15.g) rfl (hD 20 rfl) (z := (2 : Int32)) (n := 2) rfl (by decide) (by decide) (cap := 2) (by decide) (by decide) (by decide : 4 + 1 ≤ _) (by decide : 8 + 2 ≤ _)
  obtain ⟨T17, h17, L17, X17, e17, N17, W17q, st17⟩ := putW X16 hx hZ hown (host := "") (Or.inl (hw _ (mi 57 rfl))) e16 W16q N14 (own_dB hw) (Or.inl (hw _ (mi 58 rfl))) (hw _ (mi 43 rfl)) (ty := (.array .int)) (by decide +kernel) (i := 5) (a := b) rfl (j := 8) rfl rfl (v := (.ref a16)) rfl rfl (g := (mkF m 36 #[sR b] [(kR a16), (kR b)])) rfl rfl (hD 21 rfl)
  have K18 : Rc K0 T17 (mkF m 41 #[sR b] [(kI 4), (kR b)]) := fun t k => K15 t (st16 t (st17 t (by
    refine XS.aloadN X17.here hx rfl (hD 22 rfl) rfl rfl ?_
    refine XS.iconst X17.here hx rfl (hD 23 rfl) ?_
    exact k)))
  obtain ⟨T19, h19, a19, X19, e19, W19q, st19⟩ := newWA X17 hx hZ (aty := .int) (ty := .int) rfl (hw _ (mi 4 rfl)) e17 W17q (g := K18.g) rfl (hD 24 rfl) (z := (4 : Int32)) (n := 4) rfl (by decide) (by decide) (cap := 4) (by decide) (by decide) (by decide : 5 + 1 ≤ _) (by decide : 10 + 4 ≤ _)
  obtain ⟨T20, h20, L20, X20, e20, N20, W20q, st20⟩ := putW X19 hx hZ hown (host := "") (Or.inl (hw _ (mi 59 rfl))) e19 W19q N17 (own_dB hw) (Or.inl (hw _ (mi 60 rfl))) (hw _ (mi 43 rfl)) (ty := (.array .int)) (by decide +kernel) (i := 6) (a := b) rfl (j := 9) rfl rfl (v := (.ref a19)) rfl rfl (g := (mkF m 43 #[sR b] [(kR a19), (kR b)])) rfl rfl (hD 25 rfl)
  have W20 : Wo n0 h20 ((a19, Ar Z .int 4 zI) :: (a16, Ar Z .int 2 zI) :: (a13, Ar Z .int 2 zI) :: (a10, Ar Z .int 2 zI) :: (a7, Ar Z .int 2 zI) :: (a4, Ar Z .int 2 zI) :: (b, oB Z [.null, (kI 0), .null, (kI 0), (kR a4), (kR a7), (kR a10), (kR a13), (kR a16), (kR a19), .null, (kI 0), (kI 0), (kI 0), (kI 0), .null]) :: Rr) := W20q
  have K21 : Rc K0 T20 (mkF m 48 #[sR b] [(kI 4), (kR b)]) := fun t k => K18 t (st19 t (st20 t (by
    refine XS.aloadN X20.here hx rfl (hD 26 rfl) rfl rfl ?_
    refine XS.iconst X20.here hx rfl (hD 27 rfl) ?_
    exact k)))
  obtain ⟨T22, h22, a22, X22, e22, W22q, st22⟩ := newWA X20 hx hZ (aty := .double) (ty := .double) rfl (hw _ (mi 0 rfl)) e20 W20 (g := K21.g) rfl (hD 28 rfl) (z := (4 : Int32)) (n := 4) rfl (by decide) (by decide) (cap := 4) (by decide) (by decide) (by decide : 6 + 1 ≤ _) (by decide : 14 + 4 ≤ _)
  obtain ⟨T23, h23, L23, X23, e23, N23, W23q, st23⟩ := putW X22 hx hZ hown (host := "") (Or.inl (hw _ (mi 61 rfl))) e22 W22q N20 (own_dB hw) (Or.inl (hw _ (mi 62 rfl))) (hw _ (mi 43 rfl)) (ty := (.array .double)) (by decide +kernel) (i := 7) (a := b) rfl (j := 10) rfl rfl (v := (.ref a22)) rfl rfl (g := (mkF m 50 #[sR b] [(kR a22), (kR b)])) rfl rfl (hD 29 rfl)
  have K24 : Rc K0 T23 (mkF m 53 #[sR b] []) := fun t k => K21 t (st22 t (st23 t (k)))
  obtain ⟨fs, hr, hrun, hended, hWm, hsame⟩ := X23.leave (v := none) (fun _ => rfl)
  refine ⟨_, _, pre0 _ (K24 _ (X23.returnOut hx Bd.returns (hD 30 rfl) hr)), hrun, hended, _, _, rfl, ?_, ⟨_, rfl⟩, hWm, hsame.mono (by decide) (by decide)⟩
  show QrmBI Z b Rr n0 _ T23.heap _
  rw [e23]
  exact ⟨a22, a19, a16, a13, a10, a7, a4, rfl, N23, W23q⟩
abbrev y_st : MethodName := ⟨"com/example/sambre/sambre/engine/Rows$Builder", "start", "([II[DI)V"⟩
theorem pd_st : parseMethodDescriptor "([II[DI)V" = some ⟨[(.array .int), .int, (.array .double), .int], none⟩ := by decide +kernel
def Ld_st : List (Nat × Instr × Nat) := [(0, .aload_n 0, 1), (1, .aload_n 1, 1), (2, .putfield 32, 3), (5, .aload_n 0, 1), (6, .iload_n 2, 1), (7, .putfield 35, 3), (10, .aload_n 0, 1), (11, .aload_n 3, 1), (12, .putfield 39, 3), (15, .aload_n 0, 1), (16, .iload 4, 2), (18, .putfield 42, 3), (21, .aload_n 0, 1), (22, .iconst 0, 1), (23, .putfield 45, 3), (26, .aload_n 0, 1), (27, .iconst 0, 1), (28, .putfield 48, 3), (31, .aload_n 0, 1), (32, .iconst 0, 1), (33, .putfield 51, 3), (36, .aload_n 0, 1), (37, .iconst 0, 1), (38, .putfield 54, 3), (41, .aload_n 0, 1), (42, .aconst_null, 1), (43, .putfield 57, 3), (46, .return_, 1)]
set_option maxRecDepth 65536 in
theorem d_st : ∀ x ∈ Ld_st, decode prog_88_method_2_code x.1 = .ok (x.2.1, x.2.2) := by decide +kernel
theorem ef_rmSTn (m : MethodId) (b fa ac fc cm ft su pr : Addr) (cc tc : Int32) (vv : Addr) (cv : Int32) : entryFrame m #[(.ref b), .null, (.int (0 : Int32)), (.ref vv), (.int cv)] 5 = mkF m 0 #[.val (.ref b), .val .null, .val (.int (0 : Int32)), .val (.ref vv), .val (.int cv)] [] := by first | (simp [entryFrame, mkF, argsToLocals, Value.category]; done) | rfl
def QrmSTn (Z : State) (b fa ac fc cm ft su pr : Addr) (cc tc : Int32) (vv : Addr) (cv : Int32) (Rr : List (Addr × (Cell → Prop))) (n0 : Nat) (v : Option Value) (h : Heap) (L : List Loc) : Prop := v = none ∧ Fr n0 L ∧ Wo n0 h ((b, oB Z [.null, (kI 0), (kR vv), (kI cv), (kR fa), (kR ac), (kR fc), (kR cm), (kR ft), (kR su), (kR pr), (kI 0), (kI 0), (kI 0), (kI 0), .null]) :: Rr)
set_option maxRecDepth 65536 in
set_option maxHeartbeats 40000000 in
theorem rmSTn (l : Launch) (Z : State) (a0 : Array Value) (hw : ∀ d ∈ tables_1, d.before a0 Z = true) (ws : List Jvm.Cond) (b fa ac fc cm ft su pr : Addr) (cc tc : Int32) (vv : Addr) (cv : Int32) (Rr : List (Addr × (Cell → Prop))) (h0 : Heap) (n0 : Nat) (W0 : Wo n0 h0 ((b, oB Z [.null, (kI 0), .null, (kI 0), (kR fa), (kR ac), (kR fc), (kR cm), (kR ft), (kR su), (kR pr), (kI cc), (kI 0), (kI 0), (kI tc), .null]) :: Rr)) :
    MetFree l y_st (head1 (Jvm.Cond.code y_st prog_88_method_2_code 5 none :: ws) ({ frames := 0, cells := 0, slots := 0, locals := 0 } : Room)) (fun aa U => aa = #[(.ref b), .null, (.int (0 : Int32)), (.ref vv), (.int cv)] ∧ Z.Warmed39 U.vm ∧ U.heap = h0) (fun _ _ _ _ _ => True) (fun _ U ou U' => ∃ v L, ou = .returned v ∧ QrmSTn Z b fa ac fc cm ft su pr cc tc vv cv Rr n0 v U'.heap L ∧ FrameEnd U ou U' L ({ frames := 0, cells := 0, slots := 0, locals := 0 } : Room).cells ({ frames := 0, cells := 0, slots := 0, locals := 0 } : Room).slots) := by
  refine MetFree.of_bodySF (plainFor_of_name pn_Rows_Builder) hisR ?_
  intro p e s m args below meth c s₁ Bd hml0 hP hK
  obtain ⟨rfl, hZ, hh⟩ := hP
  have hx := Bd.exec
  have hby := Bd.bytes
  have hml : c.maxLocals = 5 := hml0
  have hD : ∀ (k : Nat) {pc : Nat} {i : Instr} {n : Nat}, Ld_st[k]? = some (pc, i, n) → decode c.code pc = .ok (i, n) := by intro k pc i n h; exact hb hby (d_st (pc, i, n) (mi k h))
  have hown : s.vm.findClass "com/example/sambre/sambre/engine/Rows$Builder" = some m.cls := findClass_of_methodNamed Bd.named
  have hnm := (name_of_methodNamed Bd.named Bd.method).1
  have X0 : Stand p l e ({ frames := 0, cells := 0, slots := 0, locals := 0 } : Room) s m #[(.ref b), .null, (.int (0 : Int32)), (.ref vv), (.int cv)] below meth c s₁ [] 0 0 := Stand.of_body Bd
  have e0 : s₁.heap = h0 := by rw [← hh, Bd.state]; rfl
  have N0 := Fr.nil n0
  obtain ⟨F0, hF0⟩ : ∃ F, F = mkF m 0 #[.val (.ref b), .val .null, .val (.int (0 : Int32)), .val (.ref vv), .val (.int cv)] [] := ⟨_, rfl⟩
  have pre0 : ∀ t, Steps p.tables e below (s₁.setTop F0) t → Steps p.tables e below (s₁.setTop (entryFrame m #[(.ref b), .null, (.int (0 : Int32)), (.ref vv), (.int cv)] 5)) t := fun t k => castTop ((ef_rmSTn m b fa ac fc cm ft su pr cc tc vv cv).trans hF0.symm) k
  have K0 : Rch p e below s₁ F0 s₁ (mkF m 0 #[.val (.ref b), .val .null, .val (.int (0 : Int32)), .val (.ref vv), .val (.int cv)] []) := fun t k => castTop hF0 k
  have K1 : Rc K0 s₁ (mkF m 2 #[sR b, .val .null, sI 0, sR vv, sI cv] [.null, (kR b)]) := fun t k => K0 t (by
    refine XS.aloadN X0.here hx rfl (hD 0 rfl) rfl rfl ?_
    refine XS.aloadN X0.here hx rfl (hD 1 rfl) rfl rfl ?_
    exact k)
  obtain ⟨T2, h2, L2, X2, e2, N2, W2q, st2⟩ := putW X0 hx hZ hown (host := "") (Or.inl (hw _ (mi 68 rfl))) e0 W0 N0 (own_dB hw) (Or.inl (hw _ (mi 69 rfl))) (hw _ (mi 43 rfl)) (ty := (.array .int)) (by decide +kernel) (i := 0) (a := b) rfl (j := 0) rfl rfl (v := .null) rfl rfl (g := K1.g) rfl rfl (hD 2 rfl)
  have K3 : Rc K0 T2 (mkF m 7 #[sR b, .val .null, sI 0, sR vv, sI cv] [(kI 0), (kR b)]) := fun t k => K1 t (st2 t (by
    refine XS.aloadN X2.here hx rfl (hD 3 rfl) rfl rfl ?_
    refine XS.iloadN X2.here hx rfl (hD 4 rfl) rfl ?_
    exact k))
  obtain ⟨T4, h4, L4, X4, e4, N4, W4q, st4⟩ := putW X2 hx hZ hown (host := "") (Or.inl (hw _ (mi 70 rfl))) e2 W2q N2 (own_dB hw) (Or.inl (hw _ (mi 71 rfl))) (hw _ (mi 43 rfl)) (ty := .int) (by decide +kernel) (i := 0) (a := b) rfl (j := 1) rfl rfl (v := (.int (0 : Int32))) rfl rfl (g := K3.g) rfl rfl (hD 5 rfl)
  have K5 : Rc K0 T4 (mkF m 12 #[sR b, .val .null, sI 0, sR vv, sI cv] [(kR vv), (kR b)]) := fun t k => K3 t (st4 t (by
    refine XS.aloadN X4.here hx rfl (hD 6 rfl) rfl rfl ?_
    refine XS.aloadN X4.here hx rfl (hD 7 rfl) rfl rfl ?_
    exact k))
  obtain ⟨T6, h6, L6, X6, e6, N6, W6q, st6⟩ := putW X4 hx hZ hown (host := "") (Or.inl (hw _ (mi 72 rfl))) e4 W4q N4 (own_dB hw) (Or.inl (hw _ (mi 73 rfl))) (hw _ (mi 43 rfl)) (ty := (.array .double)) (by decide +kernel) (i := 0) (a := b) rfl (j := 2) rfl rfl (v := (.ref vv)) rfl rfl (g := K5.g) rfl rfl (hD 8 rfl)
  have K7 : Rc K0 T6 (mkF m 18 #[sR b, .val .null, sI 0, sR vv, sI cv] [(kI cv), (kR b)]) := fun t k => K5 t (st6 t (by
    refine XS.aloadN X6.here hx rfl (hD 9 rfl) rfl rfl ?_
    refine XS.iload X6.here hx rfl (hD 10 rfl) rfl ?_
    exact k))
  obtain ⟨T8, h8, L8, X8, e8, N8, W8q, st8⟩ := putW X6 hx hZ hown (host := "") (Or.inl (hw _ (mi 74 rfl))) e6 W6q N6 (own_dB hw) (Or.inl (hw _ (mi 75 rfl))) (hw _ (mi 43 rfl)) (ty := .int) (by decide +kernel) (i := 0) (a := b) rfl (j := 3) rfl rfl (v := (.int cv)) rfl rfl (g := K7.g) rfl rfl (hD 11 rfl)
  have W8 : Wo n0 h8 ((b, oB Z [.null, (kI 0), (kR vv), (kI cv), (kR fa), (kR ac), (kR fc), (kR cm), (kR ft), (kR su), (kR pr), (kI cc), (kI 0), (kI 0), (kI tc), .null]) :: Rr) := W8q
  have K9 : Rc K0 T8 (mkF m 23 #[sR b, .val .null, sI 0, sR vv, sI cv] [(kI 0), (kR b)]) := fun t k => K7 t (st8 t (by
    refine XS.aloadN X8.here hx rfl (hD 12 rfl) rfl rfl ?_
    refine XS.iconst X8.here hx rfl (hD 13 rfl) ?_
    exact k))
  obtain ⟨T10, h10, L10, X10, e10, N10, W10q, st10⟩ := putW X8 hx hZ hown (host := "") (Or.inl (hw _ (mi 76 rfl))) e8 W8 N8 (own_dB hw) (Or.inl (hw _ (mi 77 rfl))) (hw _ (mi 43 rfl)) (ty := .int) (by decide +kernel) (i := 0) (a := b) rfl (j := 11) rfl rfl (v := (.int (0 : Int32))) rfl rfl (g := K9.g) rfl rfl (hD 14 rfl)
  have K11 : Rc K0 T10 (mkF m 28 #[sR b, .val .null, sI 0, sR vv, sI cv] [(kI 0), (kR b)]) := fun t k => K9 t (st10 t (by
    refine XS.aloadN X10.here hx rfl (hD 15 rfl) rfl rfl ?_
    refine XS.iconst X10.here hx rfl (hD 16 rfl) ?_
    exact k))
  obtain ⟨T12, h12, L12, X12, e12, N12, W12q, st12⟩ := putW X10 hx hZ hown (host := "") (Or.inl (hw _ (mi 78 rfl))) e10 W10q N10 (own_dB hw) (Or.inl (hw _ (mi 79 rfl))) (hw _ (mi 43 rfl)) (ty := .int) (by decide +kernel) (i := 0) (a := b) rfl (j := 12) rfl rfl (v := (.int (0 : Int32))) rfl rfl (g := K11.g) rfl rfl (hD 17 rfl)
  have K13 : Rc K0 T12 (mkF m 33 #[sR b, .val .null, sI 0, sR vv, sI cv] [(kI 0), (kR b)]) := fun t k => K11 t (st12 t (by
    refine XS.aloadN X12.here hx rfl (hD 18 rfl) rfl rfl ?_
    refine XS.iconst X12.here hx rfl (hD 19 rfl) ?_
    exact k))
  obtain ⟨T14, h14, L14, X14, e14, N14, W14q, st14⟩ := putW X12 hx hZ hown (host := "") (Or.inl (hw _ (mi 80 rfl))) e12 W12q N12 (own_dB hw) (Or.inl (hw _ (mi 81 rfl))) (hw _ (mi 43 rfl)) (ty := .int) (by decide +kernel) (i := 0) (a := b) rfl (j := 13) rfl rfl (v := (.int (0 : Int32))) rfl rfl (g := K13.g) rfl rfl (hD 20 rfl)
  have K15 : Rc K0 T14 (mkF m 38 #[sR b, .val .null, sI 0, sR vv, sI cv] [(kI 0), (kR b)]) := fun t k => K13 t (st14 t (by
    refine XS.aloadN X14.here hx rfl (hD 21 rfl) rfl rfl ?_
    refine XS.iconst X14.here hx rfl (hD 22 rfl) ?_
    exact k))
  obtain ⟨T16, h16, L16, X16, e16, N16, W16q, st16⟩ := putW X14 hx hZ hown (host := "") (Or.inl (hw _ (mi 82 rfl))) e14 W14q N14 (own_dB hw) (Or.inl (hw _ (mi 83 rfl))) (hw _ (mi 43 rfl)) (ty := .int) (by decide +kernel) (i := 0) (a := b) rfl (j := 14) rfl rfl (v := (.int (0 : Int32))) rfl rfl (g := K15.g) rfl rfl (hD 23 rfl)
  have W16 : Wo n0 h16 ((b, oB Z [.null, (kI 0), (kR vv), (kI cv), (kR fa), (kR ac), (kR fc), (kR cm), (kR ft), (kR su), (kR pr), (kI 0), (kI 0), (kI 0), (kI 0), .null]) :: Rr) := W16q
  have K17 : Rc K0 T16 (mkF m 43 #[sR b, .val .null, sI 0, sR vv, sI cv] [.null, (kR b)]) := fun t k => K15 t (st16 t (by
    refine XS.aloadN X16.here hx rfl (hD 24 rfl) rfl rfl ?_
    refine XS.aconstNull X16.here hx rfl (hD 25 rfl) ?_
    exact k))
  obtain ⟨T18, h18, L18, X18, e18, N18, W18q, st18⟩ := putW X16 hx hZ hown (host := "") (Or.inl (hw _ (mi 84 rfl))) e16 W16 N16 (own_dB hw) (Or.inl (hw _ (mi 85 rfl))) (hw _ (mi 43 rfl)) (ty := (.object "java/util/Map")) (by decide +kernel) (i := 0) (a := b) rfl (j := 15) rfl rfl (v := .null) rfl rfl (g := K17.g) rfl rfl (hD 26 rfl)
  have K19 : Rc K0 T18 (mkF m 46 #[sR b, .val .null, sI 0, sR vv, sI cv] []) := fun t k => K17 t (st18 t (k))
  obtain ⟨fs, hr, hrun, hended, hWm, hsame⟩ := X18.leave (v := none) (fun _ => rfl)
  refine ⟨_, _, pre0 _ (K19 _ (X18.returnOut hx Bd.returns (hD 27 rfl) hr)), hrun, hended, _, _, rfl, ?_, ⟨_, rfl⟩, hWm, hsame.mono (by decide) (by decide)⟩
  show QrmSTn Z b fa ac fc cm ft su pr cc tc vv cv Rr n0 _ T18.heap _
  rw [e18]
  exact ⟨rfl, N18, W18q⟩
theorem ef_rmSTv (m : MethodId) (b fa ac fc cm ft su pr : Addr) (cc tc : Int32) (vv : Addr) (cv : Int32) (v0 : Addr) (c0 : Int32) : entryFrame m #[(.ref b), .null, (.int (0 : Int32)), (.ref vv), (.int cv)] 5 = mkF m 0 #[.val (.ref b), .val .null, .val (.int (0 : Int32)), .val (.ref vv), .val (.int cv)] [] := by first | (simp [entryFrame, mkF, argsToLocals, Value.category]; done) | rfl
def QrmSTv (Z : State) (b fa ac fc cm ft su pr : Addr) (cc tc : Int32) (vv : Addr) (cv : Int32) (v0 : Addr) (c0 : Int32) (Rr : List (Addr × (Cell → Prop))) (n0 : Nat) (v : Option Value) (h : Heap) (L : List Loc) : Prop := v = none ∧ Fr n0 L ∧ Wo n0 h ((b, oB Z [.null, (kI 0), (kR vv), (kI cv), (kR fa), (kR ac), (kR fc), (kR cm), (kR ft), (kR su), (kR pr), (kI 0), (kI 0), (kI 0), (kI 0), .null]) :: Rr)
set_option maxRecDepth 65536 in
set_option maxHeartbeats 40000000 in
theorem rmSTv (l : Launch) (Z : State) (a0 : Array Value) (hw : ∀ d ∈ tables_1, d.before a0 Z = true) (ws : List Jvm.Cond) (b fa ac fc cm ft su pr : Addr) (cc tc : Int32) (vv : Addr) (cv : Int32) (v0 : Addr) (c0 : Int32) (Rr : List (Addr × (Cell → Prop))) (h0 : Heap) (n0 : Nat) (W0 : Wo n0 h0 ((b, oB Z [.null, (kI 0), (kR v0), (kI c0), (kR fa), (kR ac), (kR fc), (kR cm), (kR ft), (kR su), (kR pr), (kI cc), (kI 0), (kI 0), (kI tc), .null]) :: Rr)) :
    MetFree l y_st (head1 (Jvm.Cond.code y_st prog_88_method_2_code 5 none :: ws) ({ frames := 0, cells := 0, slots := 0, locals := 0 } : Room)) (fun aa U => aa = #[(.ref b), .null, (.int (0 : Int32)), (.ref vv), (.int cv)] ∧ Z.Warmed39 U.vm ∧ U.heap = h0) (fun _ _ _ _ _ => True) (fun _ U ou U' => ∃ v L, ou = .returned v ∧ QrmSTv Z b fa ac fc cm ft su pr cc tc vv cv v0 c0 Rr n0 v U'.heap L ∧ FrameEnd U ou U' L ({ frames := 0, cells := 0, slots := 0, locals := 0 } : Room).cells ({ frames := 0, cells := 0, slots := 0, locals := 0 } : Room).slots) := by
  refine MetFree.of_bodySF (plainFor_of_name pn_Rows_Builder) hisR ?_
  intro p e s m args below meth c s₁ Bd hml0 hP hK
  obtain ⟨rfl, hZ, hh⟩ := hP
  have hx := Bd.exec
  have hby := Bd.bytes
  have hml : c.maxLocals = 5 := hml0
  have hD : ∀ (k : Nat) {pc : Nat} {i : Instr} {n : Nat}, Ld_st[k]? = some (pc, i, n) → decode c.code pc = .ok (i, n) := by intro k pc i n h; exact hb hby (d_st (pc, i, n) (mi k h))
  have hown : s.vm.findClass "com/example/sambre/sambre/engine/Rows$Builder" = some m.cls := findClass_of_methodNamed Bd.named
  have hnm := (name_of_methodNamed Bd.named Bd.method).1
  have X0 : Stand p l e ({ frames := 0, cells := 0, slots := 0, locals := 0 } : Room) s m #[(.ref b), .null, (.int (0 : Int32)), (.ref vv), (.int cv)] below meth c s₁ [] 0 0 := Stand.of_body Bd
  have e0 : s₁.heap = h0 := by rw [← hh, Bd.state]; rfl
  have N0 := Fr.nil n0
  obtain ⟨F0, hF0⟩ : ∃ F, F = mkF m 0 #[.val (.ref b), .val .null, .val (.int (0 : Int32)), .val (.ref vv), .val (.int cv)] [] := ⟨_, rfl⟩
  have pre0 : ∀ t, Steps p.tables e below (s₁.setTop F0) t → Steps p.tables e below (s₁.setTop (entryFrame m #[(.ref b), .null, (.int (0 : Int32)), (.ref vv), (.int cv)] 5)) t := fun t k => castTop ((ef_rmSTv m b fa ac fc cm ft su pr cc tc vv cv v0 c0).trans hF0.symm) k
  have K0 : Rch p e below s₁ F0 s₁ (mkF m 0 #[.val (.ref b), .val .null, .val (.int (0 : Int32)), .val (.ref vv), .val (.int cv)] []) := fun t k => castTop hF0 k
  have K1 : Rc K0 s₁ (mkF m 2 #[sR b, .val .null, sI 0, sR vv, sI cv] [.null, (kR b)]) := fun t k => K0 t (by
    refine XS.aloadN X0.here hx rfl (hD 0 rfl) rfl rfl ?_
    refine XS.aloadN X0.here hx rfl (hD 1 rfl) rfl rfl ?_
    exact k)
  obtain ⟨T2, h2, L2, X2, e2, N2, W2q, st2⟩ := putW X0 hx hZ hown (host := "") (Or.inl (hw _ (mi 68 rfl))) e0 W0 N0 (own_dB hw) (Or.inl (hw _ (mi 69 rfl))) (hw _ (mi 43 rfl)) (ty := (.array .int)) (by decide +kernel) (i := 0) (a := b) rfl (j := 0) rfl rfl (v := .null) rfl rfl (g := K1.g) rfl rfl (hD 2 rfl)
  have K3 : Rc K0 T2 (mkF m 7 #[sR b, .val .null, sI 0, sR vv, sI cv] [(kI 0), (kR b)]) := fun t k => K1 t (st2 t (by
    refine XS.aloadN X2.here hx rfl (hD 3 rfl) rfl rfl ?_
    refine XS.iloadN X2.here hx rfl (hD 4 rfl) rfl ?_
    exact k))
  obtain ⟨T4, h4, L4, X4, e4, N4, W4q, st4⟩ := putW X2 hx hZ hown (host := "") (Or.inl (hw _ (mi 70 rfl))) e2 W2q N2 (own_dB hw) (Or.inl (hw _ (mi 71 rfl))) (hw _ (mi 43 rfl)) (ty := .int) (by decide +kernel) (i := 0) (a := b) rfl (j := 1) rfl rfl (v := (.int (0 : Int32))) rfl rfl (g := K3.g) rfl rfl (hD 5 rfl)
  have K5 : Rc K0 T4 (mkF m 12 #[sR b, .val .null, sI 0, sR vv, sI cv] [(kR vv), (kR b)]) := fun t k => K3 t (st4 t (by
    refine XS.aloadN X4.here hx rfl (hD 6 rfl) rfl rfl ?_
    refine XS.aloadN X4.here hx rfl (hD 7 rfl) rfl rfl ?_
    exact k))
  obtain ⟨T6, h6, L6, X6, e6, N6, W6q, st6⟩ := putW X4 hx hZ hown (host := "") (Or.inl (hw _ (mi 72 rfl))) e4 W4q N4 (own_dB hw) (Or.inl (hw _ (mi 73 rfl))) (hw _ (mi 43 rfl)) (ty := (.array .double)) (by decide +kernel) (i := 0) (a := b) rfl (j := 2) rfl rfl (v := (.ref vv)) rfl rfl (g := K5.g) rfl rfl (hD 8 rfl)
  have K7 : Rc K0 T6 (mkF m 18 #[sR b, .val .null, sI 0, sR vv, sI cv] [(kI cv), (kR b)]) := fun t k => K5 t (st6 t (by
    refine XS.aloadN X6.here hx rfl (hD 9 rfl) rfl rfl ?_
    refine XS.iload X6.here hx rfl (hD 10 rfl) rfl ?_
    exact k))
  obtain ⟨T8, h8, L8, X8, e8, N8, W8q, st8⟩ := putW X6 hx hZ hown (host := "") (Or.inl (hw _ (mi 74 rfl))) e6 W6q N6 (own_dB hw) (Or.inl (hw _ (mi 75 rfl))) (hw _ (mi 43 rfl)) (ty := .int) (by decide +kernel) (i := 0) (a := b) rfl (j := 3) rfl rfl (v := (.int cv)) rfl rfl (g := K7.g) rfl rfl (hD 11 rfl)
  have W8 : Wo n0 h8 ((b, oB Z [.null, (kI 0), (kR vv), (kI cv), (kR fa), (kR ac), (kR fc), (kR cm), (kR ft), (kR su), (kR pr), (kI cc), (kI 0), (kI 0), (kI tc), .null]) :: Rr) := W8q
  have K9 : Rc K0 T8 (mkF m 23 #[sR b, .val .null, sI 0, sR vv, sI cv] [(kI 0), (kR b)]) := fun t k => K7 t (st8 t (by
    refine XS.aloadN X8.here hx rfl (hD 12 rfl) rfl rfl ?_
    refine XS.iconst X8.here hx rfl (hD 13 rfl) ?_
    exact k))
  obtain ⟨T10, h10, L10, X10, e10, N10, W10q, st10⟩ := putW X8 hx hZ hown (host := "") (Or.inl (hw _ (mi 76 rfl))) e8 W8 N8 (own_dB hw) (Or.inl (hw _ (mi 77 rfl))) (hw _ (mi 43 rfl)) (ty := .int) (by decide +kernel) (i := 0) (a := b) rfl (j := 11) rfl rfl (v := (.int (0 : Int32))) rfl rfl (g := K9.g) rfl rfl (hD 14 rfl)
  have K11 : Rc K0 T10 (mkF m 28 #[sR b, .val .null, sI 0, sR vv, sI cv] [(kI 0), (kR b)]) := fun t k => K9 t (st10 t (by
    refine XS.aloadN X10.here hx rfl (hD 15 rfl) rfl rfl ?_
    refine XS.iconst X10.here hx rfl (hD 16 rfl) ?_
    exact k))
  obtain ⟨T12, h12, L12, X12, e12, N12, W12q, st12⟩ := putW X10 hx hZ hown (host := "") (Or.inl (hw _ (mi 78 rfl))) e10 W10q N10 (own_dB hw) (Or.inl (hw _ (mi 79 rfl))) (hw _ (mi 43 rfl)) (ty := .int) (by decide +kernel) (i := 0) (a := b) rfl (j := 12) rfl rfl (v := (.int (0 : Int32))) rfl rfl (g := K11.g) rfl rfl (hD 17 rfl)
  have K13 : Rc K0 T12 (mkF m 33 #[sR b, .val .null, sI 0, sR vv, sI cv] [(kI 0), (kR b)]) := fun t k => K11 t (st12 t (by
    refine XS.aloadN X12.here hx rfl (hD 18 rfl) rfl rfl ?_
    refine XS.iconst X12.here hx rfl (hD 19 rfl) ?_
    exact k))
  obtain ⟨T14, h14, L14, X14, e14, N14, W14q, st14⟩ := putW X12 hx hZ hown (host := "") (Or.inl (hw _ (mi 80 rfl))) e12 W12q N12 (own_dB hw) (Or.inl (hw _ (mi 81 rfl))) (hw _ (mi 43 rfl)) (ty := .int) (by decide +kernel) (i := 0) (a := b) rfl (j := 13) rfl rfl (v := (.int (0 : Int32))) rfl rfl (g := K13.g) rfl rfl (hD 20 rfl)
  have K15 : Rc K0 T14 (mkF m 38 #[sR b, .val .null, sI 0, sR vv, sI cv] [(kI 0), (kR b)]) := fun t k => K13 t (st14 t (by
    refine XS.aloadN X14.here hx rfl (hD 21 rfl) rfl rfl ?_
    refine XS.iconst X14.here hx rfl (hD 22 rfl) ?_
    exact k))
  obtain ⟨T16, h16, L16, X16, e16, N16, W16q, st16⟩ := putW X14 hx hZ hown (host := "") (Or.inl (hw _ (mi 82 rfl))) e14 W14q N14 (own_dB hw) (Or.inl (hw _ (mi 83 rfl))) (hw _ (mi 43 rfl)) (ty := .int) (by decide +kernel) (i := 0) (a := b) rfl (j := 14) rfl rfl (v := (.int (0 : Int32))) rfl rfl (g := K15.g) rfl rfl (hD 23 rfl)
  have W16 : Wo n0 h16 ((b, oB Z [.null, (kI 0), (kR vv), (kI cv), (kR fa), (kR ac), (kR fc), (kR cm), (kR ft), (kR su), (kR pr), (kI 0), (kI 0), (kI 0), (kI 0), .null]) :: Rr) := W16q
  have K17 : Rc K0 T16 (mkF m 43 #[sR b, .val .null, sI 0, sR vv, sI cv] [.null, (kR b)]) := fun t k => K15 t (st16 t (by
    refine XS.aloadN X16.here hx rfl (hD 24 rfl) rfl rfl ?_
    refine XS.aconstNull X16.here hx rfl (hD 25 rfl) ?_
    exact k))
  obtain ⟨T18, h18, L18, X18, e18, N18, W18q, st18⟩ := putW X16 hx hZ hown (host := "") (Or.inl (hw _ (mi 84 rfl))) e16 W16 N16 (own_dB hw) (Or.inl (hw _ (mi 85 rfl))) (hw _ (mi 43 rfl)) (ty := (.object "java/util/Map")) (by decide +kernel) (i := 0) (a := b) rfl (j := 15) rfl rfl (v := .null) rfl rfl (g := K17.g) rfl rfl (hD 26 rfl)
  have K19 : Rc K0 T18 (mkF m 46 #[sR b, .val .null, sI 0, sR vv, sI cv] []) := fun t k => K17 t (st18 t (k))
  obtain ⟨fs, hr, hrun, hended, hWm, hsame⟩ := X18.leave (v := none) (fun _ => rfl)
  refine ⟨_, _, pre0 _ (K19 _ (X18.returnOut hx Bd.returns (hD 27 rfl) hr)), hrun, hended, _, _, rfl, ?_, ⟨_, rfl⟩, hWm, hsame.mono (by decide) (by decide)⟩
  show QrmSTv Z b fa ac fc cm ft su pr cc tc vv cv v0 c0 Rr n0 _ T18.heap _
  rw [e18]
  exact ⟨rfl, N18, W18q⟩
abbrev y_sc : MethodName := ⟨"com/example/sambre/sambre/engine/Rows$Builder", "startChoice", "()V"⟩
theorem pd_sc : parseMethodDescriptor "()V" = some ⟨[], none⟩ := by decide +kernel
def Ld_sc : List (Nat × Instr × Nat) := [(0, .aload_n 0, 1), (1, .getfield 45, 3), (4, .aload_n 0, 1), (5, .getfield 7, 3), (8, .arraylength, 1), (9, .if_icmp .ne 54, 3), (63, .aload_n 0, 1), (64, .getfield 7, 3), (67, .aload_n 0, 1), (68, .getfield 45, 3), (71, .aload_n 0, 1), (72, .getfield 48, 3), (75, .iastore, 1), (76, .aload_n 0, 1), (77, .getfield 16, 3), (80, .aload_n 0, 1), (81, .getfield 45, 3), (84, .aload_n 0, 1), (85, .getfield 51, 3), (88, .iastore, 1), (89, .aload_n 0, 1), (90, .getfield 22, 3), (93, .aload_n 0, 1), (94, .dup, 1), (95, .getfield 45, 3), (98, .dup_x1, 1), (99, .iconst 1, 1), (100, .iadd, 1), (101, .putfield 45, 3), (104, .aload_n 0, 1), (105, .getfield 54, 3), (108, .iastore, 1), (109, .aload_n 0, 1), (110, .aconst_null, 1), (111, .putfield 57, 3), (114, .return_, 1)]
set_option maxRecDepth 65536 in
theorem d_sc : ∀ x ∈ Ld_sc, decode prog_88_method_3_code x.1 = .ok (x.2.1, x.2.2) := by decide +kernel
theorem ef_rmSC0 (m : MethodId) (b fa ac fc cm ft su pr : Addr) (vv : Addr) (cv tc : Int32) (f1 f2 f3 : Nat → Value) : entryFrame m #[(.ref b)] 1 = mkF m 0 #[.val (.ref b)] [] := by first | (simp [entryFrame, mkF, argsToLocals, Value.category]; done) | rfl
def QrmSC0 (Z : State) (b fa ac fc cm ft su pr : Addr) (vv : Addr) (cv tc : Int32) (f1 f2 f3 : Nat → Value) (Rr : List (Addr × (Cell → Prop))) (n0 : Nat) (v : Option Value) (h : Heap) (L : List Loc) : Prop := v = none ∧ Fr n0 L ∧ Wo n0 h ((b, oB Z [.null, (kI 0), (kR vv), (kI cv), (kR fa), (kR ac), (kR fc), (kR cm), (kR ft), (kR su), (kR pr), (kI 1), (kI 0), (kI 0), (kI tc), .null]) :: (fa, Ar Z .int 2 (upd f1 0 (kI 0))) :: (fc, Ar Z .int 2 (upd f2 0 (kI 0))) :: (ft, Ar Z .int 2 (upd f3 0 (kI tc))) :: Rr)
set_option maxRecDepth 65536 in
set_option maxHeartbeats 40000000 in
theorem rmSC0 (l : Launch) (Z : State) (a0 : Array Value) (hw : ∀ d ∈ tables_1, d.before a0 Z = true) (ws : List Jvm.Cond) (b fa ac fc cm ft su pr : Addr) (vv : Addr) (cv tc : Int32) (f1 f2 f3 : Nat → Value) (Rr : List (Addr × (Cell → Prop))) (h0 : Heap) (n0 : Nat) (W0 : Wo n0 h0 ((b, oB Z [.null, (kI 0), (kR vv), (kI cv), (kR fa), (kR ac), (kR fc), (kR cm), (kR ft), (kR su), (kR pr), (kI 0), (kI 0), (kI 0), (kI tc), .null]) :: (fa, Ar Z .int 2 f1) :: (fc, Ar Z .int 2 f2) :: (ft, Ar Z .int 2 f3) :: Rr)) :
    MetFree l y_sc (head1 (Jvm.Cond.code y_sc prog_88_method_3_code 1 none :: ws) ({ frames := 0, cells := 0, slots := 0, locals := 0 } : Room)) (fun aa U => aa = #[(.ref b)] ∧ Z.Warmed39 U.vm ∧ U.heap = h0) (fun _ _ _ _ _ => True) (fun _ U ou U' => ∃ v L, ou = .returned v ∧ QrmSC0 Z b fa ac fc cm ft su pr vv cv tc f1 f2 f3 Rr n0 v U'.heap L ∧ FrameEnd U ou U' L ({ frames := 0, cells := 0, slots := 0, locals := 0 } : Room).cells ({ frames := 0, cells := 0, slots := 0, locals := 0 } : Room).slots) := by
  refine MetFree.of_bodySF (plainFor_of_name pn_Rows_Builder) hisR ?_
  intro p e s m args below meth c s₁ Bd hml0 hP hK
  obtain ⟨rfl, hZ, hh⟩ := hP
  have hx := Bd.exec
  have hby := Bd.bytes
  have hml : c.maxLocals = 1 := hml0
  have hD : ∀ (k : Nat) {pc : Nat} {i : Instr} {n : Nat}, Ld_sc[k]? = some (pc, i, n) → decode c.code pc = .ok (i, n) := by intro k pc i n h; exact hb hby (d_sc (pc, i, n) (mi k h))
  have hown : s.vm.findClass "com/example/sambre/sambre/engine/Rows$Builder" = some m.cls := findClass_of_methodNamed Bd.named
  have hnm := (name_of_methodNamed Bd.named Bd.method).1
  have X0 : Stand p l e ({ frames := 0, cells := 0, slots := 0, locals := 0 } : Room) s m #[(.ref b)] below meth c s₁ [] 0 0 := Stand.of_body Bd
  have e0 : s₁.heap = h0 := by rw [← hh, Bd.state]; rfl
  have N0 := Fr.nil n0
  obtain ⟨F0, hF0⟩ : ∃ F, F = mkF m 0 #[.val (.ref b)] [] := ⟨_, rfl⟩
  have pre0 : ∀ t, Steps p.tables e below (s₁.setTop F0) t → Steps p.tables e below (s₁.setTop (entryFrame m #[(.ref b)] 1)) t := fun t k => castTop ((ef_rmSC0 m b fa ac fc cm ft su pr vv cv tc f1 f2 f3).trans hF0.symm) k
  have K0 : Rch p e below s₁ F0 s₁ (mkF m 0 #[.val (.ref b)] []) := fun t k => castTop hF0 k
  have K1 : Rc K0 s₁ (mkF m 1 #[sR b] [(kR b)]) := fun t k => K0 t (XS.aloadN X0.here hx rfl (hD 0 rfl) rfl rfl k)
  obtain ⟨T2, X2, e2, st2⟩ := getF X0 hx hZ hown (host := "") (Or.inl (hw _ (mi 76 rfl))) Via.refl e0 (W0.fld (i := 0) rfl (j := 11) rfl rfl) (g := K1.g) rfl rfl (hD 1 rfl)
  have K3 : Rc K0 T2 (mkF m 5 #[sR b] [(kR b), (kI 0)]) := fun t k => K1 t (st2 t (XS.aloadN X2.here hx rfl (hD 2 rfl) rfl rfl k))
  obtain ⟨T4, X4, e4, st4⟩ := getF X2 hx hZ hown (host := "") (Or.inl (hw _ (mi 49 rfl))) Via.refl e2 (W0.fld (i := 0) rfl (j := 4) rfl rfl) (g := K3.g) rfl rfl (hD 3 rfl)
  have K5 : Rc K0 T4 (mkF m 64 #[sR b] [(kR b)]) := fun t k => K3 t (st4 t (by
    refine lenW X4 hx hZ e4 W0 (i := 1) rfl (fun _ q => q) (z := (2 : Int32)) (by decide) (g := (mkF m 8 #[sR b] [(kR fa), (kI 0)])) rfl rfl (hD 4 rfl) _ ?_
    refine XS.icmpYes X4.here hx rfl (pc0 := 9) (pc' := 63) rfl (hD 5 rfl) rfl (by decide) (by decide) (by decide) ?_
    refine XS.aloadN X4.here hx rfl (hD 6 rfl) rfl rfl ?_
    exact k))
  obtain ⟨T6, X6, e6, st6⟩ := getF X4 hx hZ hown (host := "") (Or.inl (hw _ (mi 49 rfl))) Via.refl e4 (W0.fld (i := 0) rfl (j := 4) rfl rfl) (g := K5.g) rfl rfl (hD 7 rfl)
  have K7 : Rc K0 T6 (mkF m 68 #[sR b] [(kR b), (kR fa)]) := fun t k => K5 t (st6 t (XS.aloadN X6.here hx rfl (hD 8 rfl) rfl rfl k))
  obtain ⟨T8, X8, e8, st8⟩ := getF X6 hx hZ hown (host := "") (Or.inl (hw _ (mi 76 rfl))) Via.refl e6 (W0.fld (i := 0) rfl (j := 11) rfl rfl) (g := K7.g) rfl rfl (hD 9 rfl)
  have K9 : Rc K0 T8 (mkF m 72 #[sR b] [(kR b), (kI 0), (kR fa)]) := fun t k => K7 t (st8 t (XS.aloadN X8.here hx rfl (hD 10 rfl) rfl rfl k))
  obtain ⟨T10, X10, e10, st10⟩ := getF X8 hx hZ hown (host := "") (Or.inl (hw _ (mi 78 rfl))) Via.refl e8 (W0.fld (i := 0) rfl (j := 12) rfl rfl) (g := K9.g) rfl rfl (hD 11 rfl)
  obtain ⟨T11, h11, L11, X11, e11, N11, W11q, st11⟩ := iasW X10 hx hZ e10 W0 N0 (i := 1) (a := fa) rfl (j := (0 : Int32)) (x := (0 : Int32)) (k := 0) (by decide) (by decide) (by decide) (g := (mkF m 75 #[sR b] [(kI 0), (kI 0), (kR fa)])) rfl rfl (hD 12 rfl)
  have K12 : Rc K0 T11 (mkF m 77 #[sR b] [(kR b)]) := fun t k => K9 t (st10 t (st11 t (XS.aloadN X11.here hx rfl (hD 13 rfl) rfl rfl k)))
  obtain ⟨T13, X13, e13, st13⟩ := getF X11 hx hZ hown (host := "") (Or.inl (hw _ (mi 53 rfl))) Via.refl e11 (W11q.fld (i := 0) rfl (j := 6) rfl rfl) (g := K12.g) rfl rfl (hD 14 rfl)
  have K14 : Rc K0 T13 (mkF m 81 #[sR b] [(kR b), (kR fc)]) := fun t k => K12 t (st13 t (XS.aloadN X13.here hx rfl (hD 15 rfl) rfl rfl k))
  obtain ⟨T15, X15, e15, st15⟩ := getF X13 hx hZ hown (host := "") (Or.inl (hw _ (mi 76 rfl))) Via.refl e13 (W11q.fld (i := 0) rfl (j := 11) rfl rfl) (g := K14.g) rfl rfl (hD 16 rfl)
  have K16 : Rc K0 T15 (mkF m 85 #[sR b] [(kR b), (kI 0), (kR fc)]) := fun t k => K14 t (st15 t (XS.aloadN X15.here hx rfl (hD 17 rfl) rfl rfl k))
  obtain ⟨T17, X17, e17, st17⟩ := getF X15 hx hZ hown (host := "") (Or.inl (hw _ (mi 80 rfl))) Via.refl e15 (W11q.fld (i := 0) rfl (j := 13) rfl rfl) (g := K16.g) rfl rfl (hD 18 rfl)
  obtain ⟨T18, h18, L18, X18, e18, N18, W18q, st18⟩ := iasW X17 hx hZ e17 W11q N11 (i := 2) (a := fc) rfl (j := (0 : Int32)) (x := (0 : Int32)) (k := 0) (by decide) (by decide) (by decide) (g := (mkF m 88 #[sR b] [(kI 0), (kI 0), (kR fc)])) rfl rfl (hD 19 rfl)
  have K19 : Rc K0 T18 (mkF m 90 #[sR b] [(kR b)]) := fun t k => K16 t (st17 t (st18 t (XS.aloadN X18.here hx rfl (hD 20 rfl) rfl rfl k)))
  obtain ⟨T20, X20, e20, st20⟩ := getF X18 hx hZ hown (host := "") (Or.inl (hw _ (mi 57 rfl))) Via.refl e18 (W18q.fld (i := 0) rfl (j := 8) rfl rfl) (g := K19.g) rfl rfl (hD 21 rfl)
  have K21 : Rc K0 T20 (mkF m 95 #[sR b] [(kR b), (kR b), (kR ft)]) := fun t k => K19 t (st20 t (by
    refine XS.aloadN X20.here hx rfl (hD 22 rfl) rfl rfl ?_
    refine XS.dup X20.here hx rfl (hD 23 rfl) rfl rfl ?_
    exact k))
  obtain ⟨T22, X22, e22, st22⟩ := getF X20 hx hZ hown (host := "") (Or.inl (hw _ (mi 76 rfl))) Via.refl e20 (W18q.fld (i := 0) rfl (j := 11) rfl rfl) (g := K21.g) rfl rfl (hD 24 rfl)
  have K23 : Rc K0 T22 (mkF m 101 #[sR b] [(kI 1), (kR b), (kI 0), (kR ft)]) := fun t k => K21 t (st22 t (by
    refine XS.dupX1 X22.here hx rfl (hD 25 rfl) rfl rfl rfl ?_
    refine XS.iconst X22.here hx rfl (hD 26 rfl) ?_
    refine XS.iadd X22.here hx rfl (hD 27 rfl) rfl ?_
    exact k))
  obtain ⟨T24, h24, L24, X24, e24, N24, W24q, st24⟩ := putW X22 hx hZ hown (host := "") (Or.inl (hw _ (mi 76 rfl))) e22 W18q N18 (own_dB hw) (Or.inl (hw _ (mi 77 rfl))) (hw _ (mi 43 rfl)) (ty := .int) (by decide +kernel) (i := 0) (a := b) rfl (j := 11) rfl rfl (v := (.int (1 : Int32))) rfl rfl (g := K23.g) rfl rfl (hD 28 rfl)
  have K25 : Rc K0 T24 (mkF m 105 #[sR b] [(kR b), (kI 0), (kR ft)]) := fun t k => K23 t (st24 t (XS.aloadN X24.here hx rfl (hD 29 rfl) rfl rfl k))
  obtain ⟨T26, X26, e26, st26⟩ := getF X24 hx hZ hown (host := "") (Or.inl (hw _ (mi 82 rfl))) Via.refl e24 (W24q.fld (i := 0) rfl (j := 14) rfl rfl) (g := K25.g) rfl rfl (hD 30 rfl)
  obtain ⟨T27, h27, L27, X27, e27, N27, W27q, st27⟩ := iasW X26 hx hZ e26 W24q N24 (i := 3) (a := ft) rfl (j := (0 : Int32)) (x := tc) (k := 0) (by decide) (by decide) (by decide) (g := (mkF m 108 #[sR b] [(kI tc), (kI 0), (kR ft)])) rfl rfl (hD 31 rfl)
  have W27 : Wo n0 h27 ((b, oB Z [.null, (kI 0), (kR vv), (kI cv), (kR fa), (kR ac), (kR fc), (kR cm), (kR ft), (kR su), (kR pr), (kI 1), (kI 0), (kI 0), (kI tc), .null]) :: (fa, Ar Z .int 2 (upd f1 0 (kI 0))) :: (fc, Ar Z .int 2 (upd f2 0 (kI 0))) :: (ft, Ar Z .int 2 (upd f3 0 (kI tc))) :: Rr) := W27q
  have K28 : Rc K0 T27 (mkF m 111 #[sR b] [.null, (kR b)]) := fun t k => K25 t (st26 t (st27 t (by
    refine XS.aloadN X27.here hx rfl (hD 32 rfl) rfl rfl ?_
    refine XS.aconstNull X27.here hx rfl (hD 33 rfl) ?_
    exact k)))
  obtain ⟨T29, h29, L29, X29, e29, N29, W29q, st29⟩ := putW X27 hx hZ hown (host := "") (Or.inl (hw _ (mi 84 rfl))) e27 W27 N27 (own_dB hw) (Or.inl (hw _ (mi 85 rfl))) (hw _ (mi 43 rfl)) (ty := (.object "java/util/Map")) (by decide +kernel) (i := 0) (a := b) rfl (j := 15) rfl rfl (v := .null) rfl rfl (g := K28.g) rfl rfl (hD 34 rfl)
  have K30 : Rc K0 T29 (mkF m 114 #[sR b] []) := fun t k => K28 t (st29 t (k))
  obtain ⟨fs, hr, hrun, hended, hWm, hsame⟩ := X29.leave (v := none) (fun _ => rfl)
  refine ⟨_, _, pre0 _ (K30 _ (X29.returnOut hx Bd.returns (hD 35 rfl) hr)), hrun, hended, _, _, rfl, ?_, ⟨_, rfl⟩, hWm, hsame.mono (by decide) (by decide)⟩
  show QrmSC0 Z b fa ac fc cm ft su pr vv cv tc f1 f2 f3 Rr n0 _ T29.heap _
  rw [e29]
  exact ⟨rfl, N29, W29q⟩
theorem ef_rmSC1 (m : MethodId) (b fa ac fc cm ft su pr : Addr) (vv : Addr) (cv tc : Int32) (f1 f2 f3 : Nat → Value) : entryFrame m #[(.ref b)] 1 = mkF m 0 #[.val (.ref b)] [] := by first | (simp [entryFrame, mkF, argsToLocals, Value.category]; done) | rfl
def QrmSC1 (Z : State) (b fa ac fc cm ft su pr : Addr) (vv : Addr) (cv tc : Int32) (f1 f2 f3 : Nat → Value) (Rr : List (Addr × (Cell → Prop))) (n0 : Nat) (v : Option Value) (h : Heap) (L : List Loc) : Prop := v = none ∧ Fr n0 L ∧ Wo n0 h ((b, oB Z [.null, (kI 0), (kR vv), (kI cv), (kR fa), (kR ac), (kR fc), (kR cm), (kR ft), (kR su), (kR pr), (kI 2), (kI 0), (kI 0), (kI tc), .null]) :: (fa, Ar Z .int 2 (upd f1 1 (kI 0))) :: (fc, Ar Z .int 2 (upd f2 1 (kI 0))) :: (ft, Ar Z .int 2 (upd f3 1 (kI tc))) :: Rr)
set_option maxRecDepth 65536 in
set_option maxHeartbeats 40000000 in
theorem rmSC1 (l : Launch) (Z : State) (a0 : Array Value) (hw : ∀ d ∈ tables_1, d.before a0 Z = true) (ws : List Jvm.Cond) (b fa ac fc cm ft su pr : Addr) (vv : Addr) (cv tc : Int32) (f1 f2 f3 : Nat → Value) (Rr : List (Addr × (Cell → Prop))) (h0 : Heap) (n0 : Nat) (W0 : Wo n0 h0 ((b, oB Z [.null, (kI 0), (kR vv), (kI cv), (kR fa), (kR ac), (kR fc), (kR cm), (kR ft), (kR su), (kR pr), (kI 1), (kI 0), (kI 0), (kI tc), .null]) :: (fa, Ar Z .int 2 f1) :: (fc, Ar Z .int 2 f2) :: (ft, Ar Z .int 2 f3) :: Rr)) :
    MetFree l y_sc (head1 (Jvm.Cond.code y_sc prog_88_method_3_code 1 none :: ws) ({ frames := 0, cells := 0, slots := 0, locals := 0 } : Room)) (fun aa U => aa = #[(.ref b)] ∧ Z.Warmed39 U.vm ∧ U.heap = h0) (fun _ _ _ _ _ => True) (fun _ U ou U' => ∃ v L, ou = .returned v ∧ QrmSC1 Z b fa ac fc cm ft su pr vv cv tc f1 f2 f3 Rr n0 v U'.heap L ∧ FrameEnd U ou U' L ({ frames := 0, cells := 0, slots := 0, locals := 0 } : Room).cells ({ frames := 0, cells := 0, slots := 0, locals := 0 } : Room).slots) := by
  refine MetFree.of_bodySF (plainFor_of_name pn_Rows_Builder) hisR ?_
  intro p e s m args below meth c s₁ Bd hml0 hP hK
  obtain ⟨rfl, hZ, hh⟩ := hP
  have hx := Bd.exec
  have hby := Bd.bytes
  have hml : c.maxLocals = 1 := hml0
  have hD : ∀ (k : Nat) {pc : Nat} {i : Instr} {n : Nat}, Ld_sc[k]? = some (pc, i, n) → decode c.code pc = .ok (i, n) := by intro k pc i n h; exact hb hby (d_sc (pc, i, n) (mi k h))
  have hown : s.vm.findClass "com/example/sambre/sambre/engine/Rows$Builder" = some m.cls := findClass_of_methodNamed Bd.named
  have hnm := (name_of_methodNamed Bd.named Bd.method).1
  have X0 : Stand p l e ({ frames := 0, cells := 0, slots := 0, locals := 0 } : Room) s m #[(.ref b)] below meth c s₁ [] 0 0 := Stand.of_body Bd
  have e0 : s₁.heap = h0 := by rw [← hh, Bd.state]; rfl
  have N0 := Fr.nil n0
  obtain ⟨F0, hF0⟩ : ∃ F, F = mkF m 0 #[.val (.ref b)] [] := ⟨_, rfl⟩
  have pre0 : ∀ t, Steps p.tables e below (s₁.setTop F0) t → Steps p.tables e below (s₁.setTop (entryFrame m #[(.ref b)] 1)) t := fun t k => castTop ((ef_rmSC1 m b fa ac fc cm ft su pr vv cv tc f1 f2 f3).trans hF0.symm) k
  have K0 : Rch p e below s₁ F0 s₁ (mkF m 0 #[.val (.ref b)] []) := fun t k => castTop hF0 k
  have K1 : Rc K0 s₁ (mkF m 1 #[sR b] [(kR b)]) := fun t k => K0 t (XS.aloadN X0.here hx rfl (hD 0 rfl) rfl rfl k)
  obtain ⟨T2, X2, e2, st2⟩ := getF X0 hx hZ hown (host := "") (Or.inl (hw _ (mi 76 rfl))) Via.refl e0 (W0.fld (i := 0) rfl (j := 11) rfl rfl) (g := K1.g) rfl rfl (hD 1 rfl)
  have K3 : Rc K0 T2 (mkF m 5 #[sR b] [(kR b), (kI 1)]) := fun t k => K1 t (st2 t (XS.aloadN X2.here hx rfl (hD 2 rfl) rfl rfl k))
  obtain ⟨T4, X4, e4, st4⟩ := getF X2 hx hZ hown (host := "") (Or.inl (hw _ (mi 49 rfl))) Via.refl e2 (W0.fld (i := 0) rfl (j := 4) rfl rfl) (g := K3.g) rfl rfl (hD 3 rfl)
  have K5 : Rc K0 T4 (mkF m 64 #[sR b] [(kR b)]) := fun t k => K3 t (st4 t (by
    refine lenW X4 hx hZ e4 W0 (i := 1) rfl (fun _ q => q) (z := (2 : Int32)) (by decide) (g := (mkF m 8 #[sR b] [(kR fa), (kI 1)])) rfl rfl (hD 4 rfl) _ ?_
    refine XS.icmpYes X4.here hx rfl (pc0 := 9) (pc' := 63) rfl (hD 5 rfl) rfl (by decide) (by decide) (by decide) ?_
    refine XS.aloadN X4.here hx rfl (hD 6 rfl) rfl rfl ?_
    exact k))
  obtain ⟨T6, X6, e6, st6⟩ := getF X4 hx hZ hown (host := "") (Or.inl (hw _ (mi 49 rfl))) Via.refl e4 (W0.fld (i := 0) rfl (j := 4) rfl rfl) (g := K5.g) rfl rfl (hD 7 rfl)
  have K7 : Rc K0 T6 (mkF m 68 #[sR b] [(kR b), (kR fa)]) := fun t k => K5 t (st6 t (XS.aloadN X6.here hx rfl (hD 8 rfl) rfl rfl k))
  obtain ⟨T8, X8, e8, st8⟩ := getF X6 hx hZ hown (host := "") (Or.inl (hw _ (mi 76 rfl))) Via.refl e6 (W0.fld (i := 0) rfl (j := 11) rfl rfl) (g := K7.g) rfl rfl (hD 9 rfl)
  have K9 : Rc K0 T8 (mkF m 72 #[sR b] [(kR b), (kI 1), (kR fa)]) := fun t k => K7 t (st8 t (XS.aloadN X8.here hx rfl (hD 10 rfl) rfl rfl k))
  obtain ⟨T10, X10, e10, st10⟩ := getF X8 hx hZ hown (host := "") (Or.inl (hw _ (mi 78 rfl))) Via.refl e8 (W0.fld (i := 0) rfl (j := 12) rfl rfl) (g := K9.g) rfl rfl (hD 11 rfl)
  obtain ⟨T11, h11, L11, X11, e11, N11, W11q, st11⟩ := iasW X10 hx hZ e10 W0 N0 (i := 1) (a := fa) rfl (j := (1 : Int32)) (x := (0 : Int32)) (k := 1) (by decide) (by decide) (by decide) (g := (mkF m 75 #[sR b] [(kI 0), (kI 1), (kR fa)])) rfl rfl (hD 12 rfl)
  have K12 : Rc K0 T11 (mkF m 77 #[sR b] [(kR b)]) := fun t k => K9 t (st10 t (st11 t (XS.aloadN X11.here hx rfl (hD 13 rfl) rfl rfl k)))
  obtain ⟨T13, X13, e13, st13⟩ := getF X11 hx hZ hown (host := "") (Or.inl (hw _ (mi 53 rfl))) Via.refl e11 (W11q.fld (i := 0) rfl (j := 6) rfl rfl) (g := K12.g) rfl rfl (hD 14 rfl)
  have K14 : Rc K0 T13 (mkF m 81 #[sR b] [(kR b), (kR fc)]) := fun t k => K12 t (st13 t (XS.aloadN X13.here hx rfl (hD 15 rfl) rfl rfl k))
  obtain ⟨T15, X15, e15, st15⟩ := getF X13 hx hZ hown (host := "") (Or.inl (hw _ (mi 76 rfl))) Via.refl e13 (W11q.fld (i := 0) rfl (j := 11) rfl rfl) (g := K14.g) rfl rfl (hD 16 rfl)
  have K16 : Rc K0 T15 (mkF m 85 #[sR b] [(kR b), (kI 1), (kR fc)]) := fun t k => K14 t (st15 t (XS.aloadN X15.here hx rfl (hD 17 rfl) rfl rfl k))
  obtain ⟨T17, X17, e17, st17⟩ := getF X15 hx hZ hown (host := "") (Or.inl (hw _ (mi 80 rfl))) Via.refl e15 (W11q.fld (i := 0) rfl (j := 13) rfl rfl) (g := K16.g) rfl rfl (hD 18 rfl)
  obtain ⟨T18, h18, L18, X18, e18, N18, W18q, st18⟩ := iasW X17 hx hZ e17 W11q N11 (i := 2) (a := fc) rfl (j := (1 : Int32)) (x := (0 : Int32)) (k := 1) (by decide) (by decide) (by decide) (g := (mkF m 88 #[sR b] [(kI 0), (kI 1), (kR fc)])) rfl rfl (hD 19 rfl)
  have K19 : Rc K0 T18 (mkF m 90 #[sR b] [(kR b)]) := fun t k => K16 t (st17 t (st18 t (XS.aloadN X18.here hx rfl (hD 20 rfl) rfl rfl k)))
  obtain ⟨T20, X20, e20, st20⟩ := getF X18 hx hZ hown (host := "") (Or.inl (hw _ (mi 57 rfl))) Via.refl e18 (W18q.fld (i := 0) rfl (j := 8) rfl rfl) (g := K19.g) rfl rfl (hD 21 rfl)
  have K21 : Rc K0 T20 (mkF m 95 #[sR b] [(kR b), (kR b), (kR ft)]) := fun t k => K19 t (st20 t (by
    refine XS.aloadN X20.here hx rfl (hD 22 rfl) rfl rfl ?_
    refine XS.dup X20.here hx rfl (hD 23 rfl) rfl rfl ?_
    exact k))
  obtain ⟨T22, X22, e22, st22⟩ := getF X20 hx hZ hown (host := "") (Or.inl (hw _ (mi 76 rfl))) Via.refl e20 (W18q.fld (i := 0) rfl (j := 11) rfl rfl) (g := K21.g) rfl rfl (hD 24 rfl)
  have K23 : Rc K0 T22 (mkF m 101 #[sR b] [(kI 2), (kR b), (kI 1), (kR ft)]) := fun t k => K21 t (st22 t (by
    refine XS.dupX1 X22.here hx rfl (hD 25 rfl) rfl rfl rfl ?_
    refine XS.iconst X22.here hx rfl (hD 26 rfl) ?_
    refine XS.iadd X22.here hx rfl (hD 27 rfl) rfl ?_
    exact k))
  obtain ⟨T24, h24, L24, X24, e24, N24, W24q, st24⟩ := putW X22 hx hZ hown (host := "") (Or.inl (hw _ (mi 76 rfl))) e22 W18q N18 (own_dB hw) (Or.inl (hw _ (mi 77 rfl))) (hw _ (mi 43 rfl)) (ty := .int) (by decide +kernel) (i := 0) (a := b) rfl (j := 11) rfl rfl (v := (.int (2 : Int32))) rfl rfl (g := K23.g) rfl rfl (hD 28 rfl)
  have K25 : Rc K0 T24 (mkF m 105 #[sR b] [(kR b), (kI 1), (kR ft)]) := fun t k => K23 t (st24 t (XS.aloadN X24.here hx rfl (hD 29 rfl) rfl rfl k))
  obtain ⟨T26, X26, e26, st26⟩ := getF X24 hx hZ hown (host := "") (Or.inl (hw _ (mi 82 rfl))) Via.refl e24 (W24q.fld (i := 0) rfl (j := 14) rfl rfl) (g := K25.g) rfl rfl (hD 30 rfl)
  obtain ⟨T27, h27, L27, X27, e27, N27, W27q, st27⟩ := iasW X26 hx hZ e26 W24q N24 (i := 3) (a := ft) rfl (j := (1 : Int32)) (x := tc) (k := 1) (by decide) (by decide) (by decide) (g := (mkF m 108 #[sR b] [(kI tc), (kI 1), (kR ft)])) rfl rfl (hD 31 rfl)
  have W27 : Wo n0 h27 ((b, oB Z [.null, (kI 0), (kR vv), (kI cv), (kR fa), (kR ac), (kR fc), (kR cm), (kR ft), (kR su), (kR pr), (kI 2), (kI 0), (kI 0), (kI tc), .null]) :: (fa, Ar Z .int 2 (upd f1 1 (kI 0))) :: (fc, Ar Z .int 2 (upd f2 1 (kI 0))) :: (ft, Ar Z .int 2 (upd f3 1 (kI tc))) :: Rr) := W27q
  have K28 : Rc K0 T27 (mkF m 111 #[sR b] [.null, (kR b)]) := fun t k => K25 t (st26 t (st27 t (by
    refine XS.aloadN X27.here hx rfl (hD 32 rfl) rfl rfl ?_
    refine XS.aconstNull X27.here hx rfl (hD 33 rfl) ?_
    exact k)))
  obtain ⟨T29, h29, L29, X29, e29, N29, W29q, st29⟩ := putW X27 hx hZ hown (host := "") (Or.inl (hw _ (mi 84 rfl))) e27 W27 N27 (own_dB hw) (Or.inl (hw _ (mi 85 rfl))) (hw _ (mi 43 rfl)) (ty := (.object "java/util/Map")) (by decide +kernel) (i := 0) (a := b) rfl (j := 15) rfl rfl (v := .null) rfl rfl (g := K28.g) rfl rfl (hD 34 rfl)
  have K30 : Rc K0 T29 (mkF m 114 #[sR b] []) := fun t k => K28 t (st29 t (k))
  obtain ⟨fs, hr, hrun, hended, hWm, hsame⟩ := X29.leave (v := none) (fun _ => rfl)
  refine ⟨_, _, pre0 _ (K30 _ (X29.returnOut hx Bd.returns (hD 35 rfl) hr)), hrun, hended, _, _, rfl, ?_, ⟨_, rfl⟩, hWm, hsame.mono (by decide) (by decide)⟩
  show QrmSC1 Z b fa ac fc cm ft su pr vv cv tc f1 f2 f3 Rr n0 _ T29.heap _
  rw [e29]
  exact ⟨rfl, N29, W29q⟩
def own_dv : Value → UInt64
  | .double z => z
  | _ => 0
theorem own_fitsD {v : Value} (h : fits .double v = true) : v = .double (own_dv v) := by cases v <;> simp [fits] at h ⊢ <;> rfl
theorem own_arD {n0 : Nat} {h : Heap} {E : List (Addr × (Cell → Prop))} {i : Nat} {a : Addr} {Z : State} {n : Nat} {f : Nat → Value} (W : Wo n0 h E) (hi : E[i]? = some (a, Ar Z .double n f)) {k : Nat} (hk : k < n) : f k = .double (own_dv (f k)) := by
  obtain ⟨-, c, -, A⟩ := W.at hi
  exact own_fitsD (A.2.2.2.2.2 k hk).2
theorem own_cpy {q b : Nat → Value} {d n j : Nat} (h : j < n) : cpy q b 0 d n (j + d) = q j := by
  unfold cpy
  rw [if_pos (by omega), show 0 + (j + d - d) = j by omega]
theorem own_cpyn {q b : Nat → Value} {t d n i : Nat} (h : i < d) : cpy q b t d n i = b i := by
  unfold cpy
  rw [if_neg (by omega)]
theorem own_c2 {q q' b : Nat → Value} {n t : Nat} (h : t < n) : cpy q (cpy q' b 0 0 n) 0 n 0 t = q' t := by
  rw [own_cpyn h]; exact own_cpy (d := 0) h
theorem own_c3 {pb vy q b : Nat → Value} {u n m t : Nat} (h : t < n) : cpy pb (cpy vy (cpy q b 0 u n) 0 (u + n) m) 0 ((u + n) + m) n (t + u) = q t := by
  rw [own_cpyn (by omega), own_cpyn (by omega), own_cpy h]
theorem own_l64 (x : Int64) : x = Int64.ofNat x.toBitVec.toNat := Int64.toBitVec.inj (show x.toBitVec = BitVec.ofNat 64 x.toBitVec.toNat from by rw [BitVec.ofNat_toNat, BitVec.setWidth_eq])
theorem own_k15t : ∀ k, k < 16 → (Int64.ofNat k).toInt32 = Int32.ofNat k := by decide +kernel
theorem own_k15 (x : Int64) : ∃ k : Nat, k < 16 ∧ (x &&& (15 : Int64)).toInt32 = Int32.ofNat k := by
  have h1 : (x &&& (15 : Int64)).toBitVec.toNat ≤ 15 := by
    rw [Int64.toBitVec_and, BitVec.toNat_and]; exact Nat.le_trans Nat.and_le_right (by decide)
  obtain ⟨k, hk, ek⟩ : ∃ k : Nat, k ≤ 15 ∧ x &&& (15 : Int64) = Int64.ofNat k := ⟨_, h1, own_l64 _⟩
  rw [ek]
  exact ⟨k, by omega, own_k15t k (by omega)⟩
theorem own_k7 (x : Int64) : ∃ k : Nat, k < 8 ∧ (x &&& (7 : Int64)).toInt32 = Int32.ofNat k := by
  have h1 : (x &&& (7 : Int64)).toBitVec.toNat ≤ 7 := by
    rw [Int64.toBitVec_and, BitVec.toNat_and]; exact Nat.le_trans Nat.and_le_right (by decide)
  obtain ⟨k, hk, ek⟩ : ∃ k : Nat, k ≤ 7 ∧ x &&& (7 : Int64) = Int64.ofNat k := ⟨_, h1, own_l64 _⟩
  rw [ek]
  exact ⟨k, by omega, own_k15t k (by omega)⟩
theorem own_m3 (x : Int32) : ∃ k : Nat, k < 4 ∧ x &&& (3 : Int32) = Int32.ofNat k := by
  obtain ⟨h1, h2⟩ := c_and x 3 (by decide)
  have h3 : (3 : Int32).toInt = 3 := by decide
  refine ⟨(x &&& 3).toInt.toNat, by omega, ?_⟩
  apply Int32.toInt_inj.mp
  rw [own_int (by omega)]; omega
theorem own_m1 (x : Int32) : ∃ k : Nat, k < 2 ∧ x &&& (1 : Int32) = Int32.ofNat k := by
  obtain ⟨h1, h2⟩ := c_and x 1 (by decide)
  have h3 : (1 : Int32).toInt = 1 := by decide
  refine ⟨(x &&& 1).toInt.toNat, by omega, ?_⟩
  apply Int32.toInt_inj.mp
  rw [own_int (by omega)]; omega
theorem own_vc : ∀ j, j < 4 → ∃ v : Nat, 1 ≤ v ∧ v ≤ 3 ∧ (1 : Int32) + (Int32.ofNat j - (Int32.ofNat j / (3 : Int32)) * (3 : Int32)) = Int32.ofNat v := by
  intro j hj
  rcases (by omega : j = 0 ∨ j = 1 ∨ j = 2 ∨ j = 3) with rfl | rfl | rfl | rfl
  · exact ⟨1, by decide, by decide, by decide⟩
  · exact ⟨2, by decide, by decide, by decide⟩
  · exact ⟨3, by decide, by decide, by decide⟩
  · exact ⟨1, by decide, by decide, by decide⟩
theorem own_ch8 {Q : Nat → Int → Prop} (h : ∀ j, j < 8 → ∃ z, Q j z) : ∃ B : Nat → Int, ∀ j, j < 8 → Q j (B j) :=
  ⟨fun j => if q : j < 8 then Classical.choose (h j q) else 0, fun j q => by simp only [dif_pos q]; exact Classical.choose_spec (h j q)⟩
def own_sum (A : Nat → Int) : Nat → Nat → Int
  | _, 0 => 0
  | t, k + 1 => A t + own_sum A (t + 1) k
def own_lw (a b d : Int) (t : Nat) : Int := if t = 0 then a else if t = 1 then b else d
def own_val (ch sa0 sa1 : Nat) (lbt hbt : Bool) (a0 a1 a2 b0 b1 b2 v0 v1 v2 : Int) : Int :=
  if ch = 0 then (if lbt = true then (if sa0 = sa1 then b0 * v0 else b0 * v0 + b1 * v1) else a0 * v0 + a1 * v1)
  else if hbt = true then (if lbt = true then (if sa0 = sa1 then b1 * v2 else b2 * v2) else a2 * v2) else 0
def own_mv (sa sb : Int32) (xa xb : UInt64) (f6 f7 : Nat → Value) (t1 : Nat) (f g : Nat → Value) : Prop :=
  (sa = sb ∧ t1 = 1 ∧ f = f6 ∧ g = upd f7 0 (.double (FP.dadd xa xb))) ∨ (¬ sa = sb ∧ t1 = 2 ∧ f = upd f6 1 (.int sb) ∧ g = upd f7 1 (.double xb))
def own_h2 (hbt : Bool) (t1 : Nat) (sc : Int32) (xc : UInt64) (f6 f7 : Nat → Value) (t2 : Nat) (f g : Nat → Value) : Prop :=
  (hbt = true ∧ t2 = t1 + 1 ∧ f = upd f6 t1 (.int sc) ∧ g = upd f7 t1 (.double xc)) ∨ (hbt = false ∧ t2 = t1 ∧ f = f6 ∧ g = f7)
theorem own_mvb {sa sb : Int32} {xa xb : UInt64} {f6 f7 f g : Nat → Value} {t1 : Nat} (h : own_mv sa sb xa xb f6 f7 t1 f g) : 1 ≤ t1 ∧ t1 ≤ 2 := by
  rcases h with ⟨-, rfl, -⟩ | ⟨-, rfl, -⟩ <;> decide
theorem own_h2b {hbt : Bool} {t1 t2 : Nat} {sc : Int32} {xc : UInt64} {f6 f7 f g : Nat → Value} (h : own_h2 hbt t1 sc xc f6 f7 t2 f g) : t1 ≤ t2 ∧ t2 ≤ t1 + 1 := by
  rcases h with ⟨-, rfl, -⟩ | ⟨-, rfl, -⟩ <;> omega
theorem own_bld {sa0 sa1 sa2 t1 t2 : Nat} {hbt : Bool} {du0 du1 du2 : UInt64} {ku0 ku1 ku2 : Int} {f6 f7 f g f' g' : Nat → Value} (h6 : f6 0 = .int (Int32.ofNat sa0)) (h7 : f7 0 = .double du0) (a0 : sa0 < 8) (a1 : sa1 < 8) (a2 : sa2 < 8)
    (k0 : Sx 15 ku0 du0) (k1 : Sx 15 ku1 du1) (k2 : Sx 15 ku2 du2) (hm : own_mv (Int32.ofNat sa0) (Int32.ofNat sa1) du0 du1 f6 f7 t1 f g) (h2 : own_h2 hbt t1 (Int32.ofNat sa2) du2 f g t2 f' g') :
    ∃ (S : Nat → Nat) (w : Nat → Int), (∀ t, t < t2 → f' t = .int (Int32.ofNat (S t)) ∧ S t < 8 ∧ Sx 30 (w t) (own_dv (g' t))) ∧
      ∀ (gf : Nat → Value), gf 0 = .int (Int32.ofNat 0) → gf 1 = .int (Int32.ofNat t1) → gf 2 = .int (Int32.ofNat t2) → ∀ ch, ch < 2 → ∃ ta k : Nat, gf ch = .int (Int32.ofNat ta) ∧ gf (ch + 1) = .int (Int32.ofNat (ta + k)) ∧ ta + k ≤ t2 ∧ k ≤ 2 ∧
        ∀ (B : Nat → Int) (l0 l1 l2 : Int), own_sum (fun t => w t * B (S t)) ta k = own_val ch sa0 sa1 false hbt ku0 ku1 ku2 l0 l1 l2 (B sa0) (B sa1) (B sa2) ∧ own_sum (fun t => own_lw l0 l1 l2 t * B (S t)) ta k = own_val ch sa0 sa1 true hbt ku0 ku1 ku2 l0 l1 l2 (B sa0) (B sa1) (B sa2) := by
  have k2' := k2.mono (show 15 ≤ 30 by decide)
  rcases hm with ⟨e, rfl, rfl, rfl⟩ | ⟨ne, rfl, rfl, rfl⟩
  · obtain rfl : sa0 = sa1 := Decidable.byContradiction fun q => own_ne q (by omega) (by omega) e
    have ks : Sx 30 (ku0 + ku1) (FP.dadd du0 du1) := k0.add k1 (by decide)
    rcases h2 with ⟨rfl, rfl, rfl, rfl⟩ | ⟨rfl, rfl, rfl, rfl⟩
    · refine ⟨fun t => if t = 0 then sa0 else sa2, fun t => if t = 0 then ku0 + ku1 else ku2, fun t ht => ?_, fun gf g0 g1 g2 ch hc => ?_⟩
      · rcases (by omega : t = 0 ∨ t = 1) with rfl | rfl
        · exact ⟨h6, a0, ks⟩
        · exact ⟨rfl, a2, k2'⟩
      · rcases (by omega : ch = 0 ∨ ch = 1) with rfl | rfl
        · exact ⟨0, 1, g0, g1, by decide, by decide, fun B l0 l1 l2 => ⟨by simp [own_sum, own_val, Int.add_mul], by simp [own_sum, own_val, own_lw]⟩⟩
        · exact ⟨1, 1, g1, g2, by decide, by decide, fun B l0 l1 l2 => ⟨by simp [own_sum, own_val], by simp [own_sum, own_val, own_lw]⟩⟩
    · refine ⟨fun t => sa0, fun t => ku0 + ku1, fun t ht => ?_, fun gf g0 g1 g2 ch hc => ?_⟩
      · rcases (by omega : t = 0) with rfl
        exact ⟨h6, a0, ks⟩
      · rcases (by omega : ch = 0 ∨ ch = 1) with rfl | rfl
        · exact ⟨0, 1, g0, g1, by decide, by decide, fun B l0 l1 l2 => ⟨by simp [own_sum, own_val, Int.add_mul], by simp [own_sum, own_val, own_lw]⟩⟩
        · exact ⟨1, 0, g1, g2, by decide, by decide, fun B l0 l1 l2 => ⟨by simp [own_sum, own_val], by simp [own_sum, own_val]⟩⟩
  · have ne' : ¬ sa0 = sa1 := fun q => ne (by rw [q])
    have k0' := k0.mono (show 15 ≤ 30 by decide)
    have k1' := k1.mono (show 15 ≤ 30 by decide)
    rcases h2 with ⟨rfl, rfl, rfl, rfl⟩ | ⟨rfl, rfl, rfl, rfl⟩
    · refine ⟨fun t => if t = 0 then sa0 else if t = 1 then sa1 else sa2, own_lw ku0 ku1 ku2, fun t ht => ?_, fun gf g0 g1 g2 ch hc => ?_⟩
      · rcases (by omega : t = 0 ∨ t = 1 ∨ t = 2) with rfl | rfl | rfl
        · exact ⟨h6, a0, by rw [show own_dv (upd (upd f7 1 (.double du1)) 2 (.double du2) 0) = du0 from congrArg own_dv h7]; exact k0'⟩
        · exact ⟨rfl, a1, k1'⟩
        · exact ⟨rfl, a2, k2'⟩
      · rcases (by omega : ch = 0 ∨ ch = 1) with rfl | rfl
        · exact ⟨0, 2, g0, g1, by decide, by decide, fun B l0 l1 l2 => ⟨by simp [own_sum, own_val, own_lw], by simp [own_sum, own_val, own_lw, ne']⟩⟩
        · exact ⟨2, 1, g1, g2, by decide, by decide, fun B l0 l1 l2 => ⟨by simp [own_sum, own_val, own_lw], by simp [own_sum, own_val, own_lw, ne']⟩⟩
    · refine ⟨fun t => if t = 0 then sa0 else sa1, fun t => if t = 0 then ku0 else ku1, fun t ht => ?_, fun gf g0 g1 g2 ch hc => ?_⟩
      · rcases (by omega : t = 0 ∨ t = 1) with rfl | rfl
        · exact ⟨h6, a0, by rw [show own_dv (upd f7 1 (.double du1) 0) = du0 from congrArg own_dv h7]; exact k0'⟩
        · exact ⟨rfl, a1, k1'⟩
      · rcases (by omega : ch = 0 ∨ ch = 1) with rfl | rfl
        · exact ⟨0, 2, g0, g1, by decide, by decide, fun B l0 l1 l2 => ⟨by simp [own_sum, own_val], by simp [own_sum, own_val, own_lw, ne']⟩⟩
        · exact ⟨2, 0, g1, g2, by decide, by decide, fun B l0 l1 l2 => ⟨by simp [own_sum, own_val], by simp [own_sum, own_val]⟩⟩
theorem own_pb {dw0 dw1 dw2 : UInt64} {kw0 kw1 kw2 : Int} {f : Nat → Value} (k0 : Sx 15 kw0 dw0) (k1 : Sx 15 kw1 dw1) (k2 : Sx 15 kw2 dw2) (t : Nat) (ht : t < 3) : Sx 30 (own_lw kw0 kw1 kw2 t) (own_dv (upd (upd (upd f 0 (.double dw0)) 1 (.double dw1)) 2 (.double dw2) t)) := by
  rcases (by omega : t = 0 ∨ t = 1 ∨ t = 2) with rfl | rfl | rfl
  · exact k0.mono (by decide)
  · exact k1.mono (by decide)
  · exact k2.mono (by decide)
theorem own_v8 {f : Nat → Value} {z0 z1 z2 z3 z4 z5 z6 z7 : Int32} (j : Nat) (hj : j < 8) : ∃ z, Vx z (own_dv (upd (upd (upd (upd (upd (upd (upd (upd f 0 (.double (FP.i2d z0))) 1 (.double (FP.i2d z1))) 2 (.double (FP.i2d z2))) 3 (.double (FP.i2d z3))) 4 (.double (FP.i2d z4))) 5 (.double (FP.i2d z5))) 6 (.double (FP.i2d z6))) 7 (.double (FP.i2d z7)) j)) := by
  rcases (by omega : j = 0 ∨ j = 1 ∨ j = 2 ∨ j = 3 ∨ j = 4 ∨ j = 5 ∨ j = 6 ∨ j = 7) with rfl | rfl | rfl | rfl | rfl | rfl | rfl | rfl
  · exact ⟨_, Jvm.OwnFp.i2d_v z0⟩
  · exact ⟨_, Jvm.OwnFp.i2d_v z1⟩
  · exact ⟨_, Jvm.OwnFp.i2d_v z2⟩
  · exact ⟨_, Jvm.OwnFp.i2d_v z3⟩
  · exact ⟨_, Jvm.OwnFp.i2d_v z4⟩
  · exact ⟨_, Jvm.OwnFp.i2d_v z5⟩
  · exact ⟨_, Jvm.OwnFp.i2d_v z6⟩
  · exact ⟨_, Jvm.OwnFp.i2d_v z7⟩
abbrev y_am : MethodName := ⟨"com/example/sambre/sambre/engine/Rows$Builder", "addMove", "(ID)I"⟩
theorem pd_am : parseMethodDescriptor "(ID)I" = some ⟨[.int, .double], some .int⟩ := by decide +kernel
def Ld_am : List (Nat × Instr × Nat) := [(0, .aload_n 0, 1), (1, .getfield 22, 3), (4, .aload_n 0, 1), (5, .getfield 45, 3), (8, .iconst 1, 1), (9, .isub, 1), (10, .iaload, 1), (11, .istore 4, 2), (13, .iconst (-1), 1), (14, .istore 5, 2), (16, .aload_n 0, 1), (17, .getfield 57, 3), (20, .ifnull 31, 3), (51, .iload 4, 2), (53, .istore 6, 2), (55, .iload 6, 2), (57, .aload_n 0, 1), (58, .getfield 54, 3), (61, .if_icmp .ge 33, 3), (64, .iload 5, 2), (66, .ifCond .ge 28, 3), (69, .aload_n 0, 1), (70, .getfield 25, 3), (73, .iload 6, 2), (75, .iaload, 1), (76, .iload_n 1, 1), (77, .if_icmp .ne 8, 3), (80, .iload 6, 2), (82, .goto 4, 3), (85, .iconst (-1), 1), (86, .istore 5, 2), (88, .iinc 6 1, 3), (91, .goto (-36), 3), (94, .iload 5, 2), (96, .ifCond .lt 17, 3), (99, .aload_n 0, 1), (100, .getfield 28, 3), (103, .iload 5, 2), (105, .dup2, 1), (106, .daload, 1), (107, .dload_n 2, 1), (108, .dadd, 1), (109, .dastore, 1), (110, .goto 174, 3), (113, .aload_n 0, 1), (114, .getfield 54, 3), (117, .aload_n 0, 1), (118, .getfield 25, 3), (121, .arraylength, 1), (122, .if_icmp .ne 37, 3), (159, .aload_n 0, 1), (160, .dup, 1), (161, .getfield 54, 3), (164, .dup_x1, 1), (165, .iconst 1, 1), (166, .iadd, 1), (167, .putfield 54, 3), (170, .istore 5, 2), (172, .aload_n 0, 1), (173, .getfield 25, 3), (176, .iload 5, 2), (178, .iload_n 1, 1), (179, .iastore, 1), (180, .aload_n 0, 1), (181, .getfield 28, 3), (184, .iload 5, 2), (186, .dload_n 2, 1), (187, .dastore, 1), (188, .aload_n 0, 1), (189, .getfield 57, 3), (192, .ifnull 25, 3), (217, .aload_n 0, 1), (218, .getfield 54, 3), (221, .iload 4, 2), (223, .isub, 1), (224, .bipush 32, 2), (226, .if_icmp .le 58, 3), (284, .iload 5, 2), (286, .ireturn, 1)]
set_option maxRecDepth 65536 in
theorem d_am : ∀ x ∈ Ld_am, decode prog_88_method_6_code x.1 = .ok (x.2.1, x.2.2) := by decide +kernel
theorem ef_rmAM1 (m : MethodId) (b fa ac fc cm ft su pr : Addr) (vv : Addr) (cv sa : Int32) (xa : UInt64) (f3 f6 f7 : Nat → Value) : entryFrame m #[(.ref b), (.int sa), (.double xa)] 7 = mkF m 0 #[.val (.ref b), .val (.int sa), .val (.double xa), .second, .unset, .unset, .unset] [] := by first | (simp [entryFrame, mkF, argsToLocals, Value.category]; done) | rfl
def QrmAM1 (Z : State) (b fa ac fc cm ft su pr : Addr) (vv : Addr) (cv sa : Int32) (xa : UInt64) (f3 f6 f7 : Nat → Value) (Rr : List (Addr × (Cell → Prop))) (n0 : Nat) (v : Option Value) (h : Heap) (L : List Loc) : Prop := v = some (.int (0 : Int32)) ∧ Fr n0 L ∧ Wo n0 h ((b, oB Z [.null, (kI 0), (kR vv), (kI cv), (kR fa), (kR ac), (kR fc), (kR cm), (kR ft), (kR su), (kR pr), (kI 1), (kI 0), (kI 0), (kI 1), .null]) :: (ft, Ar Z .int 2 f3) :: (su, Ar Z .int 4 (upd f6 0 (kI sa))) :: (pr, Ar Z .double 4 (upd f7 0 (kD xa))) :: Rr)
set_option maxRecDepth 65536 in
set_option maxHeartbeats 40000000 in
theorem rmAM1 (l : Launch) (Z : State) (a0 : Array Value) (hw : ∀ d ∈ tables_1, d.before a0 Z = true) (ws : List Jvm.Cond) (b fa ac fc cm ft su pr : Addr) (vv : Addr) (cv sa : Int32) (xa : UInt64) (f3 f6 f7 : Nat → Value) (Rr : List (Addr × (Cell → Prop))) (h0 : Heap) (n0 : Nat) (W0 : Wo n0 h0 ((b, oB Z [.null, (kI 0), (kR vv), (kI cv), (kR fa), (kR ac), (kR fc), (kR cm), (kR ft), (kR su), (kR pr), (kI 1), (kI 0), (kI 0), (kI 0), .null]) :: (ft, Ar Z .int 2 f3) :: (su, Ar Z .int 4 f6) :: (pr, Ar Z .double 4 f7) :: Rr)) (h3 : f3 0 = .int 0) :
    MetFree l y_am (head1 (Jvm.Cond.code y_am prog_88_method_6_code 7 (some .int) :: ws) ({ frames := 0, cells := 0, slots := 0, locals := 0 } : Room)) (fun aa U => aa = #[(.ref b), (.int sa), (.double xa)] ∧ Z.Warmed39 U.vm ∧ U.heap = h0) (fun _ _ _ _ _ => True) (fun _ U ou U' => ∃ v L, ou = .returned v ∧ QrmAM1 Z b fa ac fc cm ft su pr vv cv sa xa f3 f6 f7 Rr n0 v U'.heap L ∧ FrameEnd U ou U' L ({ frames := 0, cells := 0, slots := 0, locals := 0 } : Room).cells ({ frames := 0, cells := 0, slots := 0, locals := 0 } : Room).slots) := by
  refine MetFree.of_bodySF (plainFor_of_name pn_Rows_Builder) hisR ?_
  intro p e s m args below meth c s₁ Bd hml0 hP hK
  obtain ⟨rfl, hZ, hh⟩ := hP
  have hx := Bd.exec
  have hby := Bd.bytes
  have hml : c.maxLocals = 7 := hml0
  have hD : ∀ (k : Nat) {pc : Nat} {i : Instr} {n : Nat}, Ld_am[k]? = some (pc, i, n) → decode c.code pc = .ok (i, n) := by intro k pc i n h; exact hb hby (d_am (pc, i, n) (mi k h))
  have hown : s.vm.findClass "com/example/sambre/sambre/engine/Rows$Builder" = some m.cls := findClass_of_methodNamed Bd.named
  have hnm := (name_of_methodNamed Bd.named Bd.method).1
  have X0 : Stand p l e ({ frames := 0, cells := 0, slots := 0, locals := 0 } : Room) s m #[(.ref b), (.int sa), (.double xa)] below meth c s₁ [] 0 0 := Stand.of_body Bd
  have e0 : s₁.heap = h0 := by rw [← hh, Bd.state]; rfl
  have N0 := Fr.nil n0
  obtain ⟨F0, hF0⟩ : ∃ F, F = mkF m 0 #[.val (.ref b), .val (.int sa), .val (.double xa), .second, .unset, .unset, .unset] [] := ⟨_, rfl⟩
  have pre0 : ∀ t, Steps p.tables e below (s₁.setTop F0) t → Steps p.tables e below (s₁.setTop (entryFrame m #[(.ref b), (.int sa), (.double xa)] 7)) t := fun t k => castTop ((ef_rmAM1 m b fa ac fc cm ft su pr vv cv sa xa f3 f6 f7).trans hF0.symm) k
  have K0 : Rch p e below s₁ F0 s₁ (mkF m 0 #[.val (.ref b), .val (.int sa), .val (.double xa), .second, .unset, .unset, .unset] []) := fun t k => castTop hF0 k
  have K1 : Rc K0 s₁ (mkF m 1 #[sR b, sI sa, sD xa, sV, sU, sU, sU] [(kR b)]) := fun t k => K0 t (XS.aloadN X0.here hx rfl (hD 0 rfl) rfl rfl k)
  obtain ⟨T2, X2, e2, st2⟩ := getF X0 hx hZ hown (host := "") (Or.inl (hw _ (mi 57 rfl))) Via.refl e0 (W0.fld (i := 0) rfl (j := 8) rfl rfl) (g := K1.g) rfl rfl (hD 1 rfl)
  have K3 : Rc K0 T2 (mkF m 5 #[sR b, sI sa, sD xa, sV, sU, sU, sU] [(kR b), (kR ft)]) := fun t k => K1 t (st2 t (XS.aloadN X2.here hx rfl (hD 2 rfl) rfl rfl k))
  obtain ⟨T4, X4, e4, st4⟩ := getF X2 hx hZ hown (host := "") (Or.inl (hw _ (mi 76 rfl))) Via.refl e2 (W0.fld (i := 0) rfl (j := 11) rfl rfl) (g := K3.g) rfl rfl (hD 3 rfl)
  have K5 : Rc K0 T4 (mkF m 17 #[sR b, sI sa, sD xa, sV, sI 0, sI (-1), sU] [(kR b)]) := fun t k => K3 t (st4 t (by
    refine XS.iconst X4.here hx rfl (hD 4 rfl) ?_
    refine XS.isub X4.here hx rfl (hD 5 rfl) rfl ?_
    refine ialW X4 hx hZ e4 W0 (i := 1) rfl (j := (0 : Int32)) (k := 0) (by decide) (by decide) (by decide) (v := (.int (0 : Int32))) h3 (g := (mkF m 10 #[sR b, sI sa, sD xa, sV, sU, sU, sU] [(kI 0), (kR ft)])) rfl rfl (hD 6 rfl) _ ?_
    refine XS.istore X4.here hx rfl (hD 7 rfl) rfl (l' := #[sR b, sI sa, sD xa, sV, sI 0, sU, sU]) rfl ?_
    refine XS.iconst X4.here hx rfl (hD 8 rfl) ?_
    refine XS.istore X4.here hx rfl (hD 9 rfl) rfl (l' := #[sR b, sI sa, sD xa, sV, sI 0, sI (-1), sU]) rfl ?_
    refine XS.aloadN X4.here hx rfl (hD 10 rfl) rfl rfl ?_
    exact k))
  obtain ⟨T6, X6, e6, st6⟩ := getF X4 hx hZ hown (host := "") (Or.inl (hw _ (mi 84 rfl))) Via.refl e4 (W0.fld (i := 0) rfl (j := 15) rfl rfl) (g := K5.g) rfl rfl (hD 11 rfl)
  have K7 : Rc K0 T6 (mkF m 58 #[sR b, sI sa, sD xa, sV, sI 0, sI (-1), sI 0] [(kR b), (kI 0)]) := fun t k => K5 t (st6 t (by
    refine XS.ifnullYes X6.here hx rfl (pc0 := 20) (pc' := 51) rfl (hD 12 rfl) rfl (by decide) (by decide) ?_
    refine XS.iload X6.here hx rfl (hD 13 rfl) rfl ?_
    refine XS.istore X6.here hx rfl (hD 14 rfl) rfl (l' := #[sR b, sI sa, sD xa, sV, sI 0, sI (-1), sI 0]) rfl ?_
    refine XS.iload X6.here hx rfl (hD 15 rfl) rfl ?_
    refine XS.aloadN X6.here hx rfl (hD 16 rfl) rfl rfl ?_
    exact k))
  obtain ⟨T8, X8, e8, st8⟩ := getF X6 hx hZ hown (host := "") (Or.inl (hw _ (mi 82 rfl))) Via.refl e6 (W0.fld (i := 0) rfl (j := 14) rfl rfl) (g := K7.g) rfl rfl (hD 17 rfl)
  have K9 : Rc K0 T8 (mkF m 114 #[sR b, sI sa, sD xa, sV, sI 0, sI (-1), sI 0] [(kR b)]) := fun t k => K7 t (st8 t (by
    refine XS.icmpYes X8.here hx rfl (pc0 := 61) (pc' := 94) rfl (hD 18 rfl) rfl (by decide) (by decide) (by decide) ?_
    refine XS.iload X8.here hx rfl (hD 33 rfl) rfl ?_
    refine XS.ifYes X8.here hx rfl (pc0 := 96) (pc' := 113) rfl (hD 34 rfl) rfl (by decide) (by decide) (by decide) ?_
    refine XS.aloadN X8.here hx rfl (hD 44 rfl) rfl rfl ?_
    exact k))
  obtain ⟨T10, X10, e10, st10⟩ := getF X8 hx hZ hown (host := "") (Or.inl (hw _ (mi 82 rfl))) Via.refl e8 (W0.fld (i := 0) rfl (j := 14) rfl rfl) (g := K9.g) rfl rfl (hD 45 rfl)
  have K11 : Rc K0 T10 (mkF m 118 #[sR b, sI sa, sD xa, sV, sI 0, sI (-1), sI 0] [(kR b), (kI 0)]) := fun t k => K9 t (st10 t (XS.aloadN X10.here hx rfl (hD 46 rfl) rfl rfl k))
  obtain ⟨T12, X12, e12, st12⟩ := getF X10 hx hZ hown (host := "") (Or.inl (hw _ (mi 59 rfl))) Via.refl e10 (W0.fld (i := 0) rfl (j := 9) rfl rfl) (g := K11.g) rfl rfl (hD 47 rfl)
  have K13 : Rc K0 T12 (mkF m 161 #[sR b, sI sa, sD xa, sV, sI 0, sI (-1), sI 0] [(kR b), (kR b)]) := fun t k => K11 t (st12 t (by
    refine lenW X12 hx hZ e12 W0 (i := 2) rfl (fun _ q => q) (z := (4 : Int32)) (by decide) (g := (mkF m 121 #[sR b, sI sa, sD xa, sV, sI 0, sI (-1), sI 0] [(kR su), (kI 0)])) rfl rfl (hD 48 rfl) _ ?_
    refine XS.icmpYes X12.here hx rfl (pc0 := 122) (pc' := 159) rfl (hD 49 rfl) rfl (by decide) (by decide) (by decide) ?_
    refine XS.aloadN X12.here hx rfl (hD 50 rfl) rfl rfl ?_
    refine XS.dup X12.here hx rfl (hD 51 rfl) rfl rfl ?_
    exact k))
  obtain ⟨T14, X14, e14, st14⟩ := getF X12 hx hZ hown (host := "") (Or.inl (hw _ (mi 82 rfl))) Via.refl e12 (W0.fld (i := 0) rfl (j := 14) rfl rfl) (g := K13.g) rfl rfl (hD 52 rfl)
  have K15 : Rc K0 T14 (mkF m 167 #[sR b, sI sa, sD xa, sV, sI 0, sI (-1), sI 0] [(kI 1), (kR b), (kI 0)]) := fun t k => K13 t (st14 t (by
    refine XS.dupX1 X14.here hx rfl (hD 53 rfl) rfl rfl rfl ?_
    refine XS.iconst X14.here hx rfl (hD 54 rfl) ?_
    refine XS.iadd X14.here hx rfl (hD 55 rfl) rfl ?_
    exact k))
  obtain ⟨T16, h16, L16, X16, e16, N16, W16q, st16⟩ := putW X14 hx hZ hown (host := "") (Or.inl (hw _ (mi 82 rfl))) e14 W0 N0 (own_dB hw) (Or.inl (hw _ (mi 83 rfl))) (hw _ (mi 43 rfl)) (ty := .int) (by decide +kernel) (i := 0) (a := b) rfl (j := 14) rfl rfl (v := (.int (1 : Int32))) rfl rfl (g := K15.g) rfl rfl (hD 56 rfl)
  have K17 : Rc K0 T16 (mkF m 173 #[sR b, sI sa, sD xa, sV, sI 0, sI 0, sI 0] [(kR b)]) := fun t k => K15 t (st16 t (by
    refine XS.istore X16.here hx rfl (hD 57 rfl) rfl (l' := #[sR b, sI sa, sD xa, sV, sI 0, sI 0, sI 0]) rfl ?_
    refine XS.aloadN X16.here hx rfl (hD 58 rfl) rfl rfl ?_
    exact k))
  obtain ⟨T18, X18, e18, st18⟩ := getF X16 hx hZ hown (host := "") (Or.inl (hw _ (mi 59 rfl))) Via.refl e16 (W16q.fld (i := 0) rfl (j := 9) rfl rfl) (g := K17.g) rfl rfl (hD 59 rfl)
  have K19 : Rc K0 T18 (mkF m 179 #[sR b, sI sa, sD xa, sV, sI 0, sI 0, sI 0] [(kI sa), (kI 0), (kR su)]) := fun t k => K17 t (st18 t (by
    refine XS.iload X18.here hx rfl (hD 60 rfl) rfl ?_
    refine XS.iloadN X18.here hx rfl (hD 61 rfl) rfl ?_
    exact k))
  obtain ⟨T20, h20, L20, X20, e20, N20, W20q, st20⟩ := iasW X18 hx hZ e18 W16q N16 (i := 2) (a := su) rfl (j := (0 : Int32)) (x := sa) (k := 0) (by decide) (by decide) (by decide) (g := K19.g) rfl rfl (hD 62 rfl)
  have K21 : Rc K0 T20 (mkF m 181 #[sR b, sI sa, sD xa, sV, sI 0, sI 0, sI 0] [(kR b)]) := fun t k => K19 t (st20 t (XS.aloadN X20.here hx rfl (hD 63 rfl) rfl rfl k))
  obtain ⟨T22, X22, e22, st22⟩ := getF X20 hx hZ hown (host := "") (Or.inl (hw _ (mi 61 rfl))) Via.refl e20 (W20q.fld (i := 0) rfl (j := 10) rfl rfl) (g := K21.g) rfl rfl (hD 64 rfl)
  have K23 : Rc K0 T22 (mkF m 187 #[sR b, sI sa, sD xa, sV, sI 0, sI 0, sI 0] [(kD xa), (kI 0), (kR pr)]) := fun t k => K21 t (st22 t (by
    refine XS.iload X22.here hx rfl (hD 65 rfl) rfl ?_
    refine XS.dloadN X22.here hx rfl (hD 66 rfl) rfl ?_
    exact k))
  obtain ⟨T24, h24, L24, X24, e24, N24, W24q, st24⟩ := dasW X22 hx hZ e22 W20q N20 (i := 3) (a := pr) rfl (j := (0 : Int32)) (x := xa) (k := 0) (by decide) (by decide) (by decide) (g := K23.g) rfl rfl (hD 67 rfl)
  have K25 : Rc K0 T24 (mkF m 189 #[sR b, sI sa, sD xa, sV, sI 0, sI 0, sI 0] [(kR b)]) := fun t k => K23 t (st24 t (XS.aloadN X24.here hx rfl (hD 68 rfl) rfl rfl k))
  obtain ⟨T26, X26, e26, st26⟩ := getF X24 hx hZ hown (host := "") (Or.inl (hw _ (mi 84 rfl))) Via.refl e24 (W24q.fld (i := 0) rfl (j := 15) rfl rfl) (g := K25.g) rfl rfl (hD 69 rfl)
  have K27 : Rc K0 T26 (mkF m 218 #[sR b, sI sa, sD xa, sV, sI 0, sI 0, sI 0] [(kR b)]) := fun t k => K25 t (st26 t (by
    refine XS.ifnullYes X26.here hx rfl (pc0 := 192) (pc' := 217) rfl (hD 70 rfl) rfl (by decide) (by decide) ?_
    refine XS.aloadN X26.here hx rfl (hD 71 rfl) rfl rfl ?_
    exact k))
  obtain ⟨T28, X28, e28, st28⟩ := getF X26 hx hZ hown (host := "") (Or.inl (hw _ (mi 82 rfl))) Via.refl e26 (W24q.fld (i := 0) rfl (j := 14) rfl rfl) (g := K27.g) rfl rfl (hD 72 rfl)
  have K29 : Rc K0 T28 (mkF m 286 #[sR b, sI sa, sD xa, sV, sI 0, sI 0, sI 0] [(kI 0)]) := fun t k => K27 t (st28 t (by
    refine XS.iload X28.here hx rfl (hD 73 rfl) rfl ?_
    refine XS.isub X28.here hx rfl (hD 74 rfl) rfl ?_
    refine XS.bipush X28.here hx rfl (hD 75 rfl) ?_
    refine XS.icmpYes X28.here hx rfl (pc0 := 226) (pc' := 284) rfl (hD 76 rfl) rfl (by decide) (by decide) (by decide) ?_
    refine XS.iload X28.here hx rfl (hD 77 rfl) rfl ?_
    exact k))
  obtain ⟨fs, hr, hrun, hended, hWm, hsame⟩ := X28.leave (v := some (.int (0 : Int32))) (fun h => by rw [Bd.returns] at h; cases h)
  refine ⟨_, _, pre0 _ (K29 _ (retI X28 hx Bd.returns (hD 78 rfl) hr)), hrun, hended, _, _, rfl, ?_, ⟨_, rfl⟩, hWm, hsame.mono (by decide) (by decide)⟩
  show QrmAM1 Z b fa ac fc cm ft su pr vv cv sa xa f3 f6 f7 Rr n0 _ T28.heap _
  rw [e28]
  exact ⟨rfl, N24, W24q⟩
theorem ef_rmAM3 (m : MethodId) (b fa ac fc cm ft su pr : Addr) (vv : Addr) (cv sa : Int32) (xa : UInt64) (t1 : Nat) (f3 f6 f7 : Nat → Value) : entryFrame m #[(.ref b), (.int sa), (.double xa)] 7 = mkF m 0 #[.val (.ref b), .val (.int sa), .val (.double xa), .second, .unset, .unset, .unset] [] := by first | (simp [entryFrame, mkF, argsToLocals, Value.category]; done) | rfl
def QrmAM3 (Z : State) (b fa ac fc cm ft su pr : Addr) (vv : Addr) (cv sa : Int32) (xa : UInt64) (t1 : Nat) (f3 f6 f7 : Nat → Value) (Rr : List (Addr × (Cell → Prop))) (n0 : Nat) (v : Option Value) (h : Heap) (L : List Loc) : Prop := v = some (.int (Int32.ofNat t1)) ∧ Fr n0 L ∧ Wo n0 h ((b, oB Z [.null, (kI 0), (kR vv), (kI cv), (kR fa), (kR ac), (kR fc), (kR cm), (kR ft), (kR su), (kR pr), (kI 2), (kI 0), (kI 0), (kI (Int32.ofNat (t1 + 1))), .null]) :: (ft, Ar Z .int 2 f3) :: (su, Ar Z .int 4 (upd f6 t1 (kI sa))) :: (pr, Ar Z .double 4 (upd f7 t1 (kD xa))) :: Rr)
set_option maxRecDepth 65536 in
set_option maxHeartbeats 40000000 in
theorem rmAM3 (l : Launch) (Z : State) (a0 : Array Value) (hw : ∀ d ∈ tables_1, d.before a0 Z = true) (ws : List Jvm.Cond) (b fa ac fc cm ft su pr : Addr) (vv : Addr) (cv sa : Int32) (xa : UInt64) (t1 : Nat) (f3 f6 f7 : Nat → Value) (Rr : List (Addr × (Cell → Prop))) (h0 : Heap) (n0 : Nat) (W0 : Wo n0 h0 ((b, oB Z [.null, (kI 0), (kR vv), (kI cv), (kR fa), (kR ac), (kR fc), (kR cm), (kR ft), (kR su), (kR pr), (kI 2), (kI 0), (kI 0), (kI (Int32.ofNat t1)), .null]) :: (ft, Ar Z .int 2 f3) :: (su, Ar Z .int 4 f6) :: (pr, Ar Z .double 4 f7) :: Rr)) (ht : t1 ≤ 2) (h3 : f3 1 = .int (Int32.ofNat t1)) :
    MetFree l y_am (head1 (Jvm.Cond.code y_am prog_88_method_6_code 7 (some .int) :: ws) ({ frames := 0, cells := 0, slots := 0, locals := 0 } : Room)) (fun aa U => aa = #[(.ref b), (.int sa), (.double xa)] ∧ Z.Warmed39 U.vm ∧ U.heap = h0) (fun _ _ _ _ _ => True) (fun _ U ou U' => ∃ v L, ou = .returned v ∧ QrmAM3 Z b fa ac fc cm ft su pr vv cv sa xa t1 f3 f6 f7 Rr n0 v U'.heap L ∧ FrameEnd U ou U' L ({ frames := 0, cells := 0, slots := 0, locals := 0 } : Room).cells ({ frames := 0, cells := 0, slots := 0, locals := 0 } : Room).slots) := by
  refine MetFree.of_bodySF (plainFor_of_name pn_Rows_Builder) hisR ?_
  intro p e s m args below meth c s₁ Bd hml0 hP hK
  obtain ⟨rfl, hZ, hh⟩ := hP
  have hx := Bd.exec
  have hby := Bd.bytes
  have hml : c.maxLocals = 7 := hml0
  have hD : ∀ (k : Nat) {pc : Nat} {i : Instr} {n : Nat}, Ld_am[k]? = some (pc, i, n) → decode c.code pc = .ok (i, n) := by intro k pc i n h; exact hb hby (d_am (pc, i, n) (mi k h))
  have hown : s.vm.findClass "com/example/sambre/sambre/engine/Rows$Builder" = some m.cls := findClass_of_methodNamed Bd.named
  have hnm := (name_of_methodNamed Bd.named Bd.method).1
  have X0 : Stand p l e ({ frames := 0, cells := 0, slots := 0, locals := 0 } : Room) s m #[(.ref b), (.int sa), (.double xa)] below meth c s₁ [] 0 0 := Stand.of_body Bd
  have e0 : s₁.heap = h0 := by rw [← hh, Bd.state]; rfl
  have N0 := Fr.nil n0
  obtain ⟨F0, hF0⟩ : ∃ F, F = mkF m 0 #[.val (.ref b), .val (.int sa), .val (.double xa), .second, .unset, .unset, .unset] [] := ⟨_, rfl⟩
  have pre0 : ∀ t, Steps p.tables e below (s₁.setTop F0) t → Steps p.tables e below (s₁.setTop (entryFrame m #[(.ref b), (.int sa), (.double xa)] 7)) t := fun t k => castTop ((ef_rmAM3 m b fa ac fc cm ft su pr vv cv sa xa t1 f3 f6 f7).trans hF0.symm) k
  have K0 : Rch p e below s₁ F0 s₁ (mkF m 0 #[.val (.ref b), .val (.int sa), .val (.double xa), .second, .unset, .unset, .unset] []) := fun t k => castTop hF0 k
  have K1 : Rc K0 s₁ (mkF m 1 #[sR b, sI sa, sD xa, sV, sU, sU, sU] [(kR b)]) := fun t k => K0 t (XS.aloadN X0.here hx rfl (hD 0 rfl) rfl rfl k)
  obtain ⟨T2, X2, e2, st2⟩ := getF X0 hx hZ hown (host := "") (Or.inl (hw _ (mi 57 rfl))) Via.refl e0 (W0.fld (i := 0) rfl (j := 8) rfl rfl) (g := K1.g) rfl rfl (hD 1 rfl)
  have K3 : Rc K0 T2 (mkF m 5 #[sR b, sI sa, sD xa, sV, sU, sU, sU] [(kR b), (kR ft)]) := fun t k => K1 t (st2 t (XS.aloadN X2.here hx rfl (hD 2 rfl) rfl rfl k))
  obtain ⟨T4, X4, e4, st4⟩ := getF X2 hx hZ hown (host := "") (Or.inl (hw _ (mi 76 rfl))) Via.refl e2 (W0.fld (i := 0) rfl (j := 11) rfl rfl) (g := K3.g) rfl rfl (hD 3 rfl)
  have K5 : Rc K0 T4 (mkF m 17 #[sR b, sI sa, sD xa, sV, sI (Int32.ofNat t1), sI (-1), sU] [(kR b)]) := fun t k => K3 t (st4 t (by
    refine XS.iconst X4.here hx rfl (hD 4 rfl) ?_
    refine XS.isub X4.here hx rfl (hD 5 rfl) rfl ?_
    refine ialW X4 hx hZ e4 W0 (i := 1) rfl (j := (1 : Int32)) (k := 1) (by decide) (by decide) (by decide) (v := (.int (Int32.ofNat t1))) h3 (g := (mkF m 10 #[sR b, sI sa, sD xa, sV, sU, sU, sU] [(kI 1), (kR ft)])) rfl rfl (hD 6 rfl) _ ?_
    refine XS.istore X4.here hx rfl (hD 7 rfl) rfl (l' := #[sR b, sI sa, sD xa, sV, sI (Int32.ofNat t1), sU, sU]) rfl ?_
    refine XS.iconst X4.here hx rfl (hD 8 rfl) ?_
    refine XS.istore X4.here hx rfl (hD 9 rfl) rfl (l' := #[sR b, sI sa, sD xa, sV, sI (Int32.ofNat t1), sI (-1), sU]) rfl ?_
    refine XS.aloadN X4.here hx rfl (hD 10 rfl) rfl rfl ?_
    exact k))
  obtain ⟨T6, X6, e6, st6⟩ := getF X4 hx hZ hown (host := "") (Or.inl (hw _ (mi 84 rfl))) Via.refl e4 (W0.fld (i := 0) rfl (j := 15) rfl rfl) (g := K5.g) rfl rfl (hD 11 rfl)
  have K7 : Rc K0 T6 (mkF m 58 #[sR b, sI sa, sD xa, sV, sI (Int32.ofNat t1), sI (-1), sI (Int32.ofNat t1)] [(kR b), (kI (Int32.ofNat t1))]) := fun t k => K5 t (st6 t (by
    refine XS.ifnullYes X6.here hx rfl (pc0 := 20) (pc' := 51) rfl (hD 12 rfl) rfl (by decide) (by decide) ?_
    refine XS.iload X6.here hx rfl (hD 13 rfl) rfl ?_
    refine XS.istore X6.here hx rfl (hD 14 rfl) rfl (l' := #[sR b, sI sa, sD xa, sV, sI (Int32.ofNat t1), sI (-1), sI (Int32.ofNat t1)]) rfl ?_
    refine XS.iload X6.here hx rfl (hD 15 rfl) rfl ?_
    refine XS.aloadN X6.here hx rfl (hD 16 rfl) rfl rfl ?_
    exact k))
  obtain ⟨T8, X8, e8, st8⟩ := getF X6 hx hZ hown (host := "") (Or.inl (hw _ (mi 82 rfl))) Via.refl e6 (W0.fld (i := 0) rfl (j := 14) rfl rfl) (g := K7.g) rfl rfl (hD 17 rfl)
  have K9 : Rc K0 T8 (mkF m 114 #[sR b, sI sa, sD xa, sV, sI (Int32.ofNat t1), sI (-1), sI (Int32.ofNat t1)] [(kR b)]) := fun t k => K7 t (st8 t (by
    refine XS.icmpYes X8.here hx rfl (pc0 := 61) (pc' := 94) rfl (hD 18 rfl) rfl (flt (own_nlt (Nat.le_refl t1) (by omega))).2.1 (by decide) (by decide) ?_
    refine XS.iload X8.here hx rfl (hD 33 rfl) rfl ?_
    refine XS.ifYes X8.here hx rfl (pc0 := 96) (pc' := 113) rfl (hD 34 rfl) rfl (by decide) (by decide) (by decide) ?_
    refine XS.aloadN X8.here hx rfl (hD 44 rfl) rfl rfl ?_
    exact k))
  obtain ⟨T10, X10, e10, st10⟩ := getF X8 hx hZ hown (host := "") (Or.inl (hw _ (mi 82 rfl))) Via.refl e8 (W0.fld (i := 0) rfl (j := 14) rfl rfl) (g := K9.g) rfl rfl (hD 45 rfl)
  have K11 : Rc K0 T10 (mkF m 118 #[sR b, sI sa, sD xa, sV, sI (Int32.ofNat t1), sI (-1), sI (Int32.ofNat t1)] [(kR b), (kI (Int32.ofNat t1))]) := fun t k => K9 t (st10 t (XS.aloadN X10.here hx rfl (hD 46 rfl) rfl rfl k))
  obtain ⟨T12, X12, e12, st12⟩ := getF X10 hx hZ hown (host := "") (Or.inl (hw _ (mi 59 rfl))) Via.refl e10 (W0.fld (i := 0) rfl (j := 9) rfl rfl) (g := K11.g) rfl rfl (hD 47 rfl)
  have K13 : Rc K0 T12 (mkF m 161 #[sR b, sI sa, sD xa, sV, sI (Int32.ofNat t1), sI (-1), sI (Int32.ofNat t1)] [(kR b), (kR b)]) := fun t k => K11 t (st12 t (by
    refine lenW X12 hx hZ e12 W0 (i := 2) rfl (fun _ q => q) (z := (4 : Int32)) (by decide) (g := (mkF m 121 #[sR b, sI sa, sD xa, sV, sI (Int32.ofNat t1), sI (-1), sI (Int32.ofNat t1)] [(kR su), (kI (Int32.ofNat t1))])) rfl rfl (hD 48 rfl) _ ?_
    refine XS.icmpYes X12.here hx rfl (pc0 := 122) (pc' := 159) rfl (hD 49 rfl) rfl (feq (own_ne (a := t1) (b := 4) (by omega) (by omega) (by decide))).2 (by decide) (by decide) ?_
    refine XS.aloadN X12.here hx rfl (hD 50 rfl) rfl rfl ?_
    refine XS.dup X12.here hx rfl (hD 51 rfl) rfl rfl ?_
    exact k))
  obtain ⟨T14, X14, e14, st14⟩ := getF X12 hx hZ hown (host := "") (Or.inl (hw _ (mi 82 rfl))) Via.refl e12 (W0.fld (i := 0) rfl (j := 14) rfl rfl) (g := K13.g) rfl rfl (hD 52 rfl)
  have K15 : Rc K0 T14 (mkF m 167 #[sR b, sI sa, sD xa, sV, sI (Int32.ofNat t1), sI (-1), sI (Int32.ofNat t1)] [(kI (Int32.ofNat (t1 + 1))), (kR b), (kI (Int32.ofNat t1))]) := fun t k => K13 t (st14 t (by
    refine XS.dupX1 X14.here hx rfl (hD 53 rfl) rfl rfl rfl ?_
    refine XS.iconst X14.here hx rfl (hD 54 rfl) ?_
    refine XS.iadd X14.here hx rfl (hD 55 rfl) rfl ?_
    show Steps p.tables e below (T14.setTop (mkF m 167 #[sR b, sI sa, sD xa, sV, sI (Int32.ofNat t1), sI (-1), sI (Int32.ofNat t1)] [(kI ((Int32.ofNat t1) + (1 : Int32))), (kR b), (kI (Int32.ofNat t1))])) _
    rw [show (Int32.ofNat t1) + (1 : Int32) = (Int32.ofNat (t1 + 1)) from own_add t1 1]
    exact k))
  obtain ⟨T16, h16, L16, X16, e16, N16, W16q, st16⟩ := putW X14 hx hZ hown (host := "") (Or.inl (hw _ (mi 82 rfl))) e14 W0 N0 (own_dB hw) (Or.inl (hw _ (mi 83 rfl))) (hw _ (mi 43 rfl)) (ty := .int) (by decide +kernel) (i := 0) (a := b) rfl (j := 14) rfl rfl (v := (.int (Int32.ofNat (t1 + 1)))) rfl rfl (g := K15.g) rfl rfl (hD 56 rfl)
  have K17 : Rc K0 T16 (mkF m 173 #[sR b, sI sa, sD xa, sV, sI (Int32.ofNat t1), sI (Int32.ofNat t1), sI (Int32.ofNat t1)] [(kR b)]) := fun t k => K15 t (st16 t (by
    refine XS.istore X16.here hx rfl (hD 57 rfl) rfl (l' := #[sR b, sI sa, sD xa, sV, sI (Int32.ofNat t1), sI (Int32.ofNat t1), sI (Int32.ofNat t1)]) rfl ?_
    refine XS.aloadN X16.here hx rfl (hD 58 rfl) rfl rfl ?_
    exact k))
  obtain ⟨T18, X18, e18, st18⟩ := getF X16 hx hZ hown (host := "") (Or.inl (hw _ (mi 59 rfl))) Via.refl e16 (W16q.fld (i := 0) rfl (j := 9) rfl rfl) (g := K17.g) rfl rfl (hD 59 rfl)
  have K19 : Rc K0 T18 (mkF m 179 #[sR b, sI sa, sD xa, sV, sI (Int32.ofNat t1), sI (Int32.ofNat t1), sI (Int32.ofNat t1)] [(kI sa), (kI (Int32.ofNat t1)), (kR su)]) := fun t k => K17 t (st18 t (by
    refine XS.iload X18.here hx rfl (hD 60 rfl) rfl ?_
    refine XS.iloadN X18.here hx rfl (hD 61 rfl) rfl ?_
    exact k))
  obtain ⟨T20, h20, L20, X20, e20, N20, W20q, st20⟩ := iasW X18 hx hZ e18 W16q N16 (i := 2) (a := su) rfl (j := (Int32.ofNat t1)) (x := sa) (k := t1) (own_nn (by omega)) (own_tn (by omega)) (by omega) (g := K19.g) rfl rfl (hD 62 rfl)
  have K21 : Rc K0 T20 (mkF m 181 #[sR b, sI sa, sD xa, sV, sI (Int32.ofNat t1), sI (Int32.ofNat t1), sI (Int32.ofNat t1)] [(kR b)]) := fun t k => K19 t (st20 t (XS.aloadN X20.here hx rfl (hD 63 rfl) rfl rfl k))
  obtain ⟨T22, X22, e22, st22⟩ := getF X20 hx hZ hown (host := "") (Or.inl (hw _ (mi 61 rfl))) Via.refl e20 (W20q.fld (i := 0) rfl (j := 10) rfl rfl) (g := K21.g) rfl rfl (hD 64 rfl)
  have K23 : Rc K0 T22 (mkF m 187 #[sR b, sI sa, sD xa, sV, sI (Int32.ofNat t1), sI (Int32.ofNat t1), sI (Int32.ofNat t1)] [(kD xa), (kI (Int32.ofNat t1)), (kR pr)]) := fun t k => K21 t (st22 t (by
    refine XS.iload X22.here hx rfl (hD 65 rfl) rfl ?_
    refine XS.dloadN X22.here hx rfl (hD 66 rfl) rfl ?_
    exact k))
  obtain ⟨T24, h24, L24, X24, e24, N24, W24q, st24⟩ := dasW X22 hx hZ e22 W20q N20 (i := 3) (a := pr) rfl (j := (Int32.ofNat t1)) (x := xa) (k := t1) (own_nn (by omega)) (own_tn (by omega)) (by omega) (g := K23.g) rfl rfl (hD 67 rfl)
  have K25 : Rc K0 T24 (mkF m 189 #[sR b, sI sa, sD xa, sV, sI (Int32.ofNat t1), sI (Int32.ofNat t1), sI (Int32.ofNat t1)] [(kR b)]) := fun t k => K23 t (st24 t (XS.aloadN X24.here hx rfl (hD 68 rfl) rfl rfl k))
  obtain ⟨T26, X26, e26, st26⟩ := getF X24 hx hZ hown (host := "") (Or.inl (hw _ (mi 84 rfl))) Via.refl e24 (W24q.fld (i := 0) rfl (j := 15) rfl rfl) (g := K25.g) rfl rfl (hD 69 rfl)
  have K27 : Rc K0 T26 (mkF m 218 #[sR b, sI sa, sD xa, sV, sI (Int32.ofNat t1), sI (Int32.ofNat t1), sI (Int32.ofNat t1)] [(kR b)]) := fun t k => K25 t (st26 t (by
    refine XS.ifnullYes X26.here hx rfl (pc0 := 192) (pc' := 217) rfl (hD 70 rfl) rfl (by decide) (by decide) ?_
    refine XS.aloadN X26.here hx rfl (hD 71 rfl) rfl rfl ?_
    exact k))
  obtain ⟨T28, X28, e28, st28⟩ := getF X26 hx hZ hown (host := "") (Or.inl (hw _ (mi 82 rfl))) Via.refl e26 (W24q.fld (i := 0) rfl (j := 14) rfl rfl) (g := K27.g) rfl rfl (hD 72 rfl)
  have K29 : Rc K0 T28 (mkF m 286 #[sR b, sI sa, sD xa, sV, sI (Int32.ofNat t1), sI (Int32.ofNat t1), sI (Int32.ofNat t1)] [(kI (Int32.ofNat t1))]) := fun t k => K27 t (st28 t (by
    refine XS.iload X28.here hx rfl (hD 73 rfl) rfl ?_
    refine XS.isub X28.here hx rfl (hD 74 rfl) rfl ?_
    show Steps p.tables e below (T28.setTop (mkF m 224 #[sR b, sI sa, sD xa, sV, sI (Int32.ofNat t1), sI (Int32.ofNat t1), sI (Int32.ofNat t1)] [(kI ((Int32.ofNat (t1 + 1)) - (Int32.ofNat t1)))])) _
    rw [own_sub (by omega) (by omega)]
    show Steps p.tables e below (T28.setTop (mkF m 224 #[sR b, sI sa, sD xa, sV, sI (Int32.ofNat t1), sI (Int32.ofNat t1), sI (Int32.ofNat t1)] [(kI (Int32.ofNat ((t1 + 1) - t1)))])) _
    refine XS.bipush X28.here hx rfl (hD 75 rfl) ?_
    refine XS.icmpYes X28.here hx rfl (pc0 := 226) (pc' := 284) rfl (hD 76 rfl) rfl (flt (own_nlt (a := 32) (b := ((t1 + 1) - t1)) (by omega) (by decide))).2.2.2 (by decide) (by decide) ?_
    refine XS.iload X28.here hx rfl (hD 77 rfl) rfl ?_
    exact k))
  obtain ⟨fs, hr, hrun, hended, hWm, hsame⟩ := X28.leave (v := some (.int (Int32.ofNat t1))) (fun h => by rw [Bd.returns] at h; cases h)
  refine ⟨_, _, pre0 _ (K29 _ (retI X28 hx Bd.returns (hD 78 rfl) hr)), hrun, hended, _, _, rfl, ?_, ⟨_, rfl⟩, hWm, hsame.mono (by decide) (by decide)⟩
  show QrmAM3 Z b fa ac fc cm ft su pr vv cv sa xa t1 f3 f6 f7 Rr n0 _ T28.heap _
  rw [e28]
  exact ⟨rfl, N24, W24q⟩
theorem ef_rmAM2 (m : MethodId) (b fa ac fc cm ft su pr : Addr) (vv : Addr) (cv sa sb : Int32) (xa xb : UInt64) (f3 f6 f7 : Nat → Value) : entryFrame m #[(.ref b), (.int sb), (.double xb)] 7 = mkF m 0 #[.val (.ref b), .val (.int sb), .val (.double xb), .second, .unset, .unset, .unset] [] := by first | (simp [entryFrame, mkF, argsToLocals, Value.category]; done) | rfl
def QrmAM2 (Z : State) (b fa ac fc cm ft su pr : Addr) (vv : Addr) (cv sa sb : Int32) (xa xb : UInt64) (f3 f6 f7 : Nat → Value) (Rr : List (Addr × (Cell → Prop))) (n0 : Nat) (v : Option Value) (h : Heap) (L : List Loc) : Prop := ∃ (z : Int32) (t1 : Nat) (f g : Nat → Value), v = some (.int z) ∧ Fr n0 L ∧ Wo n0 h ((b, oB Z [.null, (kI 0), (kR vv), (kI cv), (kR fa), (kR ac), (kR fc), (kR cm), (kR ft), (kR su), (kR pr), (kI 1), (kI 0), (kI 0), (kI (Int32.ofNat t1)), .null]) :: (ft, Ar Z .int 2 f3) :: (su, Ar Z .int 4 f) :: (pr, Ar Z .double 4 g) :: Rr) ∧ own_mv sa sb xa xb f6 f7 t1 f g
set_option maxRecDepth 65536 in
set_option maxHeartbeats 40000000 in
theorem rmAM2 (l : Launch) (Z : State) (a0 : Array Value) (hw : ∀ d ∈ tables_1, d.before a0 Z = true) (ws : List Jvm.Cond) (b fa ac fc cm ft su pr : Addr) (vv : Addr) (cv sa sb : Int32) (xa xb : UInt64) (f3 f6 f7 : Nat → Value) (Rr : List (Addr × (Cell → Prop))) (h0 : Heap) (n0 : Nat) (W0 : Wo n0 h0 ((b, oB Z [.null, (kI 0), (kR vv), (kI cv), (kR fa), (kR ac), (kR fc), (kR cm), (kR ft), (kR su), (kR pr), (kI 1), (kI 0), (kI 0), (kI 1), .null]) :: (ft, Ar Z .int 2 f3) :: (su, Ar Z .int 4 f6) :: (pr, Ar Z .double 4 f7) :: Rr)) (h3 : f3 0 = .int 0) (h6 : f6 0 = .int sa) (h7 : f7 0 = .double xa) (hnn : Jvm.Free.Fl.NoNaN64 (FP.dadd xa xb)) :
    MetFree l y_am (head1 (Jvm.Cond.code y_am prog_88_method_6_code 7 (some .int) :: ws) ({ frames := 0, cells := 0, slots := 0, locals := 0 } : Room)) (fun aa U => aa = #[(.ref b), (.int sb), (.double xb)] ∧ Z.Warmed39 U.vm ∧ U.heap = h0) (fun _ _ _ _ _ => True) (fun _ U ou U' => ∃ v L, ou = .returned v ∧ QrmAM2 Z b fa ac fc cm ft su pr vv cv sa sb xa xb f3 f6 f7 Rr n0 v U'.heap L ∧ FrameEnd U ou U' L ({ frames := 0, cells := 0, slots := 0, locals := 0 } : Room).cells ({ frames := 0, cells := 0, slots := 0, locals := 0 } : Room).slots) := by
  refine MetFree.of_bodySF (plainFor_of_name pn_Rows_Builder) hisR ?_
  intro p e s m args below meth c s₁ Bd hml0 hP hK
  obtain ⟨rfl, hZ, hh⟩ := hP
  have hx := Bd.exec
  have hby := Bd.bytes
  have hml : c.maxLocals = 7 := hml0
  have hD : ∀ (k : Nat) {pc : Nat} {i : Instr} {n : Nat}, Ld_am[k]? = some (pc, i, n) → decode c.code pc = .ok (i, n) := by intro k pc i n h; exact hb hby (d_am (pc, i, n) (mi k h))
  have hown : s.vm.findClass "com/example/sambre/sambre/engine/Rows$Builder" = some m.cls := findClass_of_methodNamed Bd.named
  have hnm := (name_of_methodNamed Bd.named Bd.method).1
  have X0 : Stand p l e ({ frames := 0, cells := 0, slots := 0, locals := 0 } : Room) s m #[(.ref b), (.int sb), (.double xb)] below meth c s₁ [] 0 0 := Stand.of_body Bd
  have e0 : s₁.heap = h0 := by rw [← hh, Bd.state]; rfl
  have N0 := Fr.nil n0
  obtain ⟨F0, hF0⟩ : ∃ F, F = mkF m 0 #[.val (.ref b), .val (.int sb), .val (.double xb), .second, .unset, .unset, .unset] [] := ⟨_, rfl⟩
  have pre0 : ∀ t, Steps p.tables e below (s₁.setTop F0) t → Steps p.tables e below (s₁.setTop (entryFrame m #[(.ref b), (.int sb), (.double xb)] 7)) t := fun t k => castTop ((ef_rmAM2 m b fa ac fc cm ft su pr vv cv sa sb xa xb f3 f6 f7).trans hF0.symm) k
  have K0 : Rch p e below s₁ F0 s₁ (mkF m 0 #[.val (.ref b), .val (.int sb), .val (.double xb), .second, .unset, .unset, .unset] []) := fun t k => castTop hF0 k
  have K1 : Rc K0 s₁ (mkF m 1 #[sR b, sI sb, sD xb, sV, sU, sU, sU] [(kR b)]) := fun t k => K0 t (XS.aloadN X0.here hx rfl (hD 0 rfl) rfl rfl k)
  obtain ⟨T2, X2, e2, st2⟩ := getF X0 hx hZ hown (host := "") (Or.inl (hw _ (mi 57 rfl))) Via.refl e0 (W0.fld (i := 0) rfl (j := 8) rfl rfl) (g := K1.g) rfl rfl (hD 1 rfl)
  have K3 : Rc K0 T2 (mkF m 5 #[sR b, sI sb, sD xb, sV, sU, sU, sU] [(kR b), (kR ft)]) := fun t k => K1 t (st2 t (XS.aloadN X2.here hx rfl (hD 2 rfl) rfl rfl k))
  obtain ⟨T4, X4, e4, st4⟩ := getF X2 hx hZ hown (host := "") (Or.inl (hw _ (mi 76 rfl))) Via.refl e2 (W0.fld (i := 0) rfl (j := 11) rfl rfl) (g := K3.g) rfl rfl (hD 3 rfl)
  have K5 : Rc K0 T4 (mkF m 17 #[sR b, sI sb, sD xb, sV, sI 0, sI (-1), sU] [(kR b)]) := fun t k => K3 t (st4 t (by
    refine XS.iconst X4.here hx rfl (hD 4 rfl) ?_
    refine XS.isub X4.here hx rfl (hD 5 rfl) rfl ?_
    refine ialW X4 hx hZ e4 W0 (i := 1) rfl (j := (0 : Int32)) (k := 0) (by decide) (by decide) (by decide) (v := (.int (0 : Int32))) h3 (g := (mkF m 10 #[sR b, sI sb, sD xb, sV, sU, sU, sU] [(kI 0), (kR ft)])) rfl rfl (hD 6 rfl) _ ?_
    refine XS.istore X4.here hx rfl (hD 7 rfl) rfl (l' := #[sR b, sI sb, sD xb, sV, sI 0, sU, sU]) rfl ?_
    refine XS.iconst X4.here hx rfl (hD 8 rfl) ?_
    refine XS.istore X4.here hx rfl (hD 9 rfl) rfl (l' := #[sR b, sI sb, sD xb, sV, sI 0, sI (-1), sU]) rfl ?_
    refine XS.aloadN X4.here hx rfl (hD 10 rfl) rfl rfl ?_
    exact k))
  obtain ⟨T6, X6, e6, st6⟩ := getF X4 hx hZ hown (host := "") (Or.inl (hw _ (mi 84 rfl))) Via.refl e4 (W0.fld (i := 0) rfl (j := 15) rfl rfl) (g := K5.g) rfl rfl (hD 11 rfl)
  have K7 : Rc K0 T6 (mkF m 58 #[sR b, sI sb, sD xb, sV, sI 0, sI (-1), sI 0] [(kR b), (kI 0)]) := fun t k => K5 t (st6 t (by
    refine XS.ifnullYes X6.here hx rfl (pc0 := 20) (pc' := 51) rfl (hD 12 rfl) rfl (by decide) (by decide) ?_
    refine XS.iload X6.here hx rfl (hD 13 rfl) rfl ?_
    refine XS.istore X6.here hx rfl (hD 14 rfl) rfl (l' := #[sR b, sI sb, sD xb, sV, sI 0, sI (-1), sI 0]) rfl ?_
    refine XS.iload X6.here hx rfl (hD 15 rfl) rfl ?_
    refine XS.aloadN X6.here hx rfl (hD 16 rfl) rfl rfl ?_
    exact k))
  obtain ⟨T8, X8, e8, st8⟩ := getF X6 hx hZ hown (host := "") (Or.inl (hw _ (mi 82 rfl))) Via.refl e6 (W0.fld (i := 0) rfl (j := 14) rfl rfl) (g := K7.g) rfl rfl (hD 17 rfl)
  have K9 : Rc K0 T8 (mkF m 70 #[sR b, sI sb, sD xb, sV, sI 0, sI (-1), sI 0] [(kR b)]) := fun t k => K7 t (st8 t (by
    refine XS.icmpNo X8.here hx rfl (hD 18 rfl) rfl (by decide) ?_
    refine XS.iload X8.here hx rfl (hD 19 rfl) rfl ?_
    refine XS.ifNo X8.here hx rfl (hD 20 rfl) rfl (by decide) ?_
    refine XS.aloadN X8.here hx rfl (hD 21 rfl) rfl rfl ?_
    exact k))
  obtain ⟨T10, X10, e10, st10⟩ := getF X8 hx hZ hown (host := "") (Or.inl (hw _ (mi 59 rfl))) Via.refl e8 (W0.fld (i := 0) rfl (j := 9) rfl rfl) (g := K9.g) rfl rfl (hD 22 rfl)
  have K11 : Rc K0 T10 (mkF m 77 #[sR b, sI sb, sD xb, sV, sI 0, sI (-1), sI 0] [(kI sb), (kI sa)]) := fun t k => K9 t (st10 t (by
    refine XS.iload X10.here hx rfl (hD 23 rfl) rfl ?_
    refine ialW X10 hx hZ e10 W0 (i := 2) rfl (j := (0 : Int32)) (k := 0) (by decide) (by decide) (by decide) (v := (.int sa)) h6 (g := (mkF m 75 #[sR b, sI sb, sD xb, sV, sI 0, sI (-1), sI 0] [(kI 0), (kR su)])) rfl rfl (hD 24 rfl) _ ?_
    refine XS.iloadN X10.here hx rfl (hD 25 rfl) rfl ?_
    exact k))
  by_cases hq : sa = sb
  · have hqb := hq
    have K12 : Rc K0 T10 (mkF m 58 #[sR b, sI sb, sD xb, sV, sI 0, sI 0, sI 1] [(kR b), (kI 1)]) := fun t k => K11 t (by
      refine XS.icmpNo X10.here hx rfl (hD 26 rfl) rfl (teq hq).2 ?_
      refine XS.iload X10.here hx rfl (hD 27 rfl) rfl ?_
      refine XS.goto X10.here hx rfl (pc0 := 82) (pc' := 86) rfl (hD 28 rfl) (by decide) (by decide) ?_
      refine XS.istore X10.here hx rfl (hD 30 rfl) rfl (l' := #[sR b, sI sb, sD xb, sV, sI 0, sI 0, sI 0]) rfl ?_
      refine XS.iinc X10.here hx rfl (hD 31 rfl) rfl (l' := #[sR b, sI sb, sD xb, sV, sI 0, sI 0, sI 1]) rfl ?_
      refine XS.goto X10.here hx rfl (pc0 := 91) (pc' := 55) rfl (hD 32 rfl) (by decide) (by decide) ?_
      refine XS.iload X10.here hx rfl (hD 15 rfl) rfl ?_
      refine XS.aloadN X10.here hx rfl (hD 16 rfl) rfl rfl ?_
      exact k)
    obtain ⟨T13, X13, e13, st13⟩ := getF X10 hx hZ hown (host := "") (Or.inl (hw _ (mi 82 rfl))) Via.refl e10 (W0.fld (i := 0) rfl (j := 14) rfl rfl) (g := K12.g) rfl rfl (hD 17 rfl)
    have K14 : Rc K0 T13 (mkF m 100 #[sR b, sI sb, sD xb, sV, sI 0, sI 0, sI 1] [(kR b)]) := fun t k => K12 t (st13 t (by
      refine XS.icmpYes X13.here hx rfl (pc0 := 61) (pc' := 94) rfl (hD 18 rfl) rfl (by decide) (by decide) (by decide) ?_
      refine XS.iload X13.here hx rfl (hD 33 rfl) rfl ?_
      refine XS.ifNo X13.here hx rfl (hD 34 rfl) rfl (by decide) ?_
      refine XS.aloadN X13.here hx rfl (hD 35 rfl) rfl rfl ?_
      exact k))
    obtain ⟨T15, X15, e15, st15⟩ := getF X13 hx hZ hown (host := "") (Or.inl (hw _ (mi 61 rfl))) Via.refl e13 (W0.fld (i := 0) rfl (j := 10) rfl rfl) (g := K14.g) rfl rfl (hD 36 rfl)
    have K16 : Rc K0 T15 (mkF m 109 #[sR b, sI sb, sD xb, sV, sI 0, sI 0, sI 1] [(kD (FP.dadd xa xb)), (kI 0), (kR pr)]) := fun t k => K14 t (st15 t (by
      refine XS.iload X15.here hx rfl (hD 37 rfl) rfl ?_
      refine Jvm.Free.XT.dup2 X15.here hx rfl (hD 38 rfl) rfl rfl rfl ?_
      refine dalW X15 hx hZ e15 W0 (i := 3) rfl (j := (0 : Int32)) (k := 0) (by decide) (by decide) (by decide) (v := (.double xa)) h7 (g := (mkF m 106 #[sR b, sI sb, sD xb, sV, sI 0, sI 0, sI 1] [(kI 0), (kR pr), (kI 0), (kR pr)])) rfl rfl (hD 39 rfl) _ ?_
      refine XS.dloadN X15.here hx rfl (hD 40 rfl) rfl ?_
      refine XS.daddS X15.here hx rfl (hD 41 rfl) rfl hnn rfl ?_
      exact k))
    obtain ⟨T17, h17, L17, X17, e17, N17, W17q, st17⟩ := dasW X15 hx hZ e15 W0 N0 (i := 3) (a := pr) rfl (j := (0 : Int32)) (x := (FP.dadd xa xb)) (k := 0) (by decide) (by decide) (by decide) (g := K16.g) rfl rfl (hD 42 rfl)
    have K18 : Rc K0 T17 (mkF m 286 #[sR b, sI sb, sD xb, sV, sI 0, sI 0, sI 1] [(kI 0)]) := fun t k => K16 t (st17 t (by
      refine XS.goto X17.here hx rfl (pc0 := 110) (pc' := 284) rfl (hD 43 rfl) (by decide) (by decide) ?_
      refine XS.iload X17.here hx rfl (hD 77 rfl) rfl ?_
      exact k))
    obtain ⟨fs, hr, hrun, hended, hWm, hsame⟩ := X17.leave (v := some (.int (0 : Int32))) (fun h => by rw [Bd.returns] at h; cases h)
    refine ⟨_, _, pre0 _ (K18 _ (retI X17 hx Bd.returns (hD 78 rfl) hr)), hrun, hended, _, _, rfl, ?_, ⟨_, rfl⟩, hWm, hsame.mono (by decide) (by decide)⟩
    show QrmAM2 Z b fa ac fc cm ft su pr vv cv sa sb xa xb f3 f6 f7 Rr n0 _ T17.heap _
    rw [e17]
    exact ⟨_, 1, f6, upd f7 0 (.double (FP.dadd xa xb)), rfl, N17, W17q, Or.inl ⟨hq, rfl, rfl, rfl⟩⟩
  · have hqb := hq
    have K19 : Rc K0 T10 (mkF m 58 #[sR b, sI sb, sD xb, sV, sI 0, sI (-1), sI 1] [(kR b), (kI 1)]) := fun t k => K11 t (by
      refine XS.icmpYes X10.here hx rfl (pc0 := 77) (pc' := 85) rfl (hD 26 rfl) rfl (feq hq).2 (by decide) (by decide) ?_
      refine XS.iconst X10.here hx rfl (hD 29 rfl) ?_
      refine XS.istore X10.here hx rfl (hD 30 rfl) rfl (l' := #[sR b, sI sb, sD xb, sV, sI 0, sI (-1), sI 0]) rfl ?_
      refine XS.iinc X10.here hx rfl (hD 31 rfl) rfl (l' := #[sR b, sI sb, sD xb, sV, sI 0, sI (-1), sI 1]) rfl ?_
      refine XS.goto X10.here hx rfl (pc0 := 91) (pc' := 55) rfl (hD 32 rfl) (by decide) (by decide) ?_
      refine XS.iload X10.here hx rfl (hD 15 rfl) rfl ?_
      refine XS.aloadN X10.here hx rfl (hD 16 rfl) rfl rfl ?_
      exact k)
    obtain ⟨T20, X20, e20, st20⟩ := getF X10 hx hZ hown (host := "") (Or.inl (hw _ (mi 82 rfl))) Via.refl e10 (W0.fld (i := 0) rfl (j := 14) rfl rfl) (g := K19.g) rfl rfl (hD 17 rfl)
    have K21 : Rc K0 T20 (mkF m 114 #[sR b, sI sb, sD xb, sV, sI 0, sI (-1), sI 1] [(kR b)]) := fun t k => K19 t (st20 t (by
      refine XS.icmpYes X20.here hx rfl (pc0 := 61) (pc' := 94) rfl (hD 18 rfl) rfl (by decide) (by decide) (by decide) ?_
      refine XS.iload X20.here hx rfl (hD 33 rfl) rfl ?_
      refine XS.ifYes X20.here hx rfl (pc0 := 96) (pc' := 113) rfl (hD 34 rfl) rfl (by decide) (by decide) (by decide) ?_
      refine XS.aloadN X20.here hx rfl (hD 44 rfl) rfl rfl ?_
      exact k))
    obtain ⟨T22, X22, e22, st22⟩ := getF X20 hx hZ hown (host := "") (Or.inl (hw _ (mi 82 rfl))) Via.refl e20 (W0.fld (i := 0) rfl (j := 14) rfl rfl) (g := K21.g) rfl rfl (hD 45 rfl)
    have K23 : Rc K0 T22 (mkF m 118 #[sR b, sI sb, sD xb, sV, sI 0, sI (-1), sI 1] [(kR b), (kI 1)]) := fun t k => K21 t (st22 t (XS.aloadN X22.here hx rfl (hD 46 rfl) rfl rfl k))
    obtain ⟨T24, X24, e24, st24⟩ := getF X22 hx hZ hown (host := "") (Or.inl (hw _ (mi 59 rfl))) Via.refl e22 (W0.fld (i := 0) rfl (j := 9) rfl rfl) (g := K23.g) rfl rfl (hD 47 rfl)
    have K25 : Rc K0 T24 (mkF m 161 #[sR b, sI sb, sD xb, sV, sI 0, sI (-1), sI 1] [(kR b), (kR b)]) := fun t k => K23 t (st24 t (by
      refine lenW X24 hx hZ e24 W0 (i := 2) rfl (fun _ q => q) (z := (4 : Int32)) (by decide) (g := (mkF m 121 #[sR b, sI sb, sD xb, sV, sI 0, sI (-1), sI 1] [(kR su), (kI 1)])) rfl rfl (hD 48 rfl) _ ?_
      refine XS.icmpYes X24.here hx rfl (pc0 := 122) (pc' := 159) rfl (hD 49 rfl) rfl (by decide) (by decide) (by decide) ?_
      refine XS.aloadN X24.here hx rfl (hD 50 rfl) rfl rfl ?_
      refine XS.dup X24.here hx rfl (hD 51 rfl) rfl rfl ?_
      exact k))
    obtain ⟨T26, X26, e26, st26⟩ := getF X24 hx hZ hown (host := "") (Or.inl (hw _ (mi 82 rfl))) Via.refl e24 (W0.fld (i := 0) rfl (j := 14) rfl rfl) (g := K25.g) rfl rfl (hD 52 rfl)
    have K27 : Rc K0 T26 (mkF m 167 #[sR b, sI sb, sD xb, sV, sI 0, sI (-1), sI 1] [(kI 2), (kR b), (kI 1)]) := fun t k => K25 t (st26 t (by
      refine XS.dupX1 X26.here hx rfl (hD 53 rfl) rfl rfl rfl ?_
      refine XS.iconst X26.here hx rfl (hD 54 rfl) ?_
      refine XS.iadd X26.here hx rfl (hD 55 rfl) rfl ?_
      exact k))
    obtain ⟨T28, h28, L28, X28, e28, N28, W28q, st28⟩ := putW X26 hx hZ hown (host := "") (Or.inl (hw _ (mi 82 rfl))) e26 W0 N0 (own_dB hw) (Or.inl (hw _ (mi 83 rfl))) (hw _ (mi 43 rfl)) (ty := .int) (by decide +kernel) (i := 0) (a := b) rfl (j := 14) rfl rfl (v := (.int (2 : Int32))) rfl rfl (g := K27.g) rfl rfl (hD 56 rfl)
    have K29 : Rc K0 T28 (mkF m 173 #[sR b, sI sb, sD xb, sV, sI 0, sI 1, sI 1] [(kR b)]) := fun t k => K27 t (st28 t (by
      refine XS.istore X28.here hx rfl (hD 57 rfl) rfl (l' := #[sR b, sI sb, sD xb, sV, sI 0, sI 1, sI 1]) rfl ?_
      refine XS.aloadN X28.here hx rfl (hD 58 rfl) rfl rfl ?_
      exact k))
    obtain ⟨T30, X30, e30, st30⟩ := getF X28 hx hZ hown (host := "") (Or.inl (hw _ (mi 59 rfl))) Via.refl e28 (W28q.fld (i := 0) rfl (j := 9) rfl rfl) (g := K29.g) rfl rfl (hD 59 rfl)
    have K31 : Rc K0 T30 (mkF m 179 #[sR b, sI sb, sD xb, sV, sI 0, sI 1, sI 1] [(kI sb), (kI 1), (kR su)]) := fun t k => K29 t (st30 t (by
      refine XS.iload X30.here hx rfl (hD 60 rfl) rfl ?_
      refine XS.iloadN X30.here hx rfl (hD 61 rfl) rfl ?_
      exact k))
    obtain ⟨T32, h32, L32, X32, e32, N32, W32q, st32⟩ := iasW X30 hx hZ e30 W28q N28 (i := 2) (a := su) rfl (j := (1 : Int32)) (x := sb) (k := 1) (by decide) (by decide) (by decide) (g := K31.g) rfl rfl (hD 62 rfl)
    have K33 : Rc K0 T32 (mkF m 181 #[sR b, sI sb, sD xb, sV, sI 0, sI 1, sI 1] [(kR b)]) := fun t k => K31 t (st32 t (XS.aloadN X32.here hx rfl (hD 63 rfl) rfl rfl k))
    obtain ⟨T34, X34, e34, st34⟩ := getF X32 hx hZ hown (host := "") (Or.inl (hw _ (mi 61 rfl))) Via.refl e32 (W32q.fld (i := 0) rfl (j := 10) rfl rfl) (g := K33.g) rfl rfl (hD 64 rfl)
    have K35 : Rc K0 T34 (mkF m 187 #[sR b, sI sb, sD xb, sV, sI 0, sI 1, sI 1] [(kD xb), (kI 1), (kR pr)]) := fun t k => K33 t (st34 t (by
      refine XS.iload X34.here hx rfl (hD 65 rfl) rfl ?_
      refine XS.dloadN X34.here hx rfl (hD 66 rfl) rfl ?_
      exact k))
    obtain ⟨T36, h36, L36, X36, e36, N36, W36q, st36⟩ := dasW X34 hx hZ e34 W32q N32 (i := 3) (a := pr) rfl (j := (1 : Int32)) (x := xb) (k := 1) (by decide) (by decide) (by decide) (g := K35.g) rfl rfl (hD 67 rfl)
    have K37 : Rc K0 T36 (mkF m 189 #[sR b, sI sb, sD xb, sV, sI 0, sI 1, sI 1] [(kR b)]) := fun t k => K35 t (st36 t (XS.aloadN X36.here hx rfl (hD 68 rfl) rfl rfl k))
    obtain ⟨T38, X38, e38, st38⟩ := getF X36 hx hZ hown (host := "") (Or.inl (hw _ (mi 84 rfl))) Via.refl e36 (W36q.fld (i := 0) rfl (j := 15) rfl rfl) (g := K37.g) rfl rfl (hD 69 rfl)
    have K39 : Rc K0 T38 (mkF m 218 #[sR b, sI sb, sD xb, sV, sI 0, sI 1, sI 1] [(kR b)]) := fun t k => K37 t (st38 t (by
      refine XS.ifnullYes X38.here hx rfl (pc0 := 192) (pc' := 217) rfl (hD 70 rfl) rfl (by decide) (by decide) ?_
      refine XS.aloadN X38.here hx rfl (hD 71 rfl) rfl rfl ?_
      exact k))
    obtain ⟨T40, X40, e40, st40⟩ := getF X38 hx hZ hown (host := "") (Or.inl (hw _ (mi 82 rfl))) Via.refl e38 (W36q.fld (i := 0) rfl (j := 14) rfl rfl) (g := K39.g) rfl rfl (hD 72 rfl)
    have K41 : Rc K0 T40 (mkF m 286 #[sR b, sI sb, sD xb, sV, sI 0, sI 1, sI 1] [(kI 1)]) := fun t k => K39 t (st40 t (by
      refine XS.iload X40.here hx rfl (hD 73 rfl) rfl ?_
      refine XS.isub X40.here hx rfl (hD 74 rfl) rfl ?_
      refine XS.bipush X40.here hx rfl (hD 75 rfl) ?_
      refine XS.icmpYes X40.here hx rfl (pc0 := 226) (pc' := 284) rfl (hD 76 rfl) rfl (by decide) (by decide) (by decide) ?_
      refine XS.iload X40.here hx rfl (hD 77 rfl) rfl ?_
      exact k))
    obtain ⟨fs, hr, hrun, hended, hWm, hsame⟩ := X40.leave (v := some (.int (1 : Int32))) (fun h => by rw [Bd.returns] at h; cases h)
    refine ⟨_, _, pre0 _ (K41 _ (retI X40 hx Bd.returns (hD 78 rfl) hr)), hrun, hended, _, _, rfl, ?_, ⟨_, rfl⟩, hWm, hsame.mono (by decide) (by decide)⟩
    show QrmAM2 Z b fa ac fc cm ft su pr vv cv sa sb xa xb f3 f6 f7 Rr n0 _ T40.heap _
    rw [e40]
    exact ⟨_, 2, upd f6 1 (.int sb), upd f7 1 (.double xb), rfl, N36, W36q, Or.inr ⟨hq, rfl, rfl, rfl⟩⟩
abbrev y_rm : MethodName := ⟨"com/example/sambre/sambre/engine/Rows", "room", "([II)[I"⟩
theorem pd_rm : parseMethodDescriptor "([II)[I" = some ⟨[(.array .int), .int], some (.array .int)⟩ := by decide +kernel
def Ld_rm : List (Nat × Instr × Nat) := [(0, .iload_n 1, 1), (1, .aload_n 0, 1), (2, .arraylength, 1), (3, .if_icmp .gt 7, 3), (6, .aload_n 0, 1), (7, .goto 12, 3), (19, .areturn, 1)]
set_option maxRecDepth 65536 in
theorem d_rm : ∀ x ∈ Ld_rm, decode prog_87_method_7_code x.1 = .ok (x.2.1, x.2.2) := by decide +kernel
theorem ef_rmRM1 (m : MethodId) (q : Addr) (f : Nat → Value) : entryFrame m #[(.ref q), (.int (1 : Int32))] 2 = mkF m 0 #[.val (.ref q), .val (.int (1 : Int32))] [] := by first | (simp [entryFrame, mkF, argsToLocals, Value.category]; done) | rfl
def QrmRM1 (Z : State) (q : Addr) (f : Nat → Value) (Rr : List (Addr × (Cell → Prop))) (n0 : Nat) (v : Option Value) (h : Heap) (L : List Loc) : Prop := v = some (.ref q) ∧ Fr n0 L ∧ Wo n0 h ((q, Ar Z .int 4 f) :: Rr)
set_option maxRecDepth 65536 in
set_option maxHeartbeats 40000000 in
theorem rmRM1 (l : Launch) (Z : State) (a0 : Array Value) (hw : ∀ d ∈ tables_1, d.before a0 Z = true) (ws : List Jvm.Cond) (q : Addr) (f : Nat → Value) (Rr : List (Addr × (Cell → Prop))) (h0 : Heap) (n0 : Nat) (W0 : Wo n0 h0 ((q, Ar Z .int 4 f) :: Rr)) :
    MetFree l y_rm (head1 (Jvm.Cond.code y_rm prog_87_method_7_code 2 (some (.array .int)) :: ws) ({ frames := 0, cells := 0, slots := 0, locals := 0 } : Room)) (fun aa U => aa = #[(.ref q), (.int (1 : Int32))] ∧ Z.Warmed39 U.vm ∧ U.heap = h0) (fun _ _ _ _ _ => True) (fun _ U ou U' => ∃ v L, ou = .returned v ∧ QrmRM1 Z q f Rr n0 v U'.heap L ∧ FrameEnd U ou U' L ({ frames := 0, cells := 0, slots := 0, locals := 0 } : Room).cells ({ frames := 0, cells := 0, slots := 0, locals := 0 } : Room).slots) := by
  refine MetFree.of_bodySF (plainFor_of_name pn_Rows) hisR ?_
  intro p e s m args below meth c s₁ Bd hml0 hP hK
  obtain ⟨rfl, hZ, hh⟩ := hP
  have hx := Bd.exec
  have hby := Bd.bytes
  have hml : c.maxLocals = 2 := hml0
  have hD : ∀ (k : Nat) {pc : Nat} {i : Instr} {n : Nat}, Ld_rm[k]? = some (pc, i, n) → decode c.code pc = .ok (i, n) := by intro k pc i n h; exact hb hby (d_rm (pc, i, n) (mi k h))
  have hown : s.vm.findClass "com/example/sambre/sambre/engine/Rows" = some m.cls := findClass_of_methodNamed Bd.named
  have hnm := (name_of_methodNamed Bd.named Bd.method).1
  have X0 : Stand p l e ({ frames := 0, cells := 0, slots := 0, locals := 0 } : Room) s m #[(.ref q), (.int (1 : Int32))] below meth c s₁ [] 0 0 := Stand.of_body Bd
  have e0 : s₁.heap = h0 := by rw [← hh, Bd.state]; rfl
  have N0 := Fr.nil n0
  obtain ⟨F0, hF0⟩ : ∃ F, F = mkF m 0 #[.val (.ref q), .val (.int (1 : Int32))] [] := ⟨_, rfl⟩
  have pre0 : ∀ t, Steps p.tables e below (s₁.setTop F0) t → Steps p.tables e below (s₁.setTop (entryFrame m #[(.ref q), (.int (1 : Int32))] 2)) t := fun t k => castTop ((ef_rmRM1 m q f).trans hF0.symm) k
  have K0 : Rch p e below s₁ F0 s₁ (mkF m 0 #[.val (.ref q), .val (.int (1 : Int32))] []) := fun t k => castTop hF0 k
  have K1 : Rc K0 s₁ (mkF m 19 #[sR q, sI 1] [(kR q)]) := fun t k => K0 t (by
    refine XS.iloadN X0.here hx rfl (hD 0 rfl) rfl ?_
    refine XS.aloadN X0.here hx rfl (hD 1 rfl) rfl rfl ?_
    refine lenW X0 hx hZ e0 W0 (i := 0) rfl (fun _ q => q) (z := (4 : Int32)) (by decide) (g := (mkF m 2 #[sR q, sI 1] [(kR q), (kI 1)])) rfl rfl (hD 2 rfl) _ ?_
    refine XS.icmpNo X0.here hx rfl (hD 3 rfl) rfl (by decide) ?_
    refine XS.aloadN X0.here hx rfl (hD 4 rfl) rfl rfl ?_
    refine XS.goto X0.here hx rfl (pc0 := 7) (pc' := 19) rfl (hD 5 rfl) (by decide) (by decide) ?_
    exact k)
  obtain ⟨fs, hr, hrun, hended, hWm, hsame⟩ := X0.leave (v := some (.ref q)) (fun h => by rw [Bd.returns] at h; cases h)
  refine ⟨_, _, pre0 _ (K1 _ (Jvm.OwnKit.retA X0 hx Bd.returns rfl (hD 6 rfl) hr)), hrun, hended, _, _, rfl, ?_, ⟨_, rfl⟩, hWm, hsame.mono (by decide) (by decide)⟩
  show QrmRM1 Z q f Rr n0 _ s₁.heap _
  rw [e0]
  exact ⟨rfl, N0, W0⟩
theorem ef_rmRM2 (m : MethodId) (q : Addr) (f : Nat → Value) : entryFrame m #[(.ref q), (.int (2 : Int32))] 2 = mkF m 0 #[.val (.ref q), .val (.int (2 : Int32))] [] := by first | (simp [entryFrame, mkF, argsToLocals, Value.category]; done) | rfl
def QrmRM2 (Z : State) (q : Addr) (f : Nat → Value) (Rr : List (Addr × (Cell → Prop))) (n0 : Nat) (v : Option Value) (h : Heap) (L : List Loc) : Prop := v = some (.ref q) ∧ Fr n0 L ∧ Wo n0 h ((q, Ar Z .int 4 f) :: Rr)
set_option maxRecDepth 65536 in
set_option maxHeartbeats 40000000 in
theorem rmRM2 (l : Launch) (Z : State) (a0 : Array Value) (hw : ∀ d ∈ tables_1, d.before a0 Z = true) (ws : List Jvm.Cond) (q : Addr) (f : Nat → Value) (Rr : List (Addr × (Cell → Prop))) (h0 : Heap) (n0 : Nat) (W0 : Wo n0 h0 ((q, Ar Z .int 4 f) :: Rr)) :
    MetFree l y_rm (head1 (Jvm.Cond.code y_rm prog_87_method_7_code 2 (some (.array .int)) :: ws) ({ frames := 0, cells := 0, slots := 0, locals := 0 } : Room)) (fun aa U => aa = #[(.ref q), (.int (2 : Int32))] ∧ Z.Warmed39 U.vm ∧ U.heap = h0) (fun _ _ _ _ _ => True) (fun _ U ou U' => ∃ v L, ou = .returned v ∧ QrmRM2 Z q f Rr n0 v U'.heap L ∧ FrameEnd U ou U' L ({ frames := 0, cells := 0, slots := 0, locals := 0 } : Room).cells ({ frames := 0, cells := 0, slots := 0, locals := 0 } : Room).slots) := by
  refine MetFree.of_bodySF (plainFor_of_name pn_Rows) hisR ?_
  intro p e s m args below meth c s₁ Bd hml0 hP hK
  obtain ⟨rfl, hZ, hh⟩ := hP
  have hx := Bd.exec
  have hby := Bd.bytes
  have hml : c.maxLocals = 2 := hml0
  have hD : ∀ (k : Nat) {pc : Nat} {i : Instr} {n : Nat}, Ld_rm[k]? = some (pc, i, n) → decode c.code pc = .ok (i, n) := by intro k pc i n h; exact hb hby (d_rm (pc, i, n) (mi k h))
  have hown : s.vm.findClass "com/example/sambre/sambre/engine/Rows" = some m.cls := findClass_of_methodNamed Bd.named
  have hnm := (name_of_methodNamed Bd.named Bd.method).1
  have X0 : Stand p l e ({ frames := 0, cells := 0, slots := 0, locals := 0 } : Room) s m #[(.ref q), (.int (2 : Int32))] below meth c s₁ [] 0 0 := Stand.of_body Bd
  have e0 : s₁.heap = h0 := by rw [← hh, Bd.state]; rfl
  have N0 := Fr.nil n0
  obtain ⟨F0, hF0⟩ : ∃ F, F = mkF m 0 #[.val (.ref q), .val (.int (2 : Int32))] [] := ⟨_, rfl⟩
  have pre0 : ∀ t, Steps p.tables e below (s₁.setTop F0) t → Steps p.tables e below (s₁.setTop (entryFrame m #[(.ref q), (.int (2 : Int32))] 2)) t := fun t k => castTop ((ef_rmRM2 m q f).trans hF0.symm) k
  have K0 : Rch p e below s₁ F0 s₁ (mkF m 0 #[.val (.ref q), .val (.int (2 : Int32))] []) := fun t k => castTop hF0 k
  have K1 : Rc K0 s₁ (mkF m 19 #[sR q, sI 2] [(kR q)]) := fun t k => K0 t (by
    refine XS.iloadN X0.here hx rfl (hD 0 rfl) rfl ?_
    refine XS.aloadN X0.here hx rfl (hD 1 rfl) rfl rfl ?_
    refine lenW X0 hx hZ e0 W0 (i := 0) rfl (fun _ q => q) (z := (4 : Int32)) (by decide) (g := (mkF m 2 #[sR q, sI 2] [(kR q), (kI 2)])) rfl rfl (hD 2 rfl) _ ?_
    refine XS.icmpNo X0.here hx rfl (hD 3 rfl) rfl (by decide) ?_
    refine XS.aloadN X0.here hx rfl (hD 4 rfl) rfl rfl ?_
    refine XS.goto X0.here hx rfl (pc0 := 7) (pc' := 19) rfl (hD 5 rfl) (by decide) (by decide) ?_
    exact k)
  obtain ⟨fs, hr, hrun, hended, hWm, hsame⟩ := X0.leave (v := some (.ref q)) (fun h => by rw [Bd.returns] at h; cases h)
  refine ⟨_, _, pre0 _ (K1 _ (Jvm.OwnKit.retA X0 hx Bd.returns rfl (hD 6 rfl) hr)), hrun, hended, _, _, rfl, ?_, ⟨_, rfl⟩, hWm, hsame.mono (by decide) (by decide)⟩
  show QrmRM2 Z q f Rr n0 _ s₁.heap _
  rw [e0]
  exact ⟨rfl, N0, W0⟩
abbrev y_sr : MethodName := ⟨"com/example/sambre/sambre/engine/Rows", "separateRows", "()V"⟩
theorem pd_sr : parseMethodDescriptor "()V" = some ⟨[], none⟩ := by decide +kernel
def Ld_sr : List (Nat × Instr × Nat) := [(0, .aload_n 0, 1), (1, .getfield 99, 3), (4, .iconst 1, 1), (5, .iadd, 1), (6, .iconst 4, 1), (7, .invokestatic 118, 3), (10, .istore_n 1, 1), (11, .aload_n 0, 1), (12, .iload_n 1, 1), (13, .newarray .int, 2), (15, .putfield 67, 3), (18, .aload_n 0, 1), (19, .iload_n 1, 1), (20, .newarray .int, 2), (22, .putfield 124, 3), (25, .aload_n 0, 1), (26, .iload_n 1, 1), (27, .newarray .int, 2), (29, .putfield 127, 3), (32, .aload_n 0, 1), (33, .iload_n 1, 1), (34, .newarray .int, 2), (36, .putfield 130, 3), (39, .aload_n 0, 1), (40, .iload_n 1, 1), (41, .newarray .int, 2), (43, .putfield 133, 3), (46, .aload_n 0, 1), (47, .iload_n 1, 1), (48, .newarray .int, 2), (50, .putfield 136, 3), (53, .iconst 0, 1), (54, .istore_n 2, 1), (55, .iload_n 2, 1), (56, .aload_n 0, 1), (57, .getfield 99, 3), (60, .if_icmp .ge 30, 3), (63, .aload_n 0, 1), (64, .getfield 67, 3), (67, .iload_n 2, 1), (68, .iload_n 2, 1), (69, .iastore, 1), (70, .aload_n 0, 1), (71, .getfield 124, 3), (74, .iload_n 2, 1), (75, .iload_n 2, 1), (76, .iastore, 1), (77, .aload_n 0, 1), (78, .getfield 127, 3), (81, .iload_n 2, 1), (82, .iconst (-1), 1), (83, .iastore, 1), (84, .iinc 2 1, 3), (87, .goto (-32), 3), (90, .aload_n 0, 1), (91, .iconst 4, 1), (92, .anewarray 138, 3), (95, .putfield 139, 3), (98, .aload_n 0, 1), (99, .getfield 139, 3), (102, .iconst 0, 1), (103, .aload_n 0, 1), (104, .getfield 49, 3), (107, .aastore, 1), (108, .aload_n 0, 1), (109, .getfield 139, 3), (112, .iconst 1, 1), (113, .bipush 64, 2), (115, .newarray .double, 2), (117, .aastore, 1), (118, .aload_n 0, 1), (119, .iconst 2, 1), (120, .putfield 143, 3), (123, .return_, 1)]
set_option maxRecDepth 65536 in
theorem d_sr : ∀ x ∈ Ld_sr, decode prog_87_method_4_code x.1 = .ok (x.2.1, x.2.2) := by decide +kernel
theorem ef_rmSR0 (m : MethodId) (r ks rgs ns fch fk kl frg fac fcm ftr acs cms sus prb : Addr) (shc : Int32) (g_prb : Nat → Value) : entryFrame m #[(.ref r)] 3 = mkF m 0 #[.val (.ref r), .unset, .unset] [] := by first | (simp [entryFrame, mkF, argsToLocals, Value.category]; done) | rfl
def QrmSR0 (Z : State) (r ks rgs ns fch fk kl frg fac fcm ftr acs cms sus prb : Addr) (shc : Int32) (g_prb : Nat → Value) (Rr : List (Addr × (Cell → Prop))) (n0 : Nat) (v : Option Value) (h : Heap) (L : List Loc) : Prop := ∃ a36 a26 a21 a18 a15 a12 a9 a6, v = none ∧ Fr n0 L ∧ Wo n0 h ((a36, Ar Z .double 64 zD) :: (a26, Pg Z .double 4 (upd (upd zN 0 (kR prb)) 1 (kR a36))) :: (a21, Ar Z .int 4 zI) :: (a18, Ar Z .int 4 zI) :: (a15, Ar Z .int 4 zI) :: (a12, Ar Z .int 4 zI) :: (a9, Ar Z .int 4 zI) :: (a6, Ar Z .int 4 zI) :: (r, oR Z [(kR ks), (kR rgs), (kR ns), (kR fch), (kR fk), (kR kl), (kR frg), (kR fac), (kR fcm), (kR ftr), (kR acs), (kR cms), (kR sus), (kR prb), (kI shc), (kR a6), (kI 0), (kR a9), (kR a12), (kR a15), (kR a18), (kR a21), (kR a26), (kI 2), (kI 0)]) :: (prb, Ar Z .double 64 g_prb) :: Rr)
set_option maxRecDepth 65536 in
set_option maxHeartbeats 40000000 in
theorem rmSR0 (l : Launch) (Z : State) (a0 : Array Value) (hw : ∀ d ∈ tables_1, d.before a0 Z = true) (ws : List Jvm.Cond) (r ks rgs ns fch fk kl frg fac fcm ftr acs cms sus prb : Addr) (shc : Int32) (g_prb : Nat → Value) (Rr : List (Addr × (Cell → Prop))) (h0 : Heap) (n0 : Nat) (W0 : Wo n0 h0 ((r, oR Z [(kR ks), (kR rgs), (kR ns), (kR fch), (kR fk), (kR kl), (kR frg), (kR fac), (kR fcm), (kR ftr), (kR acs), (kR cms), (kR sus), (kR prb), (kI shc), .null, (kI 0), .null, .null, .null, .null, .null, .null, (kI 0), (kI 0)]) :: (prb, Ar Z .double 64 g_prb) :: Rr)) :
    MetFree l y_sr (head1 (Jvm.Cond.code y_sr prog_87_method_4_code 3 none :: ws) ({ frames := 4, cells := 8, slots := 92, locals := 60 } : Room)) (fun aa U => aa = #[(.ref r)] ∧ Z.Warmed39 U.vm ∧ U.heap = h0) (fun _ _ _ _ _ => True) (fun _ U ou U' => ∃ v L, ou = .returned v ∧ QrmSR0 Z r ks rgs ns fch fk kl frg fac fcm ftr acs cms sus prb shc g_prb Rr n0 v U'.heap L ∧ FrameEnd U ou U' L ({ frames := 4, cells := 8, slots := 92, locals := 60 } : Room).cells ({ frames := 4, cells := 8, slots := 92, locals := 60 } : Room).slots) := by
  refine MetFree.of_bodySF (plainFor_of_name pn_Rows) hisR ?_
  intro p e s m args below meth c s₁ Bd hml0 hP hK
  obtain ⟨rfl, hZ, hh⟩ := hP
  have hx := Bd.exec
  have hby := Bd.bytes
  have hml : c.maxLocals = 3 := hml0
  have hD : ∀ (k : Nat) {pc : Nat} {i : Instr} {n : Nat}, Ld_sr[k]? = some (pc, i, n) → decode c.code pc = .ok (i, n) := by intro k pc i n h; exact hb hby (d_sr (pc, i, n) (mi k h))
  have hown : s.vm.findClass "com/example/sambre/sambre/engine/Rows" = some m.cls := findClass_of_methodNamed Bd.named
  have hnm := (name_of_methodNamed Bd.named Bd.method).1
  have X0 : Stand p l e ({ frames := 4, cells := 8, slots := 92, locals := 60 } : Room) s m #[(.ref r)] below meth c s₁ [] 0 0 := Stand.of_body Bd
  have e0 : s₁.heap = h0 := by rw [← hh, Bd.state]; rfl
  have N0 := Fr.nil n0
  obtain ⟨F0, hF0⟩ : ∃ F, F = mkF m 0 #[.val (.ref r), .unset, .unset] [] := ⟨_, rfl⟩
  have pre0 : ∀ t, Steps p.tables e below (s₁.setTop F0) t → Steps p.tables e below (s₁.setTop (entryFrame m #[(.ref r)] 3)) t := fun t k => castTop ((ef_rmSR0 m r ks rgs ns fch fk kl frg fac fcm ftr acs cms sus prb shc g_prb).trans hF0.symm) k
  have K0 : Rch p e below s₁ F0 s₁ (mkF m 0 #[.val (.ref r), .unset, .unset] []) := fun t k => castTop hF0 k
  have K1 : Rc K0 s₁ (mkF m 1 #[sR r, sU, sU] [(kR r)]) := fun t k => K0 t (XS.aloadN X0.here hx rfl (hD 0 rfl) rfl rfl k)
  obtain ⟨T2, X2, e2, st2⟩ := getF X0 hx hZ hown (host := "") (Or.inl (hw _ (mi 122 rfl))) Via.refl e0 (W0.fld (i := 0) rfl (j := 16) rfl rfl) (g := K1.g) rfl rfl (hD 1 rfl)
  have K3 : Rc K0 T2 (mkF m 7 #[sR r, sU, sU] [(kI 4), (kI 1)]) := fun t k => K1 t (st2 t (by
    refine XS.iconst X2.here hx rfl (hD 2 rfl) ?_
    refine XS.iadd X2.here hx rfl (hD 3 rfl) rfl ?_
    refine XS.iconst X2.here hx rfl (hD 4 rfl) ?_
    exact k))
  obtain ⟨_, _, ⟨T4, L4, k4, n4⟩, -, X4, ⟨Lc4, hQ4, l4, y4, z4⟩, st4⟩ := Jvm.LawKit.callS X2 hx (y := y_atl) hown (mvT hZ (hw _ (mi 135 rfl))) (mvT hZ (hw _ (mi 136 rfl))) (mvT hZ (hw _ (mi 137 rfl))) (mvT hZ (hw _ (mi 138 rfl))) (by decide) (backOf (W := 0) (rmAL1 l Z a0 hw []  ((r, oR Z [(kR ks), (kR rgs), (kR ns), (kR fch), (kR fk), (kR kl), (kR frg), (kR fac), (kR fcm), (kR ftr), (kR acs), (kR cms), (kR sus), (kR prb), (kI shc), .null, (kI 0), .null, .null, .null, .null, .null, .null, (kI 0), (kI 0)]) :: (prb, Ar Z .double 64 g_prb) :: Rr) h0 n0 W0) hZ (hw _ (mi 138 rfl)) (hw _ (mi 137 rfl)) (by decide) (by decide)) (g := K3.g) rfl (by rw [hml]; rfl) (argsL := [(.int (1 : Int32)), (.int (4 : Int32))]) (rest := []) (lenOf pd_atl rfl) rfl (by show 2 * 0 + _ ≤ _; exact Nat.le_of_eq rfl) (hD 5 rfl) (fun _ _ => ⟨rfl, e2, (by decide : 0 + 0 ≤ _), (by decide : 0 + 0 ≤ _)⟩)
  dsimp only [Pt.U, Pt.locs, Pt.cells, Pt.slots] at X4 l4 y4 z4 st4 hQ4
  subst l4 y4 z4
  obtain ⟨rfl, N4q, W4⟩ := hQ4
  have N4 := Fr.app N0 N4q
  have K5 : Rc K0 T4 (mkF m 13 #[sR r, sI 4, sU] [(kI 4), (kR r)]) := fun t k => K3 t (st4 t (by
    refine XS.istoreN X4.here hx rfl (hD 6 rfl) rfl (l' := #[sR r, sI 4, sU]) rfl ?_
    refine XS.aloadN X4.here hx rfl (hD 7 rfl) rfl rfl ?_
    refine XS.iloadN X4.here hx rfl (hD 8 rfl) rfl ?_
    exact k))
  obtain ⟨T6, h6, a6, X6, e6, W6q, st6⟩ := newWA X4 hx hZ (aty := .int) (ty := .int) rfl (hw _ (mi 4 rfl)) (rfl : T4.heap = T4.heap) W4 (g := K5.g) rfl (hD 9 rfl) (z := (4 : Int32)) (n := 4) rfl (by decide) (by decide) (cap := 4) (by decide) (by decide) (by decide : 0 + 1 ≤ _) (by decide : 0 + 4 ≤ _)
  obtain ⟨T7, h7, L7, X7, e7, N7, W7q, st7⟩ := putW X6 hx hZ hown (host := "") (Or.inl (hw _ (mi 105 rfl))) e6 W6q N4 (own_dR hw) (Or.inl (hw _ (mi 106 rfl))) (hw _ (mi 6 rfl)) (ty := (.array .int)) (by decide +kernel) (i := 1) (a := r) rfl (j := 15) rfl rfl (v := (.ref a6)) rfl rfl (g := (mkF m 15 #[sR r, sI 4, sU] [(kR a6), (kR r)])) rfl rfl (hD 10 rfl)
  have K8 : Rc K0 T7 (mkF m 20 #[sR r, sI 4, sU] [(kI 4), (kR r)]) := fun t k => K5 t (st6 t (st7 t (by
    refine XS.aloadN X7.here hx rfl (hD 11 rfl) rfl rfl ?_
    refine XS.iloadN X7.here hx rfl (hD 12 rfl) rfl ?_
    exact k)))
  obtain ⟨T9, h9, a9, X9, e9, W9q, st9⟩ := newWA X7 hx hZ (aty := .int) (ty := .int) rfl (hw _ (mi 4 rfl)) e7 W7q (g := K8.g) rfl (hD 13 rfl) (z := (4 : Int32)) (n := 4) rfl (by decide) (by decide) (cap := 4) (by decide) (by decide) (by decide : 1 + 1 ≤ _) (by decide : 4 + 4 ≤ _)
  obtain ⟨T10, h10, L10, X10, e10, N10, W10q, st10⟩ := putW X9 hx hZ hown (host := "") (Or.inl (hw _ (mi 129 rfl))) e9 W9q N7 (own_dR hw) (Or.inl (hw _ (mi 130 rfl))) (hw _ (mi 6 rfl)) (ty := (.array .int)) (by decide +kernel) (i := 2) (a := r) rfl (j := 17) rfl rfl (v := (.ref a9)) rfl rfl (g := (mkF m 22 #[sR r, sI 4, sU] [(kR a9), (kR r)])) rfl rfl (hD 14 rfl)
  have W10 : Wo n0 h10 ((a9, Ar Z .int 4 zI) :: (a6, Ar Z .int 4 zI) :: (r, oR Z [(kR ks), (kR rgs), (kR ns), (kR fch), (kR fk), (kR kl), (kR frg), (kR fac), (kR fcm), (kR ftr), (kR acs), (kR cms), (kR sus), (kR prb), (kI shc), (kR a6), (kI 0), (kR a9), .null, .null, .null, .null, .null, (kI 0), (kI 0)]) :: (prb, Ar Z .double 64 g_prb) :: Rr) := W10q
  have K11 : Rc K0 T10 (mkF m 27 #[sR r, sI 4, sU] [(kI 4), (kR r)]) := fun t k => K8 t (st9 t (st10 t (by
    refine XS.aloadN X10.here hx rfl (hD 15 rfl) rfl rfl ?_
    refine XS.iloadN X10.here hx rfl (hD 16 rfl) rfl ?_
    exact k)))
  obtain ⟨T12, h12, a12, X12, e12, W12q, st12⟩ := newWA X10 hx hZ (aty := .int) (ty := .int) rfl (hw _ (mi 4 rfl)) e10 W10 (g := K11.g) rfl (hD 17 rfl) (z := (4 : Int32)) (n := 4) rfl (by decide) (by decide) (cap := 4) (by decide) (by decide) (by decide : 2 + 1 ≤ _) (by decide : 8 + 4 ≤ _)
  obtain ⟨T13, h13, L13, X13, e13, N13, W13q, st13⟩ := putW X12 hx hZ hown (host := "") (Or.inl (hw _ (mi 161 rfl))) e12 W12q N10 (own_dR hw) (Or.inl (hw _ (mi 162 rfl))) (hw _ (mi 6 rfl)) (ty := (.array .int)) (by decide +kernel) (i := 3) (a := r) rfl (j := 18) rfl rfl (v := (.ref a12)) rfl rfl (g := (mkF m 29 #[sR r, sI 4, sU] [(kR a12), (kR r)])) rfl rfl (hD 18 rfl)
  have K14 : Rc K0 T13 (mkF m 34 #[sR r, sI 4, sU] [(kI 4), (kR r)]) := fun t k => K11 t (st12 t (st13 t (by
    refine XS.aloadN X13.here hx rfl (hD 19 rfl) rfl rfl ?_
    refine XS.iloadN X13.here hx rfl (hD 20 rfl) rfl ?_
    exact k)))
  obtain ⟨T15, h15, a15, X15, e15, W15q, st15⟩ := newWA X13 hx hZ (aty := .int) (ty := .int) rfl (hw _ (mi 4 rfl)) e13 W13q (g := K14.g) rfl (hD 21 rfl) (z := (4 : Int32)) (n := 4) rfl (by decide) (by decide) (cap := 4) (by decide) (by decide) (by decide : 3 + 1 ≤ _) (by decide : 12 + 4 ≤ _)
  obtain ⟨T16, h16, L16, X16, e16, N16, W16q, st16⟩ := putW X15 hx hZ hown (host := "") (Or.inl (hw _ (mi 163 rfl))) e15 W15q N13 (own_dR hw) (Or.inl (hw _ (mi 164 rfl))) (hw _ (mi 6 rfl)) (ty := (.array .int)) (by decide +kernel) (i := 4) (a := r) rfl (j := 19) rfl rfl (v := (.ref a15)) rfl rfl (g := (mkF m 36 #[sR r, sI 4, sU] [(kR a15), (kR r)])) rfl rfl (hD 22 rfl)
  have W16 : Wo n0 h16 ((a15, Ar Z .int 4 zI) :: (a12, Ar Z .int 4 zI) :: (a9, Ar Z .int 4 zI) :: (a6, Ar Z .int 4 zI) :: (r, oR Z [(kR ks), (kR rgs), (kR ns), (kR fch), (kR fk), (kR kl), (kR frg), (kR fac), (kR fcm), (kR ftr), (kR acs), (kR cms), (kR sus), (kR prb), (kI shc), (kR a6), (kI 0), (kR a9), (kR a12), (kR a15), .null, .null, .null, (kI 0), (kI 0)]) :: (prb, Ar Z .double 64 g_prb) :: Rr) := W16q
  have K17 : Rc K0 T16 (mkF m 41 #[sR r, sI 4, sU] [(kI 4), (kR r)]) := fun t k => K14 t (st15 t (st16 t (by
    refine XS.aloadN X16.here hx rfl (hD 23 rfl) rfl rfl ?_
    refine XS.iloadN X16.here hx rfl (hD 24 rfl) rfl ?_
    exact k)))
  obtain ⟨T18, h18, a18, X18, e18, W18q, st18⟩ := newWA X16 hx hZ (aty := .int) (ty := .int) rfl (hw _ (mi 4 rfl)) e16 W16 (g := K17.g) rfl (hD 25 rfl) (z := (4 : Int32)) (n := 4) rfl (by decide) (by decide) (cap := 4) (by decide) (by decide) (by decide : 4 + 1 ≤ _) (by decide : 16 + 4 ≤ _)
  obtain ⟨T19, h19, L19, X19, e19, N19, W19q, st19⟩ := putW X18 hx hZ hown (host := "") (Or.inl (hw _ (mi 165 rfl))) e18 W18q N16 (own_dR hw) (Or.inl (hw _ (mi 166 rfl))) (hw _ (mi 6 rfl)) (ty := (.array .int)) (by decide +kernel) (i := 5) (a := r) rfl (j := 20) rfl rfl (v := (.ref a18)) rfl rfl (g := (mkF m 43 #[sR r, sI 4, sU] [(kR a18), (kR r)])) rfl rfl (hD 26 rfl)
  have K20 : Rc K0 T19 (mkF m 48 #[sR r, sI 4, sU] [(kI 4), (kR r)]) := fun t k => K17 t (st18 t (st19 t (by
    refine XS.aloadN X19.here hx rfl (hD 27 rfl) rfl rfl ?_
    refine XS.iloadN X19.here hx rfl (hD 28 rfl) rfl ?_
    exact k)))
  obtain ⟨T21, h21, a21, X21, e21, W21q, st21⟩ := newWA X19 hx hZ (aty := .int) (ty := .int) rfl (hw _ (mi 4 rfl)) e19 W19q (g := K20.g) rfl (hD 29 rfl) (z := (4 : Int32)) (n := 4) rfl (by decide) (by decide) (cap := 4) (by decide) (by decide) (by decide : 5 + 1 ≤ _) (by decide : 20 + 4 ≤ _)
  obtain ⟨T22, h22, L22, X22, e22, N22, W22q, st22⟩ := putW X21 hx hZ hown (host := "") (Or.inl (hw _ (mi 167 rfl))) e21 W21q N19 (own_dR hw) (Or.inl (hw _ (mi 168 rfl))) (hw _ (mi 6 rfl)) (ty := (.array .int)) (by decide +kernel) (i := 6) (a := r) rfl (j := 21) rfl rfl (v := (.ref a21)) rfl rfl (g := (mkF m 50 #[sR r, sI 4, sU] [(kR a21), (kR r)])) rfl rfl (hD 30 rfl)
  have W22 : Wo n0 h22 ((a21, Ar Z .int 4 zI) :: (a18, Ar Z .int 4 zI) :: (a15, Ar Z .int 4 zI) :: (a12, Ar Z .int 4 zI) :: (a9, Ar Z .int 4 zI) :: (a6, Ar Z .int 4 zI) :: (r, oR Z [(kR ks), (kR rgs), (kR ns), (kR fch), (kR fk), (kR kl), (kR frg), (kR fac), (kR fcm), (kR ftr), (kR acs), (kR cms), (kR sus), (kR prb), (kI shc), (kR a6), (kI 0), (kR a9), (kR a12), (kR a15), (kR a18), (kR a21), .null, (kI 0), (kI 0)]) :: (prb, Ar Z .double 64 g_prb) :: Rr) := W22q
  have K23 : Rc K0 T22 (mkF m 57 #[sR r, sI 4, sI 0] [(kR r), (kI 0)]) := fun t k => K20 t (st21 t (st22 t (by
    refine XS.iconst X22.here hx rfl (hD 31 rfl) ?_
    refine XS.istoreN X22.here hx rfl (hD 32 rfl) rfl (l' := #[sR r, sI 4, sI 0]) rfl ?_
    refine XS.iloadN X22.here hx rfl (hD 33 rfl) rfl ?_
    refine XS.aloadN X22.here hx rfl (hD 34 rfl) rfl rfl ?_
    exact k)))
  obtain ⟨T24, X24, e24, st24⟩ := getF X22 hx hZ hown (host := "") (Or.inl (hw _ (mi 122 rfl))) Via.refl e22 (W22.fld (i := 6) rfl (j := 16) rfl rfl) (g := K23.g) rfl rfl (hD 35 rfl)
  have K25 : Rc K0 T24 (mkF m 92 #[sR r, sI 4, sI 0] [(kI 4), (kR r)]) := fun t k => K23 t (st24 t (by
    refine XS.icmpYes X24.here hx rfl (pc0 := 60) (pc' := 90) rfl (hD 36 rfl) rfl (by decide) (by decide) (by decide) ?_
    refine XS.aloadN X24.here hx rfl (hD 54 rfl) rfl rfl ?_
    refine XS.iconst X24.here hx rfl (hD 55 rfl) ?_
    exact k))
  obtain ⟨T26, h26, a26, X26, e26, W26q, st26⟩ := newWR X24 hx hZ (t := .double) hown rfl (hw _ (mi 169 rfl)) (hw _ (mi 170 rfl)) e24 W22 (g := K25.g) rfl (hD 56 rfl) (z := (4 : Int32)) (n := 4) rfl (by decide) (by decide) (cap := 4) (by decide) (by decide) (by decide : 6 + 1 ≤ _) (by decide : 24 + 4 ≤ _)
  obtain ⟨T27, h27, L27, X27, e27, N27, W27q, st27⟩ := putW X26 hx hZ hown (host := "") (Or.inl (hw _ (mi 171 rfl))) e26 W26q N22 (own_dR hw) (Or.inl (hw _ (mi 172 rfl))) (hw _ (mi 6 rfl)) (ty := (.array (.array .double))) (by decide +kernel) (i := 7) (a := r) rfl (j := 22) rfl rfl (v := (.ref a26)) rfl rfl (g := (mkF m 95 #[sR r, sI 4, sI 0] [(kR a26), (kR r)])) rfl rfl (hD 57 rfl)
  have K28 : Rc K0 T27 (mkF m 99 #[sR r, sI 4, sI 0] [(kR r)]) := fun t k => K25 t (st26 t (st27 t (XS.aloadN X27.here hx rfl (hD 58 rfl) rfl rfl k)))
  obtain ⟨T29, X29, e29, st29⟩ := getF X27 hx hZ hown (host := "") (Or.inl (hw _ (mi 171 rfl))) Via.refl e27 (W27q.fld (i := 7) rfl (j := 22) rfl rfl) (g := K28.g) rfl rfl (hD 59 rfl)
  have K30 : Rc K0 T29 (mkF m 104 #[sR r, sI 4, sI 0] [(kR r), (kI 0), (kR a26)]) := fun t k => K28 t (st29 t (by
    refine XS.iconst X29.here hx rfl (hD 60 rfl) ?_
    refine XS.aloadN X29.here hx rfl (hD 61 rfl) rfl rfl ?_
    exact k))
  obtain ⟨T31, X31, e31, st31⟩ := getF X29 hx hZ hown (host := "") (Or.inl (hw _ (mi 40 rfl))) Via.refl e29 (W27q.fld (i := 7) rfl (j := 13) rfl rfl) (g := K30.g) rfl rfl (hD 62 rfl)
  obtain ⟨T32, h32, L32, X32, e32, N32, W32q, st32⟩ := aasW X31 hx hZ e31 W27q N27 (i := 0) (a := a26) rfl (j := (0 : Int32)) (k := 0) (by decide) (by decide) (by decide) (v := (.ref prb)) rfl (W27q.sto (i := 0) (j := 8) rfl rfl) (g := (mkF m 107 #[sR r, sI 4, sI 0] [(kR prb), (kI 0), (kR a26)])) rfl rfl (hD 63 rfl)
  have K33 : Rc K0 T32 (mkF m 109 #[sR r, sI 4, sI 0] [(kR r)]) := fun t k => K30 t (st31 t (st32 t (XS.aloadN X32.here hx rfl (hD 64 rfl) rfl rfl k)))
  obtain ⟨T34, X34, e34, st34⟩ := getF X32 hx hZ hown (host := "") (Or.inl (hw _ (mi 171 rfl))) Via.refl e32 (W32q.fld (i := 7) rfl (j := 22) rfl rfl) (g := K33.g) rfl rfl (hD 65 rfl)
  have K35 : Rc K0 T34 (mkF m 115 #[sR r, sI 4, sI 0] [(kI 64), (kI 1), (kR a26)]) := fun t k => K33 t (st34 t (by
    refine XS.iconst X34.here hx rfl (hD 66 rfl) ?_
    refine XS.bipush X34.here hx rfl (hD 67 rfl) ?_
    exact k))
  obtain ⟨T36, h36, a36, X36, e36, W36q, st36⟩ := newWA X34 hx hZ (aty := .double) (ty := .double) rfl (hw _ (mi 0 rfl)) e34 W32q (g := K35.g) rfl (hD 68 rfl) (z := (64 : Int32)) (n := 64) rfl (by decide) (by decide) (cap := 64) (by decide) (by decide) (by decide : 7 + 1 ≤ _) (by decide : 28 + 64 ≤ _)
  have W36 : Wo n0 h36 ((a36, Ar Z .double 64 zD) :: (a26, Pg Z .double 4 (upd zN 0 (kR prb))) :: (a21, Ar Z .int 4 zI) :: (a18, Ar Z .int 4 zI) :: (a15, Ar Z .int 4 zI) :: (a12, Ar Z .int 4 zI) :: (a9, Ar Z .int 4 zI) :: (a6, Ar Z .int 4 zI) :: (r, oR Z [(kR ks), (kR rgs), (kR ns), (kR fch), (kR fk), (kR kl), (kR frg), (kR fac), (kR fcm), (kR ftr), (kR acs), (kR cms), (kR sus), (kR prb), (kI shc), (kR a6), (kI 0), (kR a9), (kR a12), (kR a15), (kR a18), (kR a21), (kR a26), (kI 0), (kI 0)]) :: (prb, Ar Z .double 64 g_prb) :: Rr) := W36q
  obtain ⟨T37, h37, L37, X37, e37, N37, W37q, st37⟩ := aasW X36 hx hZ e36 W36 N32 (i := 1) (a := a26) rfl (j := (1 : Int32)) (k := 1) (by decide) (by decide) (by decide) (v := (.ref a36)) rfl (W36.sto (i := 1) (j := 0) rfl rfl) (g := (mkF m 117 #[sR r, sI 4, sI 0] [(kR a36), (kI 1), (kR a26)])) rfl rfl (hD 69 rfl)
  have K38 : Rc K0 T37 (mkF m 120 #[sR r, sI 4, sI 0] [(kI 2), (kR r)]) := fun t k => K35 t (st36 t (st37 t (by
    refine XS.aloadN X37.here hx rfl (hD 70 rfl) rfl rfl ?_
    refine XS.iconst X37.here hx rfl (hD 71 rfl) ?_
    exact k)))
  obtain ⟨T39, h39, L39, X39, e39, N39, W39q, st39⟩ := putW X37 hx hZ hown (host := "") (Or.inl (hw _ (mi 174 rfl))) e37 W37q N37 (own_dR hw) (Or.inl (hw _ (mi 175 rfl))) (hw _ (mi 6 rfl)) (ty := .int) (by decide +kernel) (i := 8) (a := r) rfl (j := 23) rfl rfl (v := (.int (2 : Int32))) rfl rfl (g := K38.g) rfl rfl (hD 72 rfl)
  have K40 : Rc K0 T39 (mkF m 123 #[sR r, sI 4, sI 0] []) := fun t k => K38 t (st39 t (k))
  obtain ⟨fs, hr, hrun, hended, hWm, hsame⟩ := X39.leave (v := none) (fun _ => rfl)
  refine ⟨_, _, pre0 _ (K40 _ (X39.returnOut hx Bd.returns (hD 73 rfl) hr)), hrun, hended, _, _, rfl, ?_, ⟨_, rfl⟩, hWm, hsame.mono (by decide) (by decide)⟩
  show QrmSR0 Z r ks rgs ns fch fk kl frg fac fcm ftr acs cms sus prb shc g_prb Rr n0 _ T39.heap _
  rw [e39]
  exact ⟨a36, a26, a21, a18, a15, a12, a9, a6, rfl, N39, W39q⟩
theorem ef_rmSR1 (m : MethodId) (r ks rgs ns fch fk kl frg fac fcm ftr acs cms sus prb : Addr) (shc : Int32) (g_prb : Nat → Value) : entryFrame m #[(.ref r)] 3 = mkF m 0 #[.val (.ref r), .unset, .unset] [] := by first | (simp [entryFrame, mkF, argsToLocals, Value.category]; done) | rfl
def QrmSR1 (Z : State) (r ks rgs ns fch fk kl frg fac fcm ftr acs cms sus prb : Addr) (shc : Int32) (g_prb : Nat → Value) (Rr : List (Addr × (Cell → Prop))) (n0 : Nat) (v : Option Value) (h : Heap) (L : List Loc) : Prop := ∃ a50 a40 a21 a18 a15 a12 a9 a6, v = none ∧ Fr n0 L ∧ Wo n0 h ((a50, Ar Z .double 64 zD) :: (a40, Pg Z .double 4 (upd (upd zN 0 (kR prb)) 1 (kR a50))) :: (a21, Ar Z .int 4 zI) :: (a18, Ar Z .int 4 zI) :: (a15, Ar Z .int 4 zI) :: (a12, Ar Z .int 4 (upd zI 0 (kI (-1)))) :: (a9, Ar Z .int 4 (upd zI 0 (kI 0))) :: (a6, Ar Z .int 4 (upd zI 0 (kI 0))) :: (r, oR Z [(kR ks), (kR rgs), (kR ns), (kR fch), (kR fk), (kR kl), (kR frg), (kR fac), (kR fcm), (kR ftr), (kR acs), (kR cms), (kR sus), (kR prb), (kI shc), (kR a6), (kI 1), (kR a9), (kR a12), (kR a15), (kR a18), (kR a21), (kR a40), (kI 2), (kI 0)]) :: (prb, Ar Z .double 64 g_prb) :: Rr)
set_option maxRecDepth 65536 in
set_option maxHeartbeats 40000000 in
theorem rmSR1 (l : Launch) (Z : State) (a0 : Array Value) (hw : ∀ d ∈ tables_1, d.before a0 Z = true) (ws : List Jvm.Cond) (r ks rgs ns fch fk kl frg fac fcm ftr acs cms sus prb : Addr) (shc : Int32) (g_prb : Nat → Value) (Rr : List (Addr × (Cell → Prop))) (h0 : Heap) (n0 : Nat) (W0 : Wo n0 h0 ((r, oR Z [(kR ks), (kR rgs), (kR ns), (kR fch), (kR fk), (kR kl), (kR frg), (kR fac), (kR fcm), (kR ftr), (kR acs), (kR cms), (kR sus), (kR prb), (kI shc), .null, (kI 1), .null, .null, .null, .null, .null, .null, (kI 0), (kI 0)]) :: (prb, Ar Z .double 64 g_prb) :: Rr)) :
    MetFree l y_sr (head1 (Jvm.Cond.code y_sr prog_87_method_4_code 3 none :: ws) ({ frames := 4, cells := 8, slots := 92, locals := 60 } : Room)) (fun aa U => aa = #[(.ref r)] ∧ Z.Warmed39 U.vm ∧ U.heap = h0) (fun _ _ _ _ _ => True) (fun _ U ou U' => ∃ v L, ou = .returned v ∧ QrmSR1 Z r ks rgs ns fch fk kl frg fac fcm ftr acs cms sus prb shc g_prb Rr n0 v U'.heap L ∧ FrameEnd U ou U' L ({ frames := 4, cells := 8, slots := 92, locals := 60 } : Room).cells ({ frames := 4, cells := 8, slots := 92, locals := 60 } : Room).slots) := by
  refine MetFree.of_bodySF (plainFor_of_name pn_Rows) hisR ?_
  intro p e s m args below meth c s₁ Bd hml0 hP hK
  obtain ⟨rfl, hZ, hh⟩ := hP
  have hx := Bd.exec
  have hby := Bd.bytes
  have hml : c.maxLocals = 3 := hml0
  have hD : ∀ (k : Nat) {pc : Nat} {i : Instr} {n : Nat}, Ld_sr[k]? = some (pc, i, n) → decode c.code pc = .ok (i, n) := by intro k pc i n h; exact hb hby (d_sr (pc, i, n) (mi k h))
  have hown : s.vm.findClass "com/example/sambre/sambre/engine/Rows" = some m.cls := findClass_of_methodNamed Bd.named
  have hnm := (name_of_methodNamed Bd.named Bd.method).1
  have X0 : Stand p l e ({ frames := 4, cells := 8, slots := 92, locals := 60 } : Room) s m #[(.ref r)] below meth c s₁ [] 0 0 := Stand.of_body Bd
  have e0 : s₁.heap = h0 := by rw [← hh, Bd.state]; rfl
  have N0 := Fr.nil n0
  obtain ⟨F0, hF0⟩ : ∃ F, F = mkF m 0 #[.val (.ref r), .unset, .unset] [] := ⟨_, rfl⟩
  have pre0 : ∀ t, Steps p.tables e below (s₁.setTop F0) t → Steps p.tables e below (s₁.setTop (entryFrame m #[(.ref r)] 3)) t := fun t k => castTop ((ef_rmSR1 m r ks rgs ns fch fk kl frg fac fcm ftr acs cms sus prb shc g_prb).trans hF0.symm) k
  have K0 : Rch p e below s₁ F0 s₁ (mkF m 0 #[.val (.ref r), .unset, .unset] []) := fun t k => castTop hF0 k
  have K1 : Rc K0 s₁ (mkF m 1 #[sR r, sU, sU] [(kR r)]) := fun t k => K0 t (XS.aloadN X0.here hx rfl (hD 0 rfl) rfl rfl k)
  obtain ⟨T2, X2, e2, st2⟩ := getF X0 hx hZ hown (host := "") (Or.inl (hw _ (mi 122 rfl))) Via.refl e0 (W0.fld (i := 0) rfl (j := 16) rfl rfl) (g := K1.g) rfl rfl (hD 1 rfl)
  have K3 : Rc K0 T2 (mkF m 7 #[sR r, sU, sU] [(kI 4), (kI 2)]) := fun t k => K1 t (st2 t (by
    refine XS.iconst X2.here hx rfl (hD 2 rfl) ?_
    refine XS.iadd X2.here hx rfl (hD 3 rfl) rfl ?_
    refine XS.iconst X2.here hx rfl (hD 4 rfl) ?_
    exact k))
  obtain ⟨_, _, ⟨T4, L4, k4, n4⟩, -, X4, ⟨Lc4, hQ4, l4, y4, z4⟩, st4⟩ := Jvm.LawKit.callS X2 hx (y := y_atl) hown (mvT hZ (hw _ (mi 135 rfl))) (mvT hZ (hw _ (mi 136 rfl))) (mvT hZ (hw _ (mi 137 rfl))) (mvT hZ (hw _ (mi 138 rfl))) (by decide) (backOf (W := 0) (rmAL2 l Z a0 hw []  ((r, oR Z [(kR ks), (kR rgs), (kR ns), (kR fch), (kR fk), (kR kl), (kR frg), (kR fac), (kR fcm), (kR ftr), (kR acs), (kR cms), (kR sus), (kR prb), (kI shc), .null, (kI 1), .null, .null, .null, .null, .null, .null, (kI 0), (kI 0)]) :: (prb, Ar Z .double 64 g_prb) :: Rr) h0 n0 W0) hZ (hw _ (mi 138 rfl)) (hw _ (mi 137 rfl)) (by decide) (by decide)) (g := K3.g) rfl (by rw [hml]; rfl) (argsL := [(.int (2 : Int32)), (.int (4 : Int32))]) (rest := []) (lenOf pd_atl rfl) rfl (by show 2 * 0 + _ ≤ _; exact Nat.le_of_eq rfl) (hD 5 rfl) (fun _ _ => ⟨rfl, e2, (by decide : 0 + 0 ≤ _), (by decide : 0 + 0 ≤ _)⟩)
  dsimp only [Pt.U, Pt.locs, Pt.cells, Pt.slots] at X4 l4 y4 z4 st4 hQ4
  subst l4 y4 z4
  obtain ⟨rfl, N4q, W4⟩ := hQ4
  have N4 := Fr.app N0 N4q
  have K5 : Rc K0 T4 (mkF m 13 #[sR r, sI 4, sU] [(kI 4), (kR r)]) := fun t k => K3 t (st4 t (by
    refine XS.istoreN X4.here hx rfl (hD 6 rfl) rfl (l' := #[sR r, sI 4, sU]) rfl ?_
    refine XS.aloadN X4.here hx rfl (hD 7 rfl) rfl rfl ?_
    refine XS.iloadN X4.here hx rfl (hD 8 rfl) rfl ?_
    exact k))
  obtain ⟨T6, h6, a6, X6, e6, W6q, st6⟩ := newWA X4 hx hZ (aty := .int) (ty := .int) rfl (hw _ (mi 4 rfl)) (rfl : T4.heap = T4.heap) W4 (g := K5.g) rfl (hD 9 rfl) (z := (4 : Int32)) (n := 4) rfl (by decide) (by decide) (cap := 4) (by decide) (by decide) (by decide : 0 + 1 ≤ _) (by decide : 0 + 4 ≤ _)
  obtain ⟨T7, h7, L7, X7, e7, N7, W7q, st7⟩ := putW X6 hx hZ hown (host := "") (Or.inl (hw _ (mi 105 rfl))) e6 W6q N4 (own_dR hw) (Or.inl (hw _ (mi 106 rfl))) (hw _ (mi 6 rfl)) (ty := (.array .int)) (by decide +kernel) (i := 1) (a := r) rfl (j := 15) rfl rfl (v := (.ref a6)) rfl rfl (g := (mkF m 15 #[sR r, sI 4, sU] [(kR a6), (kR r)])) rfl rfl (hD 10 rfl)
  have K8 : Rc K0 T7 (mkF m 20 #[sR r, sI 4, sU] [(kI 4), (kR r)]) := fun t k => K5 t (st6 t (st7 t (by
    refine XS.aloadN X7.here hx rfl (hD 11 rfl) rfl rfl ?_
    refine XS.iloadN X7.here hx rfl (hD 12 rfl) rfl ?_
    exact k)))
  obtain ⟨T9, h9, a9, X9, e9, W9q, st9⟩ := newWA X7 hx hZ (aty := .int) (ty := .int) rfl (hw _ (mi 4 rfl)) e7 W7q (g := K8.g) rfl (hD 13 rfl) (z := (4 : Int32)) (n := 4) rfl (by decide) (by decide) (cap := 4) (by decide) (by decide) (by decide : 1 + 1 ≤ _) (by decide : 4 + 4 ≤ _)
  obtain ⟨T10, h10, L10, X10, e10, N10, W10q, st10⟩ := putW X9 hx hZ hown (host := "") (Or.inl (hw _ (mi 129 rfl))) e9 W9q N7 (own_dR hw) (Or.inl (hw _ (mi 130 rfl))) (hw _ (mi 6 rfl)) (ty := (.array .int)) (by decide +kernel) (i := 2) (a := r) rfl (j := 17) rfl rfl (v := (.ref a9)) rfl rfl (g := (mkF m 22 #[sR r, sI 4, sU] [(kR a9), (kR r)])) rfl rfl (hD 14 rfl)
  have W10 : Wo n0 h10 ((a9, Ar Z .int 4 zI) :: (a6, Ar Z .int 4 zI) :: (r, oR Z [(kR ks), (kR rgs), (kR ns), (kR fch), (kR fk), (kR kl), (kR frg), (kR fac), (kR fcm), (kR ftr), (kR acs), (kR cms), (kR sus), (kR prb), (kI shc), (kR a6), (kI 1), (kR a9), .null, .null, .null, .null, .null, (kI 0), (kI 0)]) :: (prb, Ar Z .double 64 g_prb) :: Rr) := W10q
  have K11 : Rc K0 T10 (mkF m 27 #[sR r, sI 4, sU] [(kI 4), (kR r)]) := fun t k => K8 t (st9 t (st10 t (by
    refine XS.aloadN X10.here hx rfl (hD 15 rfl) rfl rfl ?_
    refine XS.iloadN X10.here hx rfl (hD 16 rfl) rfl ?_
    exact k)))
  obtain ⟨T12, h12, a12, X12, e12, W12q, st12⟩ := newWA X10 hx hZ (aty := .int) (ty := .int) rfl (hw _ (mi 4 rfl)) e10 W10 (g := K11.g) rfl (hD 17 rfl) (z := (4 : Int32)) (n := 4) rfl (by decide) (by decide) (cap := 4) (by decide) (by decide) (by decide : 2 + 1 ≤ _) (by decide : 8 + 4 ≤ _)
  obtain ⟨T13, h13, L13, X13, e13, N13, W13q, st13⟩ := putW X12 hx hZ hown (host := "") (Or.inl (hw _ (mi 161 rfl))) e12 W12q N10 (own_dR hw) (Or.inl (hw _ (mi 162 rfl))) (hw _ (mi 6 rfl)) (ty := (.array .int)) (by decide +kernel) (i := 3) (a := r) rfl (j := 18) rfl rfl (v := (.ref a12)) rfl rfl (g := (mkF m 29 #[sR r, sI 4, sU] [(kR a12), (kR r)])) rfl rfl (hD 18 rfl)
  have K14 : Rc K0 T13 (mkF m 34 #[sR r, sI 4, sU] [(kI 4), (kR r)]) := fun t k => K11 t (st12 t (st13 t (by
    refine XS.aloadN X13.here hx rfl (hD 19 rfl) rfl rfl ?_
    refine XS.iloadN X13.here hx rfl (hD 20 rfl) rfl ?_
    exact k)))
  obtain ⟨T15, h15, a15, X15, e15, W15q, st15⟩ := newWA X13 hx hZ (aty := .int) (ty := .int) rfl (hw _ (mi 4 rfl)) e13 W13q (g := K14.g) rfl (hD 21 rfl) (z := (4 : Int32)) (n := 4) rfl (by decide) (by decide) (cap := 4) (by decide) (by decide) (by decide : 3 + 1 ≤ _) (by decide : 12 + 4 ≤ _)
  obtain ⟨T16, h16, L16, X16, e16, N16, W16q, st16⟩ := putW X15 hx hZ hown (host := "") (Or.inl (hw _ (mi 163 rfl))) e15 W15q N13 (own_dR hw) (Or.inl (hw _ (mi 164 rfl))) (hw _ (mi 6 rfl)) (ty := (.array .int)) (by decide +kernel) (i := 4) (a := r) rfl (j := 19) rfl rfl (v := (.ref a15)) rfl rfl (g := (mkF m 36 #[sR r, sI 4, sU] [(kR a15), (kR r)])) rfl rfl (hD 22 rfl)
  have W16 : Wo n0 h16 ((a15, Ar Z .int 4 zI) :: (a12, Ar Z .int 4 zI) :: (a9, Ar Z .int 4 zI) :: (a6, Ar Z .int 4 zI) :: (r, oR Z [(kR ks), (kR rgs), (kR ns), (kR fch), (kR fk), (kR kl), (kR frg), (kR fac), (kR fcm), (kR ftr), (kR acs), (kR cms), (kR sus), (kR prb), (kI shc), (kR a6), (kI 1), (kR a9), (kR a12), (kR a15), .null, .null, .null, (kI 0), (kI 0)]) :: (prb, Ar Z .double 64 g_prb) :: Rr) := W16q
  have K17 : Rc K0 T16 (mkF m 41 #[sR r, sI 4, sU] [(kI 4), (kR r)]) := fun t k => K14 t (st15 t (st16 t (by
    refine XS.aloadN X16.here hx rfl (hD 23 rfl) rfl rfl ?_
    refine XS.iloadN X16.here hx rfl (hD 24 rfl) rfl ?_
    exact k)))
  obtain ⟨T18, h18, a18, X18, e18, W18q, st18⟩ := newWA X16 hx hZ (aty := .int) (ty := .int) rfl (hw _ (mi 4 rfl)) e16 W16 (g := K17.g) rfl (hD 25 rfl) (z := (4 : Int32)) (n := 4) rfl (by decide) (by decide) (cap := 4) (by decide) (by decide) (by decide : 4 + 1 ≤ _) (by decide : 16 + 4 ≤ _)
  obtain ⟨T19, h19, L19, X19, e19, N19, W19q, st19⟩ := putW X18 hx hZ hown (host := "") (Or.inl (hw _ (mi 165 rfl))) e18 W18q N16 (own_dR hw) (Or.inl (hw _ (mi 166 rfl))) (hw _ (mi 6 rfl)) (ty := (.array .int)) (by decide +kernel) (i := 5) (a := r) rfl (j := 20) rfl rfl (v := (.ref a18)) rfl rfl (g := (mkF m 43 #[sR r, sI 4, sU] [(kR a18), (kR r)])) rfl rfl (hD 26 rfl)
  have K20 : Rc K0 T19 (mkF m 48 #[sR r, sI 4, sU] [(kI 4), (kR r)]) := fun t k => K17 t (st18 t (st19 t (by
    refine XS.aloadN X19.here hx rfl (hD 27 rfl) rfl rfl ?_
    refine XS.iloadN X19.here hx rfl (hD 28 rfl) rfl ?_
    exact k)))
  obtain ⟨T21, h21, a21, X21, e21, W21q, st21⟩ := newWA X19 hx hZ (aty := .int) (ty := .int) rfl (hw _ (mi 4 rfl)) e19 W19q (g := K20.g) rfl (hD 29 rfl) (z := (4 : Int32)) (n := 4) rfl (by decide) (by decide) (cap := 4) (by decide) (by decide) (by decide : 5 + 1 ≤ _) (by decide : 20 + 4 ≤ _)
  obtain ⟨T22, h22, L22, X22, e22, N22, W22q, st22⟩ := putW X21 hx hZ hown (host := "") (Or.inl (hw _ (mi 167 rfl))) e21 W21q N19 (own_dR hw) (Or.inl (hw _ (mi 168 rfl))) (hw _ (mi 6 rfl)) (ty := (.array .int)) (by decide +kernel) (i := 6) (a := r) rfl (j := 21) rfl rfl (v := (.ref a21)) rfl rfl (g := (mkF m 50 #[sR r, sI 4, sU] [(kR a21), (kR r)])) rfl rfl (hD 30 rfl)
  have W22 : Wo n0 h22 ((a21, Ar Z .int 4 zI) :: (a18, Ar Z .int 4 zI) :: (a15, Ar Z .int 4 zI) :: (a12, Ar Z .int 4 zI) :: (a9, Ar Z .int 4 zI) :: (a6, Ar Z .int 4 zI) :: (r, oR Z [(kR ks), (kR rgs), (kR ns), (kR fch), (kR fk), (kR kl), (kR frg), (kR fac), (kR fcm), (kR ftr), (kR acs), (kR cms), (kR sus), (kR prb), (kI shc), (kR a6), (kI 1), (kR a9), (kR a12), (kR a15), (kR a18), (kR a21), .null, (kI 0), (kI 0)]) :: (prb, Ar Z .double 64 g_prb) :: Rr) := W22q
  have K23 : Rc K0 T22 (mkF m 57 #[sR r, sI 4, sI 0] [(kR r), (kI 0)]) := fun t k => K20 t (st21 t (st22 t (by
    refine XS.iconst X22.here hx rfl (hD 31 rfl) ?_
    refine XS.istoreN X22.here hx rfl (hD 32 rfl) rfl (l' := #[sR r, sI 4, sI 0]) rfl ?_
    refine XS.iloadN X22.here hx rfl (hD 33 rfl) rfl ?_
    refine XS.aloadN X22.here hx rfl (hD 34 rfl) rfl rfl ?_
    exact k)))
  obtain ⟨T24, X24, e24, st24⟩ := getF X22 hx hZ hown (host := "") (Or.inl (hw _ (mi 122 rfl))) Via.refl e22 (W22.fld (i := 6) rfl (j := 16) rfl rfl) (g := K23.g) rfl rfl (hD 35 rfl)
  have K25 : Rc K0 T24 (mkF m 64 #[sR r, sI 4, sI 0] [(kR r)]) := fun t k => K23 t (st24 t (by
    refine XS.icmpNo X24.here hx rfl (hD 36 rfl) rfl (by decide) ?_
    refine XS.aloadN X24.here hx rfl (hD 37 rfl) rfl rfl ?_
    exact k))
  obtain ⟨T26, X26, e26, st26⟩ := getF X24 hx hZ hown (host := "") (Or.inl (hw _ (mi 105 rfl))) Via.refl e24 (W22.fld (i := 6) rfl (j := 15) rfl rfl) (g := K25.g) rfl rfl (hD 38 rfl)
  have K27 : Rc K0 T26 (mkF m 69 #[sR r, sI 4, sI 0] [(kI 0), (kI 0), (kR a6)]) := fun t k => K25 t (st26 t (by
    refine XS.iloadN X26.here hx rfl (hD 39 rfl) rfl ?_
    refine XS.iloadN X26.here hx rfl (hD 40 rfl) rfl ?_
    exact k))
  obtain ⟨T28, h28, L28, X28, e28, N28, W28q, st28⟩ := iasW X26 hx hZ e26 W22 N22 (i := 5) (a := a6) rfl (j := (0 : Int32)) (x := (0 : Int32)) (k := 0) (by decide) (by decide) (by decide) (g := K27.g) rfl rfl (hD 41 rfl)
  have K29 : Rc K0 T28 (mkF m 71 #[sR r, sI 4, sI 0] [(kR r)]) := fun t k => K27 t (st28 t (XS.aloadN X28.here hx rfl (hD 42 rfl) rfl rfl k))
  obtain ⟨T30, X30, e30, st30⟩ := getF X28 hx hZ hown (host := "") (Or.inl (hw _ (mi 129 rfl))) Via.refl e28 (W28q.fld (i := 6) rfl (j := 17) rfl rfl) (g := K29.g) rfl rfl (hD 43 rfl)
  have K31 : Rc K0 T30 (mkF m 76 #[sR r, sI 4, sI 0] [(kI 0), (kI 0), (kR a9)]) := fun t k => K29 t (st30 t (by
    refine XS.iloadN X30.here hx rfl (hD 44 rfl) rfl ?_
    refine XS.iloadN X30.here hx rfl (hD 45 rfl) rfl ?_
    exact k))
  obtain ⟨T32, h32, L32, X32, e32, N32, W32q, st32⟩ := iasW X30 hx hZ e30 W28q N28 (i := 4) (a := a9) rfl (j := (0 : Int32)) (x := (0 : Int32)) (k := 0) (by decide) (by decide) (by decide) (g := K31.g) rfl rfl (hD 46 rfl)
  have K33 : Rc K0 T32 (mkF m 78 #[sR r, sI 4, sI 0] [(kR r)]) := fun t k => K31 t (st32 t (XS.aloadN X32.here hx rfl (hD 47 rfl) rfl rfl k))
  obtain ⟨T34, X34, e34, st34⟩ := getF X32 hx hZ hown (host := "") (Or.inl (hw _ (mi 161 rfl))) Via.refl e32 (W32q.fld (i := 6) rfl (j := 18) rfl rfl) (g := K33.g) rfl rfl (hD 48 rfl)
  have K35 : Rc K0 T34 (mkF m 83 #[sR r, sI 4, sI 0] [(kI (-1)), (kI 0), (kR a12)]) := fun t k => K33 t (st34 t (by
    refine XS.iloadN X34.here hx rfl (hD 49 rfl) rfl ?_
    refine XS.iconst X34.here hx rfl (hD 50 rfl) ?_
    exact k))
  obtain ⟨T36, h36, L36, X36, e36, N36, W36q, st36⟩ := iasW X34 hx hZ e34 W32q N32 (i := 3) (a := a12) rfl (j := (0 : Int32)) (x := (-1 : Int32)) (k := 0) (by decide) (by decide) (by decide) (g := K35.g) rfl rfl (hD 51 rfl)
  have K37 : Rc K0 T36 (mkF m 57 #[sR r, sI 4, sI 1] [(kR r), (kI 1)]) := fun t k => K35 t (st36 t (by
    refine XS.iinc X36.here hx rfl (hD 52 rfl) rfl (l' := #[sR r, sI 4, sI 1]) rfl ?_
    refine XS.goto X36.here hx rfl (pc0 := 87) (pc' := 55) rfl (hD 53 rfl) (by decide) (by decide) ?_
    refine XS.iloadN X36.here hx rfl (hD 33 rfl) rfl ?_
    refine XS.aloadN X36.here hx rfl (hD 34 rfl) rfl rfl ?_
    exact k))
  obtain ⟨T38, X38, e38, st38⟩ := getF X36 hx hZ hown (host := "") (Or.inl (hw _ (mi 122 rfl))) Via.refl e36 (W36q.fld (i := 6) rfl (j := 16) rfl rfl) (g := K37.g) rfl rfl (hD 35 rfl)
  have K39 : Rc K0 T38 (mkF m 92 #[sR r, sI 4, sI 1] [(kI 4), (kR r)]) := fun t k => K37 t (st38 t (by
    refine XS.icmpYes X38.here hx rfl (pc0 := 60) (pc' := 90) rfl (hD 36 rfl) rfl (by decide) (by decide) (by decide) ?_
    refine XS.aloadN X38.here hx rfl (hD 54 rfl) rfl rfl ?_
    refine XS.iconst X38.here hx rfl (hD 55 rfl) ?_
    exact k))
  obtain ⟨T40, h40, a40, X40, e40, W40q, st40⟩ := newWR X38 hx hZ (t := .double) hown rfl (hw _ (mi 169 rfl)) (hw _ (mi 170 rfl)) e38 W36q (g := K39.g) rfl (hD 56 rfl) (z := (4 : Int32)) (n := 4) rfl (by decide) (by decide) (cap := 4) (by decide) (by decide) (by decide : 6 + 1 ≤ _) (by decide : 24 + 4 ≤ _)
  have W40 : Wo n0 h40 ((a40, Pg Z .double 4 zN) :: (a21, Ar Z .int 4 zI) :: (a18, Ar Z .int 4 zI) :: (a15, Ar Z .int 4 zI) :: (a12, Ar Z .int 4 (upd zI 0 (kI (-1)))) :: (a9, Ar Z .int 4 (upd zI 0 (kI 0))) :: (a6, Ar Z .int 4 (upd zI 0 (kI 0))) :: (r, oR Z [(kR ks), (kR rgs), (kR ns), (kR fch), (kR fk), (kR kl), (kR frg), (kR fac), (kR fcm), (kR ftr), (kR acs), (kR cms), (kR sus), (kR prb), (kI shc), (kR a6), (kI 1), (kR a9), (kR a12), (kR a15), (kR a18), (kR a21), .null, (kI 0), (kI 0)]) :: (prb, Ar Z .double 64 g_prb) :: Rr) := W40q
  obtain ⟨T41, h41, L41, X41, e41, N41, W41q, st41⟩ := putW X40 hx hZ hown (host := "") (Or.inl (hw _ (mi 171 rfl))) e40 W40 N36 (own_dR hw) (Or.inl (hw _ (mi 172 rfl))) (hw _ (mi 6 rfl)) (ty := (.array (.array .double))) (by decide +kernel) (i := 7) (a := r) rfl (j := 22) rfl rfl (v := (.ref a40)) rfl rfl (g := (mkF m 95 #[sR r, sI 4, sI 1] [(kR a40), (kR r)])) rfl rfl (hD 57 rfl)
  have K42 : Rc K0 T41 (mkF m 99 #[sR r, sI 4, sI 1] [(kR r)]) := fun t k => K39 t (st40 t (st41 t (XS.aloadN X41.here hx rfl (hD 58 rfl) rfl rfl k)))
  obtain ⟨T43, X43, e43, st43⟩ := getF X41 hx hZ hown (host := "") (Or.inl (hw _ (mi 171 rfl))) Via.refl e41 (W41q.fld (i := 7) rfl (j := 22) rfl rfl) (g := K42.g) rfl rfl (hD 59 rfl)
  have K44 : Rc K0 T43 (mkF m 104 #[sR r, sI 4, sI 1] [(kR r), (kI 0), (kR a40)]) := fun t k => K42 t (st43 t (by
    refine XS.iconst X43.here hx rfl (hD 60 rfl) ?_
    refine XS.aloadN X43.here hx rfl (hD 61 rfl) rfl rfl ?_
    exact k))
  obtain ⟨T45, X45, e45, st45⟩ := getF X43 hx hZ hown (host := "") (Or.inl (hw _ (mi 40 rfl))) Via.refl e43 (W41q.fld (i := 7) rfl (j := 13) rfl rfl) (g := K44.g) rfl rfl (hD 62 rfl)
  obtain ⟨T46, h46, L46, X46, e46, N46, W46q, st46⟩ := aasW X45 hx hZ e45 W41q N41 (i := 0) (a := a40) rfl (j := (0 : Int32)) (k := 0) (by decide) (by decide) (by decide) (v := (.ref prb)) rfl (W41q.sto (i := 0) (j := 8) rfl rfl) (g := (mkF m 107 #[sR r, sI 4, sI 1] [(kR prb), (kI 0), (kR a40)])) rfl rfl (hD 63 rfl)
  have K47 : Rc K0 T46 (mkF m 109 #[sR r, sI 4, sI 1] [(kR r)]) := fun t k => K44 t (st45 t (st46 t (XS.aloadN X46.here hx rfl (hD 64 rfl) rfl rfl k)))
  obtain ⟨T48, X48, e48, st48⟩ := getF X46 hx hZ hown (host := "") (Or.inl (hw _ (mi 171 rfl))) Via.refl e46 (W46q.fld (i := 7) rfl (j := 22) rfl rfl) (g := K47.g) rfl rfl (hD 65 rfl)
  have K49 : Rc K0 T48 (mkF m 115 #[sR r, sI 4, sI 1] [(kI 64), (kI 1), (kR a40)]) := fun t k => K47 t (st48 t (by
    refine XS.iconst X48.here hx rfl (hD 66 rfl) ?_
    refine XS.bipush X48.here hx rfl (hD 67 rfl) ?_
    exact k))
  obtain ⟨T50, h50, a50, X50, e50, W50q, st50⟩ := newWA X48 hx hZ (aty := .double) (ty := .double) rfl (hw _ (mi 0 rfl)) e48 W46q (g := K49.g) rfl (hD 68 rfl) (z := (64 : Int32)) (n := 64) rfl (by decide) (by decide) (cap := 64) (by decide) (by decide) (by decide : 7 + 1 ≤ _) (by decide : 28 + 64 ≤ _)
  obtain ⟨T51, h51, L51, X51, e51, N51, W51q, st51⟩ := aasW X50 hx hZ e50 W50q N46 (i := 1) (a := a40) rfl (j := (1 : Int32)) (k := 1) (by decide) (by decide) (by decide) (v := (.ref a50)) rfl (W50q.sto (i := 1) (j := 0) rfl rfl) (g := (mkF m 117 #[sR r, sI 4, sI 1] [(kR a50), (kI 1), (kR a40)])) rfl rfl (hD 69 rfl)
  have W51 : Wo n0 h51 ((a50, Ar Z .double 64 zD) :: (a40, Pg Z .double 4 (upd (upd zN 0 (kR prb)) 1 (kR a50))) :: (a21, Ar Z .int 4 zI) :: (a18, Ar Z .int 4 zI) :: (a15, Ar Z .int 4 zI) :: (a12, Ar Z .int 4 (upd zI 0 (kI (-1)))) :: (a9, Ar Z .int 4 (upd zI 0 (kI 0))) :: (a6, Ar Z .int 4 (upd zI 0 (kI 0))) :: (r, oR Z [(kR ks), (kR rgs), (kR ns), (kR fch), (kR fk), (kR kl), (kR frg), (kR fac), (kR fcm), (kR ftr), (kR acs), (kR cms), (kR sus), (kR prb), (kI shc), (kR a6), (kI 1), (kR a9), (kR a12), (kR a15), (kR a18), (kR a21), (kR a40), (kI 0), (kI 0)]) :: (prb, Ar Z .double 64 g_prb) :: Rr) := W51q
  have K52 : Rc K0 T51 (mkF m 120 #[sR r, sI 4, sI 1] [(kI 2), (kR r)]) := fun t k => K49 t (st50 t (st51 t (by
    refine XS.aloadN X51.here hx rfl (hD 70 rfl) rfl rfl ?_
    refine XS.iconst X51.here hx rfl (hD 71 rfl) ?_
    exact k)))
  obtain ⟨T53, h53, L53, X53, e53, N53, W53q, st53⟩ := putW X51 hx hZ hown (host := "") (Or.inl (hw _ (mi 174 rfl))) e51 W51 N51 (own_dR hw) (Or.inl (hw _ (mi 175 rfl))) (hw _ (mi 6 rfl)) (ty := .int) (by decide +kernel) (i := 8) (a := r) rfl (j := 23) rfl rfl (v := (.int (2 : Int32))) rfl rfl (g := K52.g) rfl rfl (hD 72 rfl)
  have K54 : Rc K0 T53 (mkF m 123 #[sR r, sI 4, sI 1] []) := fun t k => K52 t (st53 t (k))
  obtain ⟨fs, hr, hrun, hended, hWm, hsame⟩ := X53.leave (v := none) (fun _ => rfl)
  refine ⟨_, _, pre0 _ (K54 _ (X53.returnOut hx Bd.returns (hD 73 rfl) hr)), hrun, hended, _, _, rfl, ?_, ⟨_, rfl⟩, hWm, hsame.mono (by decide) (by decide)⟩
  show QrmSR1 Z r ks rgs ns fch fk kl frg fac fcm ftr acs cms sus prb shc g_prb Rr n0 _ T53.heap _
  rw [e53]
  exact ⟨a50, a40, a21, a18, a15, a12, a9, a6, rfl, N53, W53q⟩
abbrev y_pl : MethodName := ⟨"com/example/sambre/sambre/engine/Rows", "place", "(I[DI[D)I"⟩
theorem pd_pl : parseMethodDescriptor "(I[DI[D)I" = some ⟨[.int, (.array .double), .int, (.array .double)], some .int⟩ := by decide +kernel
def Ld_pl : List (Nat × Instr × Nat) := [(0, .aload_n 0, 1), (1, .getfield 37, 3), (4, .aload_n 0, 1), (5, .getfield 19, 3), (8, .iload_n 1, 1), (9, .iaload, 1), (10, .iaload, 1), (11, .istore 5, 2), (13, .aload_n 0, 1), (14, .getfield 37, 3), (17, .aload_n 0, 1), (18, .getfield 19, 3), (21, .iload_n 1, 1), (22, .iconst 1, 1), (23, .iadd, 1), (24, .iaload, 1), (25, .iaload, 1), (26, .iload 5, 2), (28, .isub, 1), (29, .istore 6, 2), (31, .iload_n 3, 1), (32, .iload 6, 2), (34, .iadd, 1), (35, .istore 7, 2), (37, .aload_n 0, 1), (38, .getfield 146, 3), (41, .iload 7, 2), (43, .iadd, 1), (44, .aload_n 0, 1), (45, .getfield 139, 3), (48, .aload_n 0, 1), (49, .getfield 143, 3), (52, .iconst 1, 1), (53, .isub, 1), (54, .aaload, 1), (55, .arraylength, 1), (56, .if_icmp .le 87, 3), (143, .aload_n 0, 1), (144, .dup, 1), (145, .getfield 99, 3), (148, .dup_x1, 1), (149, .iconst 1, 1), (150, .iadd, 1), (151, .putfield 99, 3), (154, .istore 8, 2), (156, .iload 8, 2), (158, .aload_n 0, 1), (159, .getfield 124, 3), (162, .arraylength, 1), (163, .if_icmp .ne 78, 3), (241, .aload_n 0, 1), (242, .getfield 139, 3), (245, .aload_n 0, 1), (246, .getfield 143, 3), (249, .iconst 1, 1), (250, .isub, 1), (251, .aaload, 1), (252, .astore 9, 2), (254, .aload_n 2, 1), (255, .iconst 0, 1), (256, .aload 9, 2), (258, .aload_n 0, 1), (259, .getfield 146, 3), (262, .iload_n 3, 1), (263, .invokestatic 90, 3), (266, .aload 4, 2), (268, .iconst 0, 1), (269, .aload 9, 2), (271, .aload_n 0, 1), (272, .getfield 146, 3), (275, .iload_n 3, 1), (276, .iadd, 1), (277, .iload 6, 2), (279, .invokestatic 90, 3), (282, .aload_n 0, 1), (283, .getfield 124, 3), (286, .iload 8, 2), (288, .iload_n 1, 1), (289, .iastore, 1), (290, .aload_n 0, 1), (291, .getfield 127, 3), (294, .iload 8, 2), (296, .aload_n 0, 1), (297, .getfield 67, 3), (300, .iload_n 1, 1), (301, .iaload, 1), (302, .iastore, 1), (303, .aload_n 0, 1), (304, .getfield 67, 3), (307, .iload_n 1, 1), (308, .iload 8, 2), (310, .iastore, 1), (311, .aload_n 0, 1), (312, .getfield 130, 3), (315, .iload 8, 2), (317, .aload_n 0, 1), (318, .getfield 143, 3), (321, .iconst 1, 1), (322, .isub, 1), (323, .iastore, 1), (324, .aload_n 0, 1), (325, .getfield 133, 3), (328, .iload 8, 2), (330, .aload_n 0, 1), (331, .getfield 146, 3), (334, .iload_n 3, 1), (335, .iadd, 1), (336, .iload 5, 2), (338, .isub, 1), (339, .iastore, 1), (340, .aload_n 0, 1), (341, .getfield 136, 3), (344, .iload 8, 2), (346, .iload_n 3, 1), (347, .iastore, 1), (348, .aload_n 0, 1), (349, .dup, 1), (350, .getfield 146, 3), (353, .iload 7, 2), (355, .iadd, 1), (356, .putfield 146, 3), (359, .iload 8, 2), (361, .ireturn, 1)]
set_option maxRecDepth 65536 in
theorem d_pl : ∀ x ∈ Ld_pl, decode prog_87_method_5_code x.1 = .ok (x.2.1, x.2.2) := by decide +kernel
theorem ef_rmPL00 (m : MethodId) (r ks rgs ns fch fk kl frg fac fcm ftr acs cms sus prb : Addr) (lr so nr bo shf vcn bl bk vv pp : Addr) (vc t2 : Nat) (g_ftr g_fch g_bl g_bk g_lr g_so g_nr g_bo g_shf g_vcn g_vv g_pp : Nat → Value) : entryFrame m #[(.ref r), (.int (0 : Int32)), (.ref vv), (.int (Int32.ofNat vc)), (.ref pp)] 10 = mkF m 0 #[.val (.ref r), .val (.int (0 : Int32)), .val (.ref vv), .val (.int (Int32.ofNat vc)), .val (.ref pp), .unset, .unset, .unset, .unset, .unset] [] := by first | (simp [entryFrame, mkF, argsToLocals, Value.category]; done) | rfl
def QrmPL00 (Z : State) (r ks rgs ns fch fk kl frg fac fcm ftr acs cms sus prb : Addr) (lr so nr bo shf vcn bl bk vv pp : Addr) (vc t2 : Nat) (g_ftr g_fch g_bl g_bk g_lr g_so g_nr g_bo g_shf g_vcn g_vv g_pp : Nat → Value) (Rr : List (Addr × (Cell → Prop))) (n0 : Nat) (v : Option Value) (h : Heap) (L : List Loc) : Prop := v = some (.int (0 : Int32)) ∧ Fr n0 L ∧ Wo n0 h ((r, oR Z [(kR ks), (kR rgs), (kR ns), (kR fch), (kR fk), (kR kl), (kR frg), (kR fac), (kR fcm), (kR ftr), (kR acs), (kR cms), (kR sus), (kR prb), (kI 1), (kR lr), (kI 1), (kR so), (kR nr), (kR bo), (kR shf), (kR vcn), (kR bl), (kI 2), (kI (Int32.ofNat (vc + t2)))]) :: (ftr, Ar Z .int 17 g_ftr) :: (fch, Ar Z .int 17 g_fch) :: (bl, Pg Z .double 4 g_bl) :: (bk, Ar Z .double 64 (cpy g_pp (cpy g_vv g_bk 0 0 vc) 0 vc t2)) :: (lr, Ar Z .int 4 (upd g_lr 0 (kI 0))) :: (so, Ar Z .int 4 (upd g_so 0 (kI 0))) :: (nr, Ar Z .int 4 (upd g_nr 0 (kI (-1)))) :: (bo, Ar Z .int 4 (upd g_bo 0 (kI 1))) :: (shf, Ar Z .int 4 (upd g_shf 0 (kI (Int32.ofNat vc)))) :: (vcn, Ar Z .int 4 (upd g_vcn 0 (kI (Int32.ofNat vc)))) :: (vv, Ar Z .double 3 g_vv) :: (pp, Ar Z .double 4 g_pp) :: Rr)
set_option maxRecDepth 65536 in
set_option maxHeartbeats 40000000 in
theorem rmPL00 (l : Launch) (Z : State) (a0 : Array Value) (hw : ∀ d ∈ tables_1, d.before a0 Z = true) (ws : List Jvm.Cond) (r ks rgs ns fch fk kl frg fac fcm ftr acs cms sus prb : Addr) (lr so nr bo shf vcn bl bk vv pp : Addr) (vc t2 : Nat) (g_ftr g_fch g_bl g_bk g_lr g_so g_nr g_bo g_shf g_vcn g_vv g_pp : Nat → Value) (Rr : List (Addr × (Cell → Prop))) (h0 : Heap) (n0 : Nat) (W0 : Wo n0 h0 ((r, oR Z [(kR ks), (kR rgs), (kR ns), (kR fch), (kR fk), (kR kl), (kR frg), (kR fac), (kR fcm), (kR ftr), (kR acs), (kR cms), (kR sus), (kR prb), (kI 1), (kR lr), (kI 0), (kR so), (kR nr), (kR bo), (kR shf), (kR vcn), (kR bl), (kI 2), (kI 0)]) :: (ftr, Ar Z .int 17 g_ftr) :: (fch, Ar Z .int 17 g_fch) :: (bl, Pg Z .double 4 g_bl) :: (bk, Ar Z .double 64 g_bk) :: (lr, Ar Z .int 4 g_lr) :: (so, Ar Z .int 4 g_so) :: (nr, Ar Z .int 4 g_nr) :: (bo, Ar Z .int 4 g_bo) :: (shf, Ar Z .int 4 g_shf) :: (vcn, Ar Z .int 4 g_vcn) :: (vv, Ar Z .double 3 g_vv) :: (pp, Ar Z .double 4 g_pp) :: Rr)) (hc3 : vc ≤ 3) (ht3 : t2 ≤ 3) (h_ftr0 : g_ftr 0 = (.int (0 : Int32))) (h_ftr2 : g_ftr 2 = (.int (Int32.ofNat t2))) (h_fch0 : g_fch 0 = (.int (0 : Int32))) (h_fch1 : g_fch 1 = (.int (2 : Int32))) (h5 : g_bl 1 = .ref bk) (h6 : g_lr 0 = .int (-1 : Int32)) :
    MetFree l y_pl (head1 (Jvm.Cond.code y_pl prog_87_method_5_code 10 (some .int) :: ws) ({ frames := 1, cells := 0, slots := 0, locals := 18 } : Room)) (fun aa U => aa = #[(.ref r), (.int (0 : Int32)), (.ref vv), (.int (Int32.ofNat vc)), (.ref pp)] ∧ Z.Warmed39 U.vm ∧ U.heap = h0) (fun _ _ _ _ _ => True) (fun _ U ou U' => ∃ v L, ou = .returned v ∧ QrmPL00 Z r ks rgs ns fch fk kl frg fac fcm ftr acs cms sus prb lr so nr bo shf vcn bl bk vv pp vc t2 g_ftr g_fch g_bl g_bk g_lr g_so g_nr g_bo g_shf g_vcn g_vv g_pp Rr n0 v U'.heap L ∧ FrameEnd U ou U' L ({ frames := 1, cells := 0, slots := 0, locals := 18 } : Room).cells ({ frames := 1, cells := 0, slots := 0, locals := 18 } : Room).slots) := by
  refine MetFree.of_bodySF (plainFor_of_name pn_Rows) hisR ?_
  intro p e s m args below meth c s₁ Bd hml0 hP hK
  obtain ⟨rfl, hZ, hh⟩ := hP
  have hx := Bd.exec
  have hby := Bd.bytes
  have hml : c.maxLocals = 10 := hml0
  have hD : ∀ (k : Nat) {pc : Nat} {i : Instr} {n : Nat}, Ld_pl[k]? = some (pc, i, n) → decode c.code pc = .ok (i, n) := by intro k pc i n h; exact hb hby (d_pl (pc, i, n) (mi k h))
  have hown : s.vm.findClass "com/example/sambre/sambre/engine/Rows" = some m.cls := findClass_of_methodNamed Bd.named
  have hnm := (name_of_methodNamed Bd.named Bd.method).1
  have X0 : Stand p l e ({ frames := 1, cells := 0, slots := 0, locals := 18 } : Room) s m #[(.ref r), (.int (0 : Int32)), (.ref vv), (.int (Int32.ofNat vc)), (.ref pp)] below meth c s₁ [] 0 0 := Stand.of_body Bd
  have e0 : s₁.heap = h0 := by rw [← hh, Bd.state]; rfl
  have N0 := Fr.nil n0
  obtain ⟨F0, hF0⟩ : ∃ F, F = mkF m 0 #[.val (.ref r), .val (.int (0 : Int32)), .val (.ref vv), .val (.int (Int32.ofNat vc)), .val (.ref pp), .unset, .unset, .unset, .unset, .unset] [] := ⟨_, rfl⟩
  have pre0 : ∀ t, Steps p.tables e below (s₁.setTop F0) t → Steps p.tables e below (s₁.setTop (entryFrame m #[(.ref r), (.int (0 : Int32)), (.ref vv), (.int (Int32.ofNat vc)), (.ref pp)] 10)) t := fun t k => castTop ((ef_rmPL00 m r ks rgs ns fch fk kl frg fac fcm ftr acs cms sus prb lr so nr bo shf vcn bl bk vv pp vc t2 g_ftr g_fch g_bl g_bk g_lr g_so g_nr g_bo g_shf g_vcn g_vv g_pp).trans hF0.symm) k
  have K0 : Rch p e below s₁ F0 s₁ (mkF m 0 #[.val (.ref r), .val (.int (0 : Int32)), .val (.ref vv), .val (.int (Int32.ofNat vc)), .val (.ref pp), .unset, .unset, .unset, .unset, .unset] []) := fun t k => castTop hF0 k
  have K1 : Rc K0 s₁ (mkF m 1 #[sR r, sI 0, sR vv, sI (Int32.ofNat vc), sR pp, sU, sU, sU, sU, sU] [(kR r)]) := fun t k => K0 t (XS.aloadN X0.here hx rfl (hD 0 rfl) rfl rfl k)
  obtain ⟨T2, X2, e2, st2⟩ := getF X0 hx hZ hown (host := "") (Or.inl (hw _ (mi 32 rfl))) Via.refl e0 (W0.fld (i := 0) rfl (j := 9) rfl rfl) (g := K1.g) rfl rfl (hD 1 rfl)
  have K3 : Rc K0 T2 (mkF m 5 #[sR r, sI 0, sR vv, sI (Int32.ofNat vc), sR pp, sU, sU, sU, sU, sU] [(kR r), (kR ftr)]) := fun t k => K1 t (st2 t (XS.aloadN X2.here hx rfl (hD 2 rfl) rfl rfl k))
  obtain ⟨T4, X4, e4, st4⟩ := getF X2 hx hZ hown (host := "") (Or.inl (hw _ (mi 20 rfl))) Via.refl e2 (W0.fld (i := 0) rfl (j := 3) rfl rfl) (g := K3.g) rfl rfl (hD 3 rfl)
  have K5 : Rc K0 T4 (mkF m 14 #[sR r, sI 0, sR vv, sI (Int32.ofNat vc), sR pp, sI 0, sU, sU, sU, sU] [(kR r)]) := fun t k => K3 t (st4 t (by
    refine XS.iloadN X4.here hx rfl (hD 4 rfl) rfl ?_
    refine ialW X4 hx hZ e4 W0 (i := 2) rfl (j := (0 : Int32)) (k := 0) (by decide) (by decide) (by decide) (v := (.int (0 : Int32))) h_fch0 (g := (mkF m 9 #[sR r, sI 0, sR vv, sI (Int32.ofNat vc), sR pp, sU, sU, sU, sU, sU] [(kI 0), (kR fch), (kR ftr)])) rfl rfl (hD 5 rfl) _ ?_
    refine ialW X4 hx hZ e4 W0 (i := 1) rfl (j := (0 : Int32)) (k := 0) (by decide) (by decide) (by decide) (v := (.int (0 : Int32))) h_ftr0 (g := (mkF m 10 #[sR r, sI 0, sR vv, sI (Int32.ofNat vc), sR pp, sU, sU, sU, sU, sU] [(kI 0), (kR ftr)])) rfl rfl (hD 6 rfl) _ ?_
    refine XS.istore X4.here hx rfl (hD 7 rfl) rfl (l' := #[sR r, sI 0, sR vv, sI (Int32.ofNat vc), sR pp, sI 0, sU, sU, sU, sU]) rfl ?_
    refine XS.aloadN X4.here hx rfl (hD 8 rfl) rfl rfl ?_
    exact k))
  obtain ⟨T6, X6, e6, st6⟩ := getF X4 hx hZ hown (host := "") (Or.inl (hw _ (mi 32 rfl))) Via.refl e4 (W0.fld (i := 0) rfl (j := 9) rfl rfl) (g := K5.g) rfl rfl (hD 9 rfl)
  have K7 : Rc K0 T6 (mkF m 18 #[sR r, sI 0, sR vv, sI (Int32.ofNat vc), sR pp, sI 0, sU, sU, sU, sU] [(kR r), (kR ftr)]) := fun t k => K5 t (st6 t (XS.aloadN X6.here hx rfl (hD 10 rfl) rfl rfl k))
  obtain ⟨T8, X8, e8, st8⟩ := getF X6 hx hZ hown (host := "") (Or.inl (hw _ (mi 20 rfl))) Via.refl e6 (W0.fld (i := 0) rfl (j := 3) rfl rfl) (g := K7.g) rfl rfl (hD 11 rfl)
  have K9 : Rc K0 T8 (mkF m 38 #[sR r, sI 0, sR vv, sI (Int32.ofNat vc), sR pp, sI 0, sI (Int32.ofNat t2), sI (Int32.ofNat (vc + t2)), sU, sU] [(kR r)]) := fun t k => K7 t (st8 t (by
    refine XS.iloadN X8.here hx rfl (hD 12 rfl) rfl ?_
    refine XS.iconst X8.here hx rfl (hD 13 rfl) ?_
    refine XS.iadd X8.here hx rfl (hD 14 rfl) rfl ?_
    refine ialW X8 hx hZ e8 W0 (i := 2) rfl (j := (1 : Int32)) (k := 1) (by decide) (by decide) (by decide) (v := (.int (2 : Int32))) h_fch1 (g := (mkF m 24 #[sR r, sI 0, sR vv, sI (Int32.ofNat vc), sR pp, sI 0, sU, sU, sU, sU] [(kI 1), (kR fch), (kR ftr)])) rfl rfl (hD 15 rfl) _ ?_
    refine ialW X8 hx hZ e8 W0 (i := 1) rfl (j := (2 : Int32)) (k := 2) (by decide) (by decide) (by decide) (v := (.int (Int32.ofNat t2))) h_ftr2 (g := (mkF m 25 #[sR r, sI 0, sR vv, sI (Int32.ofNat vc), sR pp, sI 0, sU, sU, sU, sU] [(kI 2), (kR ftr)])) rfl rfl (hD 16 rfl) _ ?_
    refine XS.iload X8.here hx rfl (hD 17 rfl) rfl ?_
    refine XS.isub X8.here hx rfl (hD 18 rfl) rfl ?_
    show Steps p.tables e below (T8.setTop (mkF m 29 #[sR r, sI 0, sR vv, sI (Int32.ofNat vc), sR pp, sI 0, sU, sU, sU, sU] [(kI ((Int32.ofNat t2) - (0 : Int32)))])) _
    rw [Int32.sub_zero]
    show Steps p.tables e below (T8.setTop (mkF m 29 #[sR r, sI 0, sR vv, sI (Int32.ofNat vc), sR pp, sI 0, sU, sU, sU, sU] [(kI (Int32.ofNat t2))])) _
    refine XS.istore X8.here hx rfl (hD 19 rfl) rfl (l' := #[sR r, sI 0, sR vv, sI (Int32.ofNat vc), sR pp, sI 0, sI (Int32.ofNat t2), sU, sU, sU]) rfl ?_
    refine XS.iloadN X8.here hx rfl (hD 20 rfl) rfl ?_
    refine XS.iload X8.here hx rfl (hD 21 rfl) rfl ?_
    refine XS.iadd X8.here hx rfl (hD 22 rfl) rfl ?_
    show Steps p.tables e below (T8.setTop (mkF m 35 #[sR r, sI 0, sR vv, sI (Int32.ofNat vc), sR pp, sI 0, sI (Int32.ofNat t2), sU, sU, sU] [(kI ((Int32.ofNat vc) + (Int32.ofNat t2)))])) _
    rw [own_add vc t2]
    show Steps p.tables e below (T8.setTop (mkF m 35 #[sR r, sI 0, sR vv, sI (Int32.ofNat vc), sR pp, sI 0, sI (Int32.ofNat t2), sU, sU, sU] [(kI (Int32.ofNat (vc + t2)))])) _
    refine XS.istore X8.here hx rfl (hD 23 rfl) rfl (l' := #[sR r, sI 0, sR vv, sI (Int32.ofNat vc), sR pp, sI 0, sI (Int32.ofNat t2), sI (Int32.ofNat (vc + t2)), sU, sU]) rfl ?_
    refine XS.aloadN X8.here hx rfl (hD 24 rfl) rfl rfl ?_
    exact k))
  obtain ⟨T10, X10, e10, st10⟩ := getF X8 hx hZ hown (host := "") (Or.inl (hw _ (mi 184 rfl))) Via.refl e8 (W0.fld (i := 0) rfl (j := 24) rfl rfl) (g := K9.g) rfl rfl (hD 25 rfl)
  have K11 : Rc K0 T10 (mkF m 45 #[sR r, sI 0, sR vv, sI (Int32.ofNat vc), sR pp, sI 0, sI (Int32.ofNat t2), sI (Int32.ofNat (vc + t2)), sU, sU] [(kR r), (kI (Int32.ofNat (vc + t2)))]) := fun t k => K9 t (st10 t (by
    refine XS.iload X10.here hx rfl (hD 26 rfl) rfl ?_
    refine XS.iadd X10.here hx rfl (hD 27 rfl) rfl ?_
    show Steps p.tables e below (T10.setTop (mkF m 44 #[sR r, sI 0, sR vv, sI (Int32.ofNat vc), sR pp, sI 0, sI (Int32.ofNat t2), sI (Int32.ofNat (vc + t2)), sU, sU] [(kI ((0 : Int32) + (Int32.ofNat (vc + t2))))])) _
    rw [Int32.zero_add]
    show Steps p.tables e below (T10.setTop (mkF m 44 #[sR r, sI 0, sR vv, sI (Int32.ofNat vc), sR pp, sI 0, sI (Int32.ofNat t2), sI (Int32.ofNat (vc + t2)), sU, sU] [(kI (Int32.ofNat (vc + t2)))])) _
    refine XS.aloadN X10.here hx rfl (hD 28 rfl) rfl rfl ?_
    exact k))
  obtain ⟨T12, X12, e12, st12⟩ := getF X10 hx hZ hown (host := "") (Or.inl (hw _ (mi 171 rfl))) Via.refl e10 (W0.fld (i := 0) rfl (j := 22) rfl rfl) (g := K11.g) rfl rfl (hD 29 rfl)
  have K13 : Rc K0 T12 (mkF m 49 #[sR r, sI 0, sR vv, sI (Int32.ofNat vc), sR pp, sI 0, sI (Int32.ofNat t2), sI (Int32.ofNat (vc + t2)), sU, sU] [(kR r), (kR bl), (kI (Int32.ofNat (vc + t2)))]) := fun t k => K11 t (st12 t (XS.aloadN X12.here hx rfl (hD 30 rfl) rfl rfl k))
  obtain ⟨T14, X14, e14, st14⟩ := getF X12 hx hZ hown (host := "") (Or.inl (hw _ (mi 174 rfl))) Via.refl e12 (W0.fld (i := 0) rfl (j := 23) rfl rfl) (g := K13.g) rfl rfl (hD 31 rfl)
  have K15 : Rc K0 T14 (mkF m 145 #[sR r, sI 0, sR vv, sI (Int32.ofNat vc), sR pp, sI 0, sI (Int32.ofNat t2), sI (Int32.ofNat (vc + t2)), sU, sU] [(kR r), (kR r)]) := fun t k => K13 t (st14 t (by
    refine XS.iconst X14.here hx rfl (hD 32 rfl) ?_
    refine XS.isub X14.here hx rfl (hD 33 rfl) rfl ?_
    refine aalW X14 hx hZ e14 W0 (i := 3) rfl (fun _ q => q.1) rfl (j := (1 : Int32)) (k := 1) (by decide) (by decide) (by decide) (v := (.ref bk)) h5 (g := (mkF m 54 #[sR r, sI 0, sR vv, sI (Int32.ofNat vc), sR pp, sI 0, sI (Int32.ofNat t2), sI (Int32.ofNat (vc + t2)), sU, sU] [(kI 1), (kR bl), (kI (Int32.ofNat (vc + t2)))])) rfl rfl (hD 34 rfl) _ ?_
    refine lenW X14 hx hZ e14 W0 (i := 4) rfl (fun _ q => q) (z := (64 : Int32)) (by decide) (g := (mkF m 55 #[sR r, sI 0, sR vv, sI (Int32.ofNat vc), sR pp, sI 0, sI (Int32.ofNat t2), sI (Int32.ofNat (vc + t2)), sU, sU] [(kR bk), (kI (Int32.ofNat (vc + t2)))])) rfl rfl (hD 35 rfl) _ ?_
    refine XS.icmpYes X14.here hx rfl (pc0 := 56) (pc' := 143) rfl (hD 36 rfl) rfl (flt (own_nlt (a := 64) (b := (vc + t2)) (by omega) (by decide))).2.2.2 (by decide) (by decide) ?_
    refine XS.aloadN X14.here hx rfl (hD 37 rfl) rfl rfl ?_
    refine XS.dup X14.here hx rfl (hD 38 rfl) rfl rfl ?_
    exact k))
  obtain ⟨T16, X16, e16, st16⟩ := getF X14 hx hZ hown (host := "") (Or.inl (hw _ (mi 122 rfl))) Via.refl e14 (W0.fld (i := 0) rfl (j := 16) rfl rfl) (g := K15.g) rfl rfl (hD 39 rfl)
  have K17 : Rc K0 T16 (mkF m 151 #[sR r, sI 0, sR vv, sI (Int32.ofNat vc), sR pp, sI 0, sI (Int32.ofNat t2), sI (Int32.ofNat (vc + t2)), sU, sU] [(kI 1), (kR r), (kI 0)]) := fun t k => K15 t (st16 t (by
    refine XS.dupX1 X16.here hx rfl (hD 40 rfl) rfl rfl rfl ?_
    refine XS.iconst X16.here hx rfl (hD 41 rfl) ?_
    refine XS.iadd X16.here hx rfl (hD 42 rfl) rfl ?_
    exact k))
  obtain ⟨T18, h18, L18, X18, e18, N18, W18q, st18⟩ := putW X16 hx hZ hown (host := "") (Or.inl (hw _ (mi 122 rfl))) e16 W0 N0 (own_dR hw) (Or.inl (hw _ (mi 123 rfl))) (hw _ (mi 6 rfl)) (ty := .int) (by decide +kernel) (i := 0) (a := r) rfl (j := 16) rfl rfl (v := (.int (1 : Int32))) rfl rfl (g := K17.g) rfl rfl (hD 43 rfl)
  have K19 : Rc K0 T18 (mkF m 159 #[sR r, sI 0, sR vv, sI (Int32.ofNat vc), sR pp, sI 0, sI (Int32.ofNat t2), sI (Int32.ofNat (vc + t2)), sI 0, sU] [(kR r), (kI 0)]) := fun t k => K17 t (st18 t (by
    refine XS.istore X18.here hx rfl (hD 44 rfl) rfl (l' := #[sR r, sI 0, sR vv, sI (Int32.ofNat vc), sR pp, sI 0, sI (Int32.ofNat t2), sI (Int32.ofNat (vc + t2)), sI 0, sU]) rfl ?_
    refine XS.iload X18.here hx rfl (hD 45 rfl) rfl ?_
    refine XS.aloadN X18.here hx rfl (hD 46 rfl) rfl rfl ?_
    exact k))
  obtain ⟨T20, X20, e20, st20⟩ := getF X18 hx hZ hown (host := "") (Or.inl (hw _ (mi 129 rfl))) Via.refl e18 (W18q.fld (i := 0) rfl (j := 17) rfl rfl) (g := K19.g) rfl rfl (hD 47 rfl)
  have K21 : Rc K0 T20 (mkF m 242 #[sR r, sI 0, sR vv, sI (Int32.ofNat vc), sR pp, sI 0, sI (Int32.ofNat t2), sI (Int32.ofNat (vc + t2)), sI 0, sU] [(kR r)]) := fun t k => K19 t (st20 t (by
    refine lenW X20 hx hZ e20 W18q (i := 6) rfl (fun _ q => q) (z := (4 : Int32)) (by decide) (g := (mkF m 162 #[sR r, sI 0, sR vv, sI (Int32.ofNat vc), sR pp, sI 0, sI (Int32.ofNat t2), sI (Int32.ofNat (vc + t2)), sI 0, sU] [(kR so), (kI 0)])) rfl rfl (hD 48 rfl) _ ?_
    refine XS.icmpYes X20.here hx rfl (pc0 := 163) (pc' := 241) rfl (hD 49 rfl) rfl (by decide) (by decide) (by decide) ?_
    refine XS.aloadN X20.here hx rfl (hD 50 rfl) rfl rfl ?_
    exact k))
  obtain ⟨T22, X22, e22, st22⟩ := getF X20 hx hZ hown (host := "") (Or.inl (hw _ (mi 171 rfl))) Via.refl e20 (W18q.fld (i := 0) rfl (j := 22) rfl rfl) (g := K21.g) rfl rfl (hD 51 rfl)
  have K23 : Rc K0 T22 (mkF m 246 #[sR r, sI 0, sR vv, sI (Int32.ofNat vc), sR pp, sI 0, sI (Int32.ofNat t2), sI (Int32.ofNat (vc + t2)), sI 0, sU] [(kR r), (kR bl)]) := fun t k => K21 t (st22 t (XS.aloadN X22.here hx rfl (hD 52 rfl) rfl rfl k))
  obtain ⟨T24, X24, e24, st24⟩ := getF X22 hx hZ hown (host := "") (Or.inl (hw _ (mi 174 rfl))) Via.refl e22 (W18q.fld (i := 0) rfl (j := 23) rfl rfl) (g := K23.g) rfl rfl (hD 53 rfl)
  have K25 : Rc K0 T24 (mkF m 259 #[sR r, sI 0, sR vv, sI (Int32.ofNat vc), sR pp, sI 0, sI (Int32.ofNat t2), sI (Int32.ofNat (vc + t2)), sI 0, sR bk] [(kR r), (kR bk), (kI 0), (kR vv)]) := fun t k => K23 t (st24 t (by
    refine XS.iconst X24.here hx rfl (hD 54 rfl) ?_
    refine XS.isub X24.here hx rfl (hD 55 rfl) rfl ?_
    refine aalW X24 hx hZ e24 W18q (i := 3) rfl (fun _ q => q.1) rfl (j := (1 : Int32)) (k := 1) (by decide) (by decide) (by decide) (v := (.ref bk)) h5 (g := (mkF m 251 #[sR r, sI 0, sR vv, sI (Int32.ofNat vc), sR pp, sI 0, sI (Int32.ofNat t2), sI (Int32.ofNat (vc + t2)), sI 0, sU] [(kI 1), (kR bl)])) rfl rfl (hD 56 rfl) _ ?_
    refine XS.astore X24.here hx rfl (hD 57 rfl) rfl rfl (l' := #[sR r, sI 0, sR vv, sI (Int32.ofNat vc), sR pp, sI 0, sI (Int32.ofNat t2), sI (Int32.ofNat (vc + t2)), sI 0, sR bk]) rfl ?_
    refine XS.aloadN X24.here hx rfl (hD 58 rfl) rfl rfl ?_
    refine XS.iconst X24.here hx rfl (hD 59 rfl) ?_
    refine XS.aload X24.here hx rfl (hD 60 rfl) rfl rfl ?_
    refine XS.aloadN X24.here hx rfl (hD 61 rfl) rfl rfl ?_
    exact k))
  obtain ⟨T26, X26, e26, st26⟩ := getF X24 hx hZ hown (host := "") (Or.inl (hw _ (mi 184 rfl))) Via.refl e24 (W18q.fld (i := 0) rfl (j := 24) rfl rfl) (g := K25.g) rfl rfl (hD 62 rfl)
  have K27 : Rc K0 T26 (mkF m 263 #[sR r, sI 0, sR vv, sI (Int32.ofNat vc), sR pp, sI 0, sI (Int32.ofNat t2), sI (Int32.ofNat (vc + t2)), sI 0, sR bk] [(kI (Int32.ofNat vc)), (kI 0), (kR bk), (kI 0), (kR vv)]) := fun t k => K25 t (st26 t (XS.iloadN X26.here hx rfl (hD 63 rfl) rfl k))
  obtain ⟨T28, h28, L28, X28, e28, N28, W28q, st28⟩ := cpW X26 hx hZ hown (hw _ (mi 115 rfl)) (hw _ (mi 118 rfl)) (hw _ (mi 116 rfl)) (hw _ (mi 117 rfl)) e26 W18q N18 (i := 11) (j := 4) rfl rfl rfl (sp := (0 : Int32)) (dp := (0 : Int32)) (nn := (Int32.ofNat vc)) (s' := 0) (d' := 0) (k' := vc) (by decide) (by decide) (own_nn (by omega)) (by decide) (by decide) (own_tn (by omega)) (by omega) (by omega) (g := K27.g) rfl (by rw [hml]; rfl) (rest := []) rfl (hD 64 rfl) (by decide) (W0 := 0) (by show 2 * 0 + _ ≤ _; exact Nat.le_of_eq rfl) (by decide)
  have K29 : Rc K0 T28 (mkF m 272 #[sR r, sI 0, sR vv, sI (Int32.ofNat vc), sR pp, sI 0, sI (Int32.ofNat t2), sI (Int32.ofNat (vc + t2)), sI 0, sR bk] [(kR r), (kR bk), (kI 0), (kR pp)]) := fun t k => K27 t (st28 t (by
    refine XS.aload X28.here hx rfl (hD 65 rfl) rfl rfl ?_
    refine XS.iconst X28.here hx rfl (hD 66 rfl) ?_
    refine XS.aload X28.here hx rfl (hD 67 rfl) rfl rfl ?_
    refine XS.aloadN X28.here hx rfl (hD 68 rfl) rfl rfl ?_
    exact k))
  obtain ⟨T30, X30, e30, st30⟩ := getF X28 hx hZ hown (host := "") (Or.inl (hw _ (mi 184 rfl))) Via.refl e28 (W28q.fld (i := 0) rfl (j := 24) rfl rfl) (g := K29.g) rfl rfl (hD 69 rfl)
  have K31 : Rc K0 T30 (mkF m 279 #[sR r, sI 0, sR vv, sI (Int32.ofNat vc), sR pp, sI 0, sI (Int32.ofNat t2), sI (Int32.ofNat (vc + t2)), sI 0, sR bk] [(kI (Int32.ofNat t2)), (kI (Int32.ofNat vc)), (kR bk), (kI 0), (kR pp)]) := fun t k => K29 t (st30 t (by
    refine XS.iloadN X30.here hx rfl (hD 70 rfl) rfl ?_
    refine XS.iadd X30.here hx rfl (hD 71 rfl) rfl ?_
    show Steps p.tables e below (T30.setTop (mkF m 277 #[sR r, sI 0, sR vv, sI (Int32.ofNat vc), sR pp, sI 0, sI (Int32.ofNat t2), sI (Int32.ofNat (vc + t2)), sI 0, sR bk] [(kI ((0 : Int32) + (Int32.ofNat vc))), (kR bk), (kI 0), (kR pp)])) _
    rw [Int32.zero_add]
    show Steps p.tables e below (T30.setTop (mkF m 277 #[sR r, sI 0, sR vv, sI (Int32.ofNat vc), sR pp, sI 0, sI (Int32.ofNat t2), sI (Int32.ofNat (vc + t2)), sI 0, sR bk] [(kI (Int32.ofNat vc)), (kR bk), (kI 0), (kR pp)])) _
    refine XS.iload X30.here hx rfl (hD 72 rfl) rfl ?_
    exact k))
  obtain ⟨T32, h32, L32, X32, e32, N32, W32q, st32⟩ := cpW X30 hx hZ hown (hw _ (mi 115 rfl)) (hw _ (mi 118 rfl)) (hw _ (mi 116 rfl)) (hw _ (mi 117 rfl)) e30 W28q N28 (i := 12) (j := 4) rfl rfl rfl (sp := (0 : Int32)) (dp := (Int32.ofNat vc)) (nn := (Int32.ofNat t2)) (s' := 0) (d' := vc) (k' := t2) (by decide) (own_nn (by omega)) (own_nn (by omega)) (by decide) (own_tn (by omega)) (own_tn (by omega)) (by omega) (by omega) (g := K31.g) rfl (by rw [hml]; rfl) (rest := []) rfl (hD 73 rfl) (by decide) (W0 := 0) (by show 2 * 0 + _ ≤ _; exact Nat.le_of_eq rfl) (by decide)
  have K33 : Rc K0 T32 (mkF m 283 #[sR r, sI 0, sR vv, sI (Int32.ofNat vc), sR pp, sI 0, sI (Int32.ofNat t2), sI (Int32.ofNat (vc + t2)), sI 0, sR bk] [(kR r)]) := fun t k => K31 t (st32 t (XS.aloadN X32.here hx rfl (hD 74 rfl) rfl rfl k))
  obtain ⟨T34, X34, e34, st34⟩ := getF X32 hx hZ hown (host := "") (Or.inl (hw _ (mi 129 rfl))) Via.refl e32 (W32q.fld (i := 0) rfl (j := 17) rfl rfl) (g := K33.g) rfl rfl (hD 75 rfl)
  have K35 : Rc K0 T34 (mkF m 289 #[sR r, sI 0, sR vv, sI (Int32.ofNat vc), sR pp, sI 0, sI (Int32.ofNat t2), sI (Int32.ofNat (vc + t2)), sI 0, sR bk] [(kI 0), (kI 0), (kR so)]) := fun t k => K33 t (st34 t (by
    refine XS.iload X34.here hx rfl (hD 76 rfl) rfl ?_
    refine XS.iloadN X34.here hx rfl (hD 77 rfl) rfl ?_
    exact k))
  obtain ⟨T36, h36, L36, X36, e36, N36, W36q, st36⟩ := iasW X34 hx hZ e34 W32q N32 (i := 6) (a := so) rfl (j := (0 : Int32)) (x := (0 : Int32)) (k := 0) (by decide) (by decide) (by decide) (g := K35.g) rfl rfl (hD 78 rfl)
  have W36 : Wo n0 h36 ((r, oR Z [(kR ks), (kR rgs), (kR ns), (kR fch), (kR fk), (kR kl), (kR frg), (kR fac), (kR fcm), (kR ftr), (kR acs), (kR cms), (kR sus), (kR prb), (kI 1), (kR lr), (kI 1), (kR so), (kR nr), (kR bo), (kR shf), (kR vcn), (kR bl), (kI 2), (kI 0)]) :: (ftr, Ar Z .int 17 g_ftr) :: (fch, Ar Z .int 17 g_fch) :: (bl, Pg Z .double 4 g_bl) :: (bk, Ar Z .double 64 (cpy g_pp (cpy g_vv g_bk 0 0 vc) 0 vc t2)) :: (lr, Ar Z .int 4 g_lr) :: (so, Ar Z .int 4 (upd g_so 0 (kI 0))) :: (nr, Ar Z .int 4 g_nr) :: (bo, Ar Z .int 4 g_bo) :: (shf, Ar Z .int 4 g_shf) :: (vcn, Ar Z .int 4 g_vcn) :: (vv, Ar Z .double 3 g_vv) :: (pp, Ar Z .double 4 g_pp) :: Rr) := W36q
  have K37 : Rc K0 T36 (mkF m 291 #[sR r, sI 0, sR vv, sI (Int32.ofNat vc), sR pp, sI 0, sI (Int32.ofNat t2), sI (Int32.ofNat (vc + t2)), sI 0, sR bk] [(kR r)]) := fun t k => K35 t (st36 t (XS.aloadN X36.here hx rfl (hD 79 rfl) rfl rfl k))
  obtain ⟨T38, X38, e38, st38⟩ := getF X36 hx hZ hown (host := "") (Or.inl (hw _ (mi 161 rfl))) Via.refl e36 (W36.fld (i := 0) rfl (j := 18) rfl rfl) (g := K37.g) rfl rfl (hD 80 rfl)
  have K39 : Rc K0 T38 (mkF m 297 #[sR r, sI 0, sR vv, sI (Int32.ofNat vc), sR pp, sI 0, sI (Int32.ofNat t2), sI (Int32.ofNat (vc + t2)), sI 0, sR bk] [(kR r), (kI 0), (kR nr)]) := fun t k => K37 t (st38 t (by
    refine XS.iload X38.here hx rfl (hD 81 rfl) rfl ?_
    refine XS.aloadN X38.here hx rfl (hD 82 rfl) rfl rfl ?_
    exact k))
  obtain ⟨T40, X40, e40, st40⟩ := getF X38 hx hZ hown (host := "") (Or.inl (hw _ (mi 105 rfl))) Via.refl e38 (W36.fld (i := 0) rfl (j := 15) rfl rfl) (g := K39.g) rfl rfl (hD 83 rfl)
  have K41 : Rc K0 T40 (mkF m 302 #[sR r, sI 0, sR vv, sI (Int32.ofNat vc), sR pp, sI 0, sI (Int32.ofNat t2), sI (Int32.ofNat (vc + t2)), sI 0, sR bk] [(kI (-1)), (kI 0), (kR nr)]) := fun t k => K39 t (st40 t (by
    refine XS.iloadN X40.here hx rfl (hD 84 rfl) rfl ?_
    refine ialW X40 hx hZ e40 W36 (i := 5) rfl (j := (0 : Int32)) (k := 0) (by decide) (by decide) (by decide) (v := (.int (-1 : Int32))) h6 (g := (mkF m 301 #[sR r, sI 0, sR vv, sI (Int32.ofNat vc), sR pp, sI 0, sI (Int32.ofNat t2), sI (Int32.ofNat (vc + t2)), sI 0, sR bk] [(kI 0), (kR lr), (kI 0), (kR nr)])) rfl rfl (hD 85 rfl) _ ?_
    exact k))
  obtain ⟨T42, h42, L42, X42, e42, N42, W42q, st42⟩ := iasW X40 hx hZ e40 W36 N36 (i := 7) (a := nr) rfl (j := (0 : Int32)) (x := (-1 : Int32)) (k := 0) (by decide) (by decide) (by decide) (g := K41.g) rfl rfl (hD 86 rfl)
  have K43 : Rc K0 T42 (mkF m 304 #[sR r, sI 0, sR vv, sI (Int32.ofNat vc), sR pp, sI 0, sI (Int32.ofNat t2), sI (Int32.ofNat (vc + t2)), sI 0, sR bk] [(kR r)]) := fun t k => K41 t (st42 t (XS.aloadN X42.here hx rfl (hD 87 rfl) rfl rfl k))
  obtain ⟨T44, X44, e44, st44⟩ := getF X42 hx hZ hown (host := "") (Or.inl (hw _ (mi 105 rfl))) Via.refl e42 (W42q.fld (i := 0) rfl (j := 15) rfl rfl) (g := K43.g) rfl rfl (hD 88 rfl)
  have K45 : Rc K0 T44 (mkF m 310 #[sR r, sI 0, sR vv, sI (Int32.ofNat vc), sR pp, sI 0, sI (Int32.ofNat t2), sI (Int32.ofNat (vc + t2)), sI 0, sR bk] [(kI 0), (kI 0), (kR lr)]) := fun t k => K43 t (st44 t (by
    refine XS.iloadN X44.here hx rfl (hD 89 rfl) rfl ?_
    refine XS.iload X44.here hx rfl (hD 90 rfl) rfl ?_
    exact k))
  obtain ⟨T46, h46, L46, X46, e46, N46, W46q, st46⟩ := iasW X44 hx hZ e44 W42q N42 (i := 5) (a := lr) rfl (j := (0 : Int32)) (x := (0 : Int32)) (k := 0) (by decide) (by decide) (by decide) (g := K45.g) rfl rfl (hD 91 rfl)
  have K47 : Rc K0 T46 (mkF m 312 #[sR r, sI 0, sR vv, sI (Int32.ofNat vc), sR pp, sI 0, sI (Int32.ofNat t2), sI (Int32.ofNat (vc + t2)), sI 0, sR bk] [(kR r)]) := fun t k => K45 t (st46 t (XS.aloadN X46.here hx rfl (hD 92 rfl) rfl rfl k))
  obtain ⟨T48, X48, e48, st48⟩ := getF X46 hx hZ hown (host := "") (Or.inl (hw _ (mi 163 rfl))) Via.refl e46 (W46q.fld (i := 0) rfl (j := 19) rfl rfl) (g := K47.g) rfl rfl (hD 93 rfl)
  have K49 : Rc K0 T48 (mkF m 318 #[sR r, sI 0, sR vv, sI (Int32.ofNat vc), sR pp, sI 0, sI (Int32.ofNat t2), sI (Int32.ofNat (vc + t2)), sI 0, sR bk] [(kR r), (kI 0), (kR bo)]) := fun t k => K47 t (st48 t (by
    refine XS.iload X48.here hx rfl (hD 94 rfl) rfl ?_
    refine XS.aloadN X48.here hx rfl (hD 95 rfl) rfl rfl ?_
    exact k))
  obtain ⟨T50, X50, e50, st50⟩ := getF X48 hx hZ hown (host := "") (Or.inl (hw _ (mi 174 rfl))) Via.refl e48 (W46q.fld (i := 0) rfl (j := 23) rfl rfl) (g := K49.g) rfl rfl (hD 96 rfl)
  have K51 : Rc K0 T50 (mkF m 323 #[sR r, sI 0, sR vv, sI (Int32.ofNat vc), sR pp, sI 0, sI (Int32.ofNat t2), sI (Int32.ofNat (vc + t2)), sI 0, sR bk] [(kI 1), (kI 0), (kR bo)]) := fun t k => K49 t (st50 t (by
    refine XS.iconst X50.here hx rfl (hD 97 rfl) ?_
    refine XS.isub X50.here hx rfl (hD 98 rfl) rfl ?_
    exact k))
  obtain ⟨T52, h52, L52, X52, e52, N52, W52q, st52⟩ := iasW X50 hx hZ e50 W46q N46 (i := 8) (a := bo) rfl (j := (0 : Int32)) (x := (1 : Int32)) (k := 0) (by decide) (by decide) (by decide) (g := K51.g) rfl rfl (hD 99 rfl)
  have K53 : Rc K0 T52 (mkF m 325 #[sR r, sI 0, sR vv, sI (Int32.ofNat vc), sR pp, sI 0, sI (Int32.ofNat t2), sI (Int32.ofNat (vc + t2)), sI 0, sR bk] [(kR r)]) := fun t k => K51 t (st52 t (XS.aloadN X52.here hx rfl (hD 100 rfl) rfl rfl k))
  obtain ⟨T54, X54, e54, st54⟩ := getF X52 hx hZ hown (host := "") (Or.inl (hw _ (mi 165 rfl))) Via.refl e52 (W52q.fld (i := 0) rfl (j := 20) rfl rfl) (g := K53.g) rfl rfl (hD 101 rfl)
  have K55 : Rc K0 T54 (mkF m 331 #[sR r, sI 0, sR vv, sI (Int32.ofNat vc), sR pp, sI 0, sI (Int32.ofNat t2), sI (Int32.ofNat (vc + t2)), sI 0, sR bk] [(kR r), (kI 0), (kR shf)]) := fun t k => K53 t (st54 t (by
    refine XS.iload X54.here hx rfl (hD 102 rfl) rfl ?_
    refine XS.aloadN X54.here hx rfl (hD 103 rfl) rfl rfl ?_
    exact k))
  obtain ⟨T56, X56, e56, st56⟩ := getF X54 hx hZ hown (host := "") (Or.inl (hw _ (mi 184 rfl))) Via.refl e54 (W52q.fld (i := 0) rfl (j := 24) rfl rfl) (g := K55.g) rfl rfl (hD 104 rfl)
  have K57 : Rc K0 T56 (mkF m 339 #[sR r, sI 0, sR vv, sI (Int32.ofNat vc), sR pp, sI 0, sI (Int32.ofNat t2), sI (Int32.ofNat (vc + t2)), sI 0, sR bk] [(kI (Int32.ofNat vc)), (kI 0), (kR shf)]) := fun t k => K55 t (st56 t (by
    refine XS.iloadN X56.here hx rfl (hD 105 rfl) rfl ?_
    refine XS.iadd X56.here hx rfl (hD 106 rfl) rfl ?_
    show Steps p.tables e below (T56.setTop (mkF m 336 #[sR r, sI 0, sR vv, sI (Int32.ofNat vc), sR pp, sI 0, sI (Int32.ofNat t2), sI (Int32.ofNat (vc + t2)), sI 0, sR bk] [(kI ((0 : Int32) + (Int32.ofNat vc))), (kI 0), (kR shf)])) _
    rw [Int32.zero_add]
    show Steps p.tables e below (T56.setTop (mkF m 336 #[sR r, sI 0, sR vv, sI (Int32.ofNat vc), sR pp, sI 0, sI (Int32.ofNat t2), sI (Int32.ofNat (vc + t2)), sI 0, sR bk] [(kI (Int32.ofNat vc)), (kI 0), (kR shf)])) _
    refine XS.iload X56.here hx rfl (hD 107 rfl) rfl ?_
    refine XS.isub X56.here hx rfl (hD 108 rfl) rfl ?_
    show Steps p.tables e below (T56.setTop (mkF m 339 #[sR r, sI 0, sR vv, sI (Int32.ofNat vc), sR pp, sI 0, sI (Int32.ofNat t2), sI (Int32.ofNat (vc + t2)), sI 0, sR bk] [(kI ((Int32.ofNat vc) - (0 : Int32))), (kI 0), (kR shf)])) _
    rw [Int32.sub_zero]
    exact k))
  obtain ⟨T58, h58, L58, X58, e58, N58, W58q, st58⟩ := iasW X56 hx hZ e56 W52q N52 (i := 9) (a := shf) rfl (j := (0 : Int32)) (x := (Int32.ofNat vc)) (k := 0) (by decide) (by decide) (by decide) (g := K57.g) rfl rfl (hD 109 rfl)
  have W58 : Wo n0 h58 ((r, oR Z [(kR ks), (kR rgs), (kR ns), (kR fch), (kR fk), (kR kl), (kR frg), (kR fac), (kR fcm), (kR ftr), (kR acs), (kR cms), (kR sus), (kR prb), (kI 1), (kR lr), (kI 1), (kR so), (kR nr), (kR bo), (kR shf), (kR vcn), (kR bl), (kI 2), (kI 0)]) :: (ftr, Ar Z .int 17 g_ftr) :: (fch, Ar Z .int 17 g_fch) :: (bl, Pg Z .double 4 g_bl) :: (bk, Ar Z .double 64 (cpy g_pp (cpy g_vv g_bk 0 0 vc) 0 vc t2)) :: (lr, Ar Z .int 4 (upd g_lr 0 (kI 0))) :: (so, Ar Z .int 4 (upd g_so 0 (kI 0))) :: (nr, Ar Z .int 4 (upd g_nr 0 (kI (-1)))) :: (bo, Ar Z .int 4 (upd g_bo 0 (kI 1))) :: (shf, Ar Z .int 4 (upd g_shf 0 (kI (Int32.ofNat vc)))) :: (vcn, Ar Z .int 4 g_vcn) :: (vv, Ar Z .double 3 g_vv) :: (pp, Ar Z .double 4 g_pp) :: Rr) := W58q
  have K59 : Rc K0 T58 (mkF m 341 #[sR r, sI 0, sR vv, sI (Int32.ofNat vc), sR pp, sI 0, sI (Int32.ofNat t2), sI (Int32.ofNat (vc + t2)), sI 0, sR bk] [(kR r)]) := fun t k => K57 t (st58 t (XS.aloadN X58.here hx rfl (hD 110 rfl) rfl rfl k))
  obtain ⟨T60, X60, e60, st60⟩ := getF X58 hx hZ hown (host := "") (Or.inl (hw _ (mi 167 rfl))) Via.refl e58 (W58.fld (i := 0) rfl (j := 21) rfl rfl) (g := K59.g) rfl rfl (hD 111 rfl)
  have K61 : Rc K0 T60 (mkF m 347 #[sR r, sI 0, sR vv, sI (Int32.ofNat vc), sR pp, sI 0, sI (Int32.ofNat t2), sI (Int32.ofNat (vc + t2)), sI 0, sR bk] [(kI (Int32.ofNat vc)), (kI 0), (kR vcn)]) := fun t k => K59 t (st60 t (by
    refine XS.iload X60.here hx rfl (hD 112 rfl) rfl ?_
    refine XS.iloadN X60.here hx rfl (hD 113 rfl) rfl ?_
    exact k))
  obtain ⟨T62, h62, L62, X62, e62, N62, W62q, st62⟩ := iasW X60 hx hZ e60 W58 N58 (i := 10) (a := vcn) rfl (j := (0 : Int32)) (x := (Int32.ofNat vc)) (k := 0) (by decide) (by decide) (by decide) (g := K61.g) rfl rfl (hD 114 rfl)
  have K63 : Rc K0 T62 (mkF m 350 #[sR r, sI 0, sR vv, sI (Int32.ofNat vc), sR pp, sI 0, sI (Int32.ofNat t2), sI (Int32.ofNat (vc + t2)), sI 0, sR bk] [(kR r), (kR r)]) := fun t k => K61 t (st62 t (by
    refine XS.aloadN X62.here hx rfl (hD 115 rfl) rfl rfl ?_
    refine XS.dup X62.here hx rfl (hD 116 rfl) rfl rfl ?_
    exact k))
  obtain ⟨T64, X64, e64, st64⟩ := getF X62 hx hZ hown (host := "") (Or.inl (hw _ (mi 184 rfl))) Via.refl e62 (W62q.fld (i := 0) rfl (j := 24) rfl rfl) (g := K63.g) rfl rfl (hD 117 rfl)
  have K65 : Rc K0 T64 (mkF m 356 #[sR r, sI 0, sR vv, sI (Int32.ofNat vc), sR pp, sI 0, sI (Int32.ofNat t2), sI (Int32.ofNat (vc + t2)), sI 0, sR bk] [(kI (Int32.ofNat (vc + t2))), (kR r)]) := fun t k => K63 t (st64 t (by
    refine XS.iload X64.here hx rfl (hD 118 rfl) rfl ?_
    refine XS.iadd X64.here hx rfl (hD 119 rfl) rfl ?_
    show Steps p.tables e below (T64.setTop (mkF m 356 #[sR r, sI 0, sR vv, sI (Int32.ofNat vc), sR pp, sI 0, sI (Int32.ofNat t2), sI (Int32.ofNat (vc + t2)), sI 0, sR bk] [(kI ((0 : Int32) + (Int32.ofNat (vc + t2)))), (kR r)])) _
    rw [Int32.zero_add]
    exact k))
  obtain ⟨T66, h66, L66, X66, e66, N66, W66q, st66⟩ := putW X64 hx hZ hown (host := "") (Or.inl (hw _ (mi 184 rfl))) e64 W62q N62 (own_dR hw) (Or.inl (hw _ (mi 185 rfl))) (hw _ (mi 6 rfl)) (ty := .int) (by decide +kernel) (i := 0) (a := r) rfl (j := 24) rfl rfl (v := (.int (Int32.ofNat (vc + t2)))) rfl rfl (g := K65.g) rfl rfl (hD 120 rfl)
  have K67 : Rc K0 T66 (mkF m 361 #[sR r, sI 0, sR vv, sI (Int32.ofNat vc), sR pp, sI 0, sI (Int32.ofNat t2), sI (Int32.ofNat (vc + t2)), sI 0, sR bk] [(kI 0)]) := fun t k => K65 t (st66 t (XS.iload X66.here hx rfl (hD 121 rfl) rfl k))
  obtain ⟨fs, hr, hrun, hended, hWm, hsame⟩ := X66.leave (v := some (.int (0 : Int32))) (fun h => by rw [Bd.returns] at h; cases h)
  refine ⟨_, _, pre0 _ (K67 _ (retI X66 hx Bd.returns (hD 122 rfl) hr)), hrun, hended, _, _, rfl, ?_, ⟨_, rfl⟩, hWm, hsame.mono (by decide) (by decide)⟩
  show QrmPL00 Z r ks rgs ns fch fk kl frg fac fcm ftr acs cms sus prb lr so nr bo shf vcn bl bk vv pp vc t2 g_ftr g_fch g_bl g_bk g_lr g_so g_nr g_bo g_shf g_vcn g_vv g_pp Rr n0 _ T66.heap _
  rw [e66]
  exact ⟨rfl, N66, W66q⟩
theorem ef_rmPL11 (m : MethodId) (r ks rgs ns fch fk kl frg fac fcm ftr acs cms sus prb : Addr) (lr so nr bo shf vcn bl bk vv pp : Addr) (vc t2 : Nat) (g_ftr g_fch g_bl g_bk g_lr g_so g_nr g_bo g_shf g_vcn g_vv g_pp : Nat → Value) : entryFrame m #[(.ref r), (.int (1 : Int32)), (.ref vv), (.int (Int32.ofNat vc)), (.ref pp)] 10 = mkF m 0 #[.val (.ref r), .val (.int (1 : Int32)), .val (.ref vv), .val (.int (Int32.ofNat vc)), .val (.ref pp), .unset, .unset, .unset, .unset, .unset] [] := by first | (simp [entryFrame, mkF, argsToLocals, Value.category]; done) | rfl
def QrmPL11 (Z : State) (r ks rgs ns fch fk kl frg fac fcm ftr acs cms sus prb : Addr) (lr so nr bo shf vcn bl bk vv pp : Addr) (vc t2 : Nat) (g_ftr g_fch g_bl g_bk g_lr g_so g_nr g_bo g_shf g_vcn g_vv g_pp : Nat → Value) (Rr : List (Addr × (Cell → Prop))) (n0 : Nat) (v : Option Value) (h : Heap) (L : List Loc) : Prop := v = some (.int (1 : Int32)) ∧ Fr n0 L ∧ Wo n0 h ((r, oR Z [(kR ks), (kR rgs), (kR ns), (kR fch), (kR fk), (kR kl), (kR frg), (kR fac), (kR fcm), (kR ftr), (kR acs), (kR cms), (kR sus), (kR prb), (kI 2), (kR lr), (kI 2), (kR so), (kR nr), (kR bo), (kR shf), (kR vcn), (kR bl), (kI 2), (kI (Int32.ofNat vc))]) :: (ftr, Ar Z .int 17 g_ftr) :: (fch, Ar Z .int 17 g_fch) :: (bl, Pg Z .double 4 g_bl) :: (bk, Ar Z .double 64 (cpy g_pp (cpy g_vv g_bk 0 0 vc) 0 vc 0)) :: (lr, Ar Z .int 4 (upd g_lr 1 (kI 1))) :: (so, Ar Z .int 4 (upd g_so 1 (kI 1))) :: (nr, Ar Z .int 4 (upd g_nr 1 (kI (-1)))) :: (bo, Ar Z .int 4 (upd g_bo 1 (kI 1))) :: (shf, Ar Z .int 4 (upd g_shf 1 (kI ((Int32.ofNat vc) - (Int32.ofNat t2))))) :: (vcn, Ar Z .int 4 (upd g_vcn 1 (kI (Int32.ofNat vc)))) :: (vv, Ar Z .double 3 g_vv) :: (pp, Ar Z .double 4 g_pp) :: Rr)
set_option maxRecDepth 65536 in
set_option maxHeartbeats 40000000 in
theorem rmPL11 (l : Launch) (Z : State) (a0 : Array Value) (hw : ∀ d ∈ tables_1, d.before a0 Z = true) (ws : List Jvm.Cond) (r ks rgs ns fch fk kl frg fac fcm ftr acs cms sus prb : Addr) (lr so nr bo shf vcn bl bk vv pp : Addr) (vc t2 : Nat) (g_ftr g_fch g_bl g_bk g_lr g_so g_nr g_bo g_shf g_vcn g_vv g_pp : Nat → Value) (Rr : List (Addr × (Cell → Prop))) (h0 : Heap) (n0 : Nat) (W0 : Wo n0 h0 ((r, oR Z [(kR ks), (kR rgs), (kR ns), (kR fch), (kR fk), (kR kl), (kR frg), (kR fac), (kR fcm), (kR ftr), (kR acs), (kR cms), (kR sus), (kR prb), (kI 2), (kR lr), (kI 1), (kR so), (kR nr), (kR bo), (kR shf), (kR vcn), (kR bl), (kI 2), (kI 0)]) :: (ftr, Ar Z .int 17 g_ftr) :: (fch, Ar Z .int 17 g_fch) :: (bl, Pg Z .double 4 g_bl) :: (bk, Ar Z .double 64 g_bk) :: (lr, Ar Z .int 4 g_lr) :: (so, Ar Z .int 4 g_so) :: (nr, Ar Z .int 4 g_nr) :: (bo, Ar Z .int 4 g_bo) :: (shf, Ar Z .int 4 g_shf) :: (vcn, Ar Z .int 4 g_vcn) :: (vv, Ar Z .double 3 g_vv) :: (pp, Ar Z .double 4 g_pp) :: Rr)) (hc3 : vc ≤ 3) (ht3 : t2 ≤ 3) (h_ftr2 : g_ftr 2 = (.int (Int32.ofNat t2))) (h_fch1 : g_fch 1 = (.int (2 : Int32))) (h_fch2 : g_fch 2 = (.int (2 : Int32))) (h5 : g_bl 1 = .ref bk) (h6 : g_lr 1 = .int (-1 : Int32)) :
    MetFree l y_pl (head1 (Jvm.Cond.code y_pl prog_87_method_5_code 10 (some .int) :: ws) ({ frames := 1, cells := 0, slots := 0, locals := 18 } : Room)) (fun aa U => aa = #[(.ref r), (.int (1 : Int32)), (.ref vv), (.int (Int32.ofNat vc)), (.ref pp)] ∧ Z.Warmed39 U.vm ∧ U.heap = h0) (fun _ _ _ _ _ => True) (fun _ U ou U' => ∃ v L, ou = .returned v ∧ QrmPL11 Z r ks rgs ns fch fk kl frg fac fcm ftr acs cms sus prb lr so nr bo shf vcn bl bk vv pp vc t2 g_ftr g_fch g_bl g_bk g_lr g_so g_nr g_bo g_shf g_vcn g_vv g_pp Rr n0 v U'.heap L ∧ FrameEnd U ou U' L ({ frames := 1, cells := 0, slots := 0, locals := 18 } : Room).cells ({ frames := 1, cells := 0, slots := 0, locals := 18 } : Room).slots) := by
  refine MetFree.of_bodySF (plainFor_of_name pn_Rows) hisR ?_
  intro p e s m args below meth c s₁ Bd hml0 hP hK
  obtain ⟨rfl, hZ, hh⟩ := hP
  have hx := Bd.exec
  have hby := Bd.bytes
  have hml : c.maxLocals = 10 := hml0
  have hD : ∀ (k : Nat) {pc : Nat} {i : Instr} {n : Nat}, Ld_pl[k]? = some (pc, i, n) → decode c.code pc = .ok (i, n) := by intro k pc i n h; exact hb hby (d_pl (pc, i, n) (mi k h))
  have hown : s.vm.findClass "com/example/sambre/sambre/engine/Rows" = some m.cls := findClass_of_methodNamed Bd.named
  have hnm := (name_of_methodNamed Bd.named Bd.method).1
  have X0 : Stand p l e ({ frames := 1, cells := 0, slots := 0, locals := 18 } : Room) s m #[(.ref r), (.int (1 : Int32)), (.ref vv), (.int (Int32.ofNat vc)), (.ref pp)] below meth c s₁ [] 0 0 := Stand.of_body Bd
  have e0 : s₁.heap = h0 := by rw [← hh, Bd.state]; rfl
  have N0 := Fr.nil n0
  obtain ⟨F0, hF0⟩ : ∃ F, F = mkF m 0 #[.val (.ref r), .val (.int (1 : Int32)), .val (.ref vv), .val (.int (Int32.ofNat vc)), .val (.ref pp), .unset, .unset, .unset, .unset, .unset] [] := ⟨_, rfl⟩
  have pre0 : ∀ t, Steps p.tables e below (s₁.setTop F0) t → Steps p.tables e below (s₁.setTop (entryFrame m #[(.ref r), (.int (1 : Int32)), (.ref vv), (.int (Int32.ofNat vc)), (.ref pp)] 10)) t := fun t k => castTop ((ef_rmPL11 m r ks rgs ns fch fk kl frg fac fcm ftr acs cms sus prb lr so nr bo shf vcn bl bk vv pp vc t2 g_ftr g_fch g_bl g_bk g_lr g_so g_nr g_bo g_shf g_vcn g_vv g_pp).trans hF0.symm) k
  have K0 : Rch p e below s₁ F0 s₁ (mkF m 0 #[.val (.ref r), .val (.int (1 : Int32)), .val (.ref vv), .val (.int (Int32.ofNat vc)), .val (.ref pp), .unset, .unset, .unset, .unset, .unset] []) := fun t k => castTop hF0 k
  have K1 : Rc K0 s₁ (mkF m 1 #[sR r, sI 1, sR vv, sI (Int32.ofNat vc), sR pp, sU, sU, sU, sU, sU] [(kR r)]) := fun t k => K0 t (XS.aloadN X0.here hx rfl (hD 0 rfl) rfl rfl k)
  obtain ⟨T2, X2, e2, st2⟩ := getF X0 hx hZ hown (host := "") (Or.inl (hw _ (mi 32 rfl))) Via.refl e0 (W0.fld (i := 0) rfl (j := 9) rfl rfl) (g := K1.g) rfl rfl (hD 1 rfl)
  have K3 : Rc K0 T2 (mkF m 5 #[sR r, sI 1, sR vv, sI (Int32.ofNat vc), sR pp, sU, sU, sU, sU, sU] [(kR r), (kR ftr)]) := fun t k => K1 t (st2 t (XS.aloadN X2.here hx rfl (hD 2 rfl) rfl rfl k))
  obtain ⟨T4, X4, e4, st4⟩ := getF X2 hx hZ hown (host := "") (Or.inl (hw _ (mi 20 rfl))) Via.refl e2 (W0.fld (i := 0) rfl (j := 3) rfl rfl) (g := K3.g) rfl rfl (hD 3 rfl)
  have K5 : Rc K0 T4 (mkF m 14 #[sR r, sI 1, sR vv, sI (Int32.ofNat vc), sR pp, sI (Int32.ofNat t2), sU, sU, sU, sU] [(kR r)]) := fun t k => K3 t (st4 t (by
    refine XS.iloadN X4.here hx rfl (hD 4 rfl) rfl ?_
    refine ialW X4 hx hZ e4 W0 (i := 2) rfl (j := (1 : Int32)) (k := 1) (by decide) (by decide) (by decide) (v := (.int (2 : Int32))) h_fch1 (g := (mkF m 9 #[sR r, sI 1, sR vv, sI (Int32.ofNat vc), sR pp, sU, sU, sU, sU, sU] [(kI 1), (kR fch), (kR ftr)])) rfl rfl (hD 5 rfl) _ ?_
    refine ialW X4 hx hZ e4 W0 (i := 1) rfl (j := (2 : Int32)) (k := 2) (by decide) (by decide) (by decide) (v := (.int (Int32.ofNat t2))) h_ftr2 (g := (mkF m 10 #[sR r, sI 1, sR vv, sI (Int32.ofNat vc), sR pp, sU, sU, sU, sU, sU] [(kI 2), (kR ftr)])) rfl rfl (hD 6 rfl) _ ?_
    refine XS.istore X4.here hx rfl (hD 7 rfl) rfl (l' := #[sR r, sI 1, sR vv, sI (Int32.ofNat vc), sR pp, sI (Int32.ofNat t2), sU, sU, sU, sU]) rfl ?_
    refine XS.aloadN X4.here hx rfl (hD 8 rfl) rfl rfl ?_
    exact k))
  obtain ⟨T6, X6, e6, st6⟩ := getF X4 hx hZ hown (host := "") (Or.inl (hw _ (mi 32 rfl))) Via.refl e4 (W0.fld (i := 0) rfl (j := 9) rfl rfl) (g := K5.g) rfl rfl (hD 9 rfl)
  have K7 : Rc K0 T6 (mkF m 18 #[sR r, sI 1, sR vv, sI (Int32.ofNat vc), sR pp, sI (Int32.ofNat t2), sU, sU, sU, sU] [(kR r), (kR ftr)]) := fun t k => K5 t (st6 t (XS.aloadN X6.here hx rfl (hD 10 rfl) rfl rfl k))
  obtain ⟨T8, X8, e8, st8⟩ := getF X6 hx hZ hown (host := "") (Or.inl (hw _ (mi 20 rfl))) Via.refl e6 (W0.fld (i := 0) rfl (j := 3) rfl rfl) (g := K7.g) rfl rfl (hD 11 rfl)
  have K9 : Rc K0 T8 (mkF m 38 #[sR r, sI 1, sR vv, sI (Int32.ofNat vc), sR pp, sI (Int32.ofNat t2), sI 0, sI (Int32.ofNat vc), sU, sU] [(kR r)]) := fun t k => K7 t (st8 t (by
    refine XS.iloadN X8.here hx rfl (hD 12 rfl) rfl ?_
    refine XS.iconst X8.here hx rfl (hD 13 rfl) ?_
    refine XS.iadd X8.here hx rfl (hD 14 rfl) rfl ?_
    refine ialW X8 hx hZ e8 W0 (i := 2) rfl (j := (2 : Int32)) (k := 2) (by decide) (by decide) (by decide) (v := (.int (2 : Int32))) h_fch2 (g := (mkF m 24 #[sR r, sI 1, sR vv, sI (Int32.ofNat vc), sR pp, sI (Int32.ofNat t2), sU, sU, sU, sU] [(kI 2), (kR fch), (kR ftr)])) rfl rfl (hD 15 rfl) _ ?_
    refine ialW X8 hx hZ e8 W0 (i := 1) rfl (j := (2 : Int32)) (k := 2) (by decide) (by decide) (by decide) (v := (.int (Int32.ofNat t2))) h_ftr2 (g := (mkF m 25 #[sR r, sI 1, sR vv, sI (Int32.ofNat vc), sR pp, sI (Int32.ofNat t2), sU, sU, sU, sU] [(kI 2), (kR ftr)])) rfl rfl (hD 16 rfl) _ ?_
    refine XS.iload X8.here hx rfl (hD 17 rfl) rfl ?_
    refine XS.isub X8.here hx rfl (hD 18 rfl) rfl ?_
    show Steps p.tables e below (T8.setTop (mkF m 29 #[sR r, sI 1, sR vv, sI (Int32.ofNat vc), sR pp, sI (Int32.ofNat t2), sU, sU, sU, sU] [(kI ((Int32.ofNat t2) - (Int32.ofNat t2)))])) _
    rw [Int32.sub_self]
    show Steps p.tables e below (T8.setTop (mkF m 29 #[sR r, sI 1, sR vv, sI (Int32.ofNat vc), sR pp, sI (Int32.ofNat t2), sU, sU, sU, sU] [(kI 0)])) _
    refine XS.istore X8.here hx rfl (hD 19 rfl) rfl (l' := #[sR r, sI 1, sR vv, sI (Int32.ofNat vc), sR pp, sI (Int32.ofNat t2), sI 0, sU, sU, sU]) rfl ?_
    refine XS.iloadN X8.here hx rfl (hD 20 rfl) rfl ?_
    refine XS.iload X8.here hx rfl (hD 21 rfl) rfl ?_
    refine XS.iadd X8.here hx rfl (hD 22 rfl) rfl ?_
    show Steps p.tables e below (T8.setTop (mkF m 35 #[sR r, sI 1, sR vv, sI (Int32.ofNat vc), sR pp, sI (Int32.ofNat t2), sI 0, sU, sU, sU] [(kI ((Int32.ofNat vc) + (0 : Int32)))])) _
    rw [Int32.add_zero]
    show Steps p.tables e below (T8.setTop (mkF m 35 #[sR r, sI 1, sR vv, sI (Int32.ofNat vc), sR pp, sI (Int32.ofNat t2), sI 0, sU, sU, sU] [(kI (Int32.ofNat vc))])) _
    refine XS.istore X8.here hx rfl (hD 23 rfl) rfl (l' := #[sR r, sI 1, sR vv, sI (Int32.ofNat vc), sR pp, sI (Int32.ofNat t2), sI 0, sI (Int32.ofNat vc), sU, sU]) rfl ?_
    refine XS.aloadN X8.here hx rfl (hD 24 rfl) rfl rfl ?_
    exact k))
  obtain ⟨T10, X10, e10, st10⟩ := getF X8 hx hZ hown (host := "") (Or.inl (hw _ (mi 184 rfl))) Via.refl e8 (W0.fld (i := 0) rfl (j := 24) rfl rfl) (g := K9.g) rfl rfl (hD 25 rfl)
  have K11 : Rc K0 T10 (mkF m 45 #[sR r, sI 1, sR vv, sI (Int32.ofNat vc), sR pp, sI (Int32.ofNat t2), sI 0, sI (Int32.ofNat vc), sU, sU] [(kR r), (kI (Int32.ofNat vc))]) := fun t k => K9 t (st10 t (by
    refine XS.iload X10.here hx rfl (hD 26 rfl) rfl ?_
    refine XS.iadd X10.here hx rfl (hD 27 rfl) rfl ?_
    show Steps p.tables e below (T10.setTop (mkF m 44 #[sR r, sI 1, sR vv, sI (Int32.ofNat vc), sR pp, sI (Int32.ofNat t2), sI 0, sI (Int32.ofNat vc), sU, sU] [(kI ((0 : Int32) + (Int32.ofNat vc)))])) _
    rw [Int32.zero_add]
    show Steps p.tables e below (T10.setTop (mkF m 44 #[sR r, sI 1, sR vv, sI (Int32.ofNat vc), sR pp, sI (Int32.ofNat t2), sI 0, sI (Int32.ofNat vc), sU, sU] [(kI (Int32.ofNat vc))])) _
    refine XS.aloadN X10.here hx rfl (hD 28 rfl) rfl rfl ?_
    exact k))
  obtain ⟨T12, X12, e12, st12⟩ := getF X10 hx hZ hown (host := "") (Or.inl (hw _ (mi 171 rfl))) Via.refl e10 (W0.fld (i := 0) rfl (j := 22) rfl rfl) (g := K11.g) rfl rfl (hD 29 rfl)
  have K13 : Rc K0 T12 (mkF m 49 #[sR r, sI 1, sR vv, sI (Int32.ofNat vc), sR pp, sI (Int32.ofNat t2), sI 0, sI (Int32.ofNat vc), sU, sU] [(kR r), (kR bl), (kI (Int32.ofNat vc))]) := fun t k => K11 t (st12 t (XS.aloadN X12.here hx rfl (hD 30 rfl) rfl rfl k))
  obtain ⟨T14, X14, e14, st14⟩ := getF X12 hx hZ hown (host := "") (Or.inl (hw _ (mi 174 rfl))) Via.refl e12 (W0.fld (i := 0) rfl (j := 23) rfl rfl) (g := K13.g) rfl rfl (hD 31 rfl)
  have K15 : Rc K0 T14 (mkF m 145 #[sR r, sI 1, sR vv, sI (Int32.ofNat vc), sR pp, sI (Int32.ofNat t2), sI 0, sI (Int32.ofNat vc), sU, sU] [(kR r), (kR r)]) := fun t k => K13 t (st14 t (by
    refine XS.iconst X14.here hx rfl (hD 32 rfl) ?_
    refine XS.isub X14.here hx rfl (hD 33 rfl) rfl ?_
    refine aalW X14 hx hZ e14 W0 (i := 3) rfl (fun _ q => q.1) rfl (j := (1 : Int32)) (k := 1) (by decide) (by decide) (by decide) (v := (.ref bk)) h5 (g := (mkF m 54 #[sR r, sI 1, sR vv, sI (Int32.ofNat vc), sR pp, sI (Int32.ofNat t2), sI 0, sI (Int32.ofNat vc), sU, sU] [(kI 1), (kR bl), (kI (Int32.ofNat vc))])) rfl rfl (hD 34 rfl) _ ?_
    refine lenW X14 hx hZ e14 W0 (i := 4) rfl (fun _ q => q) (z := (64 : Int32)) (by decide) (g := (mkF m 55 #[sR r, sI 1, sR vv, sI (Int32.ofNat vc), sR pp, sI (Int32.ofNat t2), sI 0, sI (Int32.ofNat vc), sU, sU] [(kR bk), (kI (Int32.ofNat vc))])) rfl rfl (hD 35 rfl) _ ?_
    refine XS.icmpYes X14.here hx rfl (pc0 := 56) (pc' := 143) rfl (hD 36 rfl) rfl (flt (own_nlt (a := 64) (b := vc) (by omega) (by decide))).2.2.2 (by decide) (by decide) ?_
    refine XS.aloadN X14.here hx rfl (hD 37 rfl) rfl rfl ?_
    refine XS.dup X14.here hx rfl (hD 38 rfl) rfl rfl ?_
    exact k))
  obtain ⟨T16, X16, e16, st16⟩ := getF X14 hx hZ hown (host := "") (Or.inl (hw _ (mi 122 rfl))) Via.refl e14 (W0.fld (i := 0) rfl (j := 16) rfl rfl) (g := K15.g) rfl rfl (hD 39 rfl)
  have K17 : Rc K0 T16 (mkF m 151 #[sR r, sI 1, sR vv, sI (Int32.ofNat vc), sR pp, sI (Int32.ofNat t2), sI 0, sI (Int32.ofNat vc), sU, sU] [(kI 2), (kR r), (kI 1)]) := fun t k => K15 t (st16 t (by
    refine XS.dupX1 X16.here hx rfl (hD 40 rfl) rfl rfl rfl ?_
    refine XS.iconst X16.here hx rfl (hD 41 rfl) ?_
    refine XS.iadd X16.here hx rfl (hD 42 rfl) rfl ?_
    exact k))
  obtain ⟨T18, h18, L18, X18, e18, N18, W18q, st18⟩ := putW X16 hx hZ hown (host := "") (Or.inl (hw _ (mi 122 rfl))) e16 W0 N0 (own_dR hw) (Or.inl (hw _ (mi 123 rfl))) (hw _ (mi 6 rfl)) (ty := .int) (by decide +kernel) (i := 0) (a := r) rfl (j := 16) rfl rfl (v := (.int (2 : Int32))) rfl rfl (g := K17.g) rfl rfl (hD 43 rfl)
  have K19 : Rc K0 T18 (mkF m 159 #[sR r, sI 1, sR vv, sI (Int32.ofNat vc), sR pp, sI (Int32.ofNat t2), sI 0, sI (Int32.ofNat vc), sI 1, sU] [(kR r), (kI 1)]) := fun t k => K17 t (st18 t (by
    refine XS.istore X18.here hx rfl (hD 44 rfl) rfl (l' := #[sR r, sI 1, sR vv, sI (Int32.ofNat vc), sR pp, sI (Int32.ofNat t2), sI 0, sI (Int32.ofNat vc), sI 1, sU]) rfl ?_
    refine XS.iload X18.here hx rfl (hD 45 rfl) rfl ?_
    refine XS.aloadN X18.here hx rfl (hD 46 rfl) rfl rfl ?_
    exact k))
  obtain ⟨T20, X20, e20, st20⟩ := getF X18 hx hZ hown (host := "") (Or.inl (hw _ (mi 129 rfl))) Via.refl e18 (W18q.fld (i := 0) rfl (j := 17) rfl rfl) (g := K19.g) rfl rfl (hD 47 rfl)
  have K21 : Rc K0 T20 (mkF m 242 #[sR r, sI 1, sR vv, sI (Int32.ofNat vc), sR pp, sI (Int32.ofNat t2), sI 0, sI (Int32.ofNat vc), sI 1, sU] [(kR r)]) := fun t k => K19 t (st20 t (by
    refine lenW X20 hx hZ e20 W18q (i := 6) rfl (fun _ q => q) (z := (4 : Int32)) (by decide) (g := (mkF m 162 #[sR r, sI 1, sR vv, sI (Int32.ofNat vc), sR pp, sI (Int32.ofNat t2), sI 0, sI (Int32.ofNat vc), sI 1, sU] [(kR so), (kI 1)])) rfl rfl (hD 48 rfl) _ ?_
    refine XS.icmpYes X20.here hx rfl (pc0 := 163) (pc' := 241) rfl (hD 49 rfl) rfl (by decide) (by decide) (by decide) ?_
    refine XS.aloadN X20.here hx rfl (hD 50 rfl) rfl rfl ?_
    exact k))
  obtain ⟨T22, X22, e22, st22⟩ := getF X20 hx hZ hown (host := "") (Or.inl (hw _ (mi 171 rfl))) Via.refl e20 (W18q.fld (i := 0) rfl (j := 22) rfl rfl) (g := K21.g) rfl rfl (hD 51 rfl)
  have K23 : Rc K0 T22 (mkF m 246 #[sR r, sI 1, sR vv, sI (Int32.ofNat vc), sR pp, sI (Int32.ofNat t2), sI 0, sI (Int32.ofNat vc), sI 1, sU] [(kR r), (kR bl)]) := fun t k => K21 t (st22 t (XS.aloadN X22.here hx rfl (hD 52 rfl) rfl rfl k))
  obtain ⟨T24, X24, e24, st24⟩ := getF X22 hx hZ hown (host := "") (Or.inl (hw _ (mi 174 rfl))) Via.refl e22 (W18q.fld (i := 0) rfl (j := 23) rfl rfl) (g := K23.g) rfl rfl (hD 53 rfl)
  have K25 : Rc K0 T24 (mkF m 259 #[sR r, sI 1, sR vv, sI (Int32.ofNat vc), sR pp, sI (Int32.ofNat t2), sI 0, sI (Int32.ofNat vc), sI 1, sR bk] [(kR r), (kR bk), (kI 0), (kR vv)]) := fun t k => K23 t (st24 t (by
    refine XS.iconst X24.here hx rfl (hD 54 rfl) ?_
    refine XS.isub X24.here hx rfl (hD 55 rfl) rfl ?_
    refine aalW X24 hx hZ e24 W18q (i := 3) rfl (fun _ q => q.1) rfl (j := (1 : Int32)) (k := 1) (by decide) (by decide) (by decide) (v := (.ref bk)) h5 (g := (mkF m 251 #[sR r, sI 1, sR vv, sI (Int32.ofNat vc), sR pp, sI (Int32.ofNat t2), sI 0, sI (Int32.ofNat vc), sI 1, sU] [(kI 1), (kR bl)])) rfl rfl (hD 56 rfl) _ ?_
    refine XS.astore X24.here hx rfl (hD 57 rfl) rfl rfl (l' := #[sR r, sI 1, sR vv, sI (Int32.ofNat vc), sR pp, sI (Int32.ofNat t2), sI 0, sI (Int32.ofNat vc), sI 1, sR bk]) rfl ?_
    refine XS.aloadN X24.here hx rfl (hD 58 rfl) rfl rfl ?_
    refine XS.iconst X24.here hx rfl (hD 59 rfl) ?_
    refine XS.aload X24.here hx rfl (hD 60 rfl) rfl rfl ?_
    refine XS.aloadN X24.here hx rfl (hD 61 rfl) rfl rfl ?_
    exact k))
  obtain ⟨T26, X26, e26, st26⟩ := getF X24 hx hZ hown (host := "") (Or.inl (hw _ (mi 184 rfl))) Via.refl e24 (W18q.fld (i := 0) rfl (j := 24) rfl rfl) (g := K25.g) rfl rfl (hD 62 rfl)
  have K27 : Rc K0 T26 (mkF m 263 #[sR r, sI 1, sR vv, sI (Int32.ofNat vc), sR pp, sI (Int32.ofNat t2), sI 0, sI (Int32.ofNat vc), sI 1, sR bk] [(kI (Int32.ofNat vc)), (kI 0), (kR bk), (kI 0), (kR vv)]) := fun t k => K25 t (st26 t (XS.iloadN X26.here hx rfl (hD 63 rfl) rfl k))
  obtain ⟨T28, h28, L28, X28, e28, N28, W28q, st28⟩ := cpW X26 hx hZ hown (hw _ (mi 115 rfl)) (hw _ (mi 118 rfl)) (hw _ (mi 116 rfl)) (hw _ (mi 117 rfl)) e26 W18q N18 (i := 11) (j := 4) rfl rfl rfl (sp := (0 : Int32)) (dp := (0 : Int32)) (nn := (Int32.ofNat vc)) (s' := 0) (d' := 0) (k' := vc) (by decide) (by decide) (own_nn (by omega)) (by decide) (by decide) (own_tn (by omega)) (by omega) (by omega) (g := K27.g) rfl (by rw [hml]; rfl) (rest := []) rfl (hD 64 rfl) (by decide) (W0 := 0) (by show 2 * 0 + _ ≤ _; exact Nat.le_of_eq rfl) (by decide)
  have K29 : Rc K0 T28 (mkF m 272 #[sR r, sI 1, sR vv, sI (Int32.ofNat vc), sR pp, sI (Int32.ofNat t2), sI 0, sI (Int32.ofNat vc), sI 1, sR bk] [(kR r), (kR bk), (kI 0), (kR pp)]) := fun t k => K27 t (st28 t (by
    refine XS.aload X28.here hx rfl (hD 65 rfl) rfl rfl ?_
    refine XS.iconst X28.here hx rfl (hD 66 rfl) ?_
    refine XS.aload X28.here hx rfl (hD 67 rfl) rfl rfl ?_
    refine XS.aloadN X28.here hx rfl (hD 68 rfl) rfl rfl ?_
    exact k))
  obtain ⟨T30, X30, e30, st30⟩ := getF X28 hx hZ hown (host := "") (Or.inl (hw _ (mi 184 rfl))) Via.refl e28 (W28q.fld (i := 0) rfl (j := 24) rfl rfl) (g := K29.g) rfl rfl (hD 69 rfl)
  have K31 : Rc K0 T30 (mkF m 279 #[sR r, sI 1, sR vv, sI (Int32.ofNat vc), sR pp, sI (Int32.ofNat t2), sI 0, sI (Int32.ofNat vc), sI 1, sR bk] [(kI 0), (kI (Int32.ofNat vc)), (kR bk), (kI 0), (kR pp)]) := fun t k => K29 t (st30 t (by
    refine XS.iloadN X30.here hx rfl (hD 70 rfl) rfl ?_
    refine XS.iadd X30.here hx rfl (hD 71 rfl) rfl ?_
    show Steps p.tables e below (T30.setTop (mkF m 277 #[sR r, sI 1, sR vv, sI (Int32.ofNat vc), sR pp, sI (Int32.ofNat t2), sI 0, sI (Int32.ofNat vc), sI 1, sR bk] [(kI ((0 : Int32) + (Int32.ofNat vc))), (kR bk), (kI 0), (kR pp)])) _
    rw [Int32.zero_add]
    show Steps p.tables e below (T30.setTop (mkF m 277 #[sR r, sI 1, sR vv, sI (Int32.ofNat vc), sR pp, sI (Int32.ofNat t2), sI 0, sI (Int32.ofNat vc), sI 1, sR bk] [(kI (Int32.ofNat vc)), (kR bk), (kI 0), (kR pp)])) _
    refine XS.iload X30.here hx rfl (hD 72 rfl) rfl ?_
    exact k))
  obtain ⟨T32, h32, L32, X32, e32, N32, W32q, st32⟩ := cpW X30 hx hZ hown (hw _ (mi 115 rfl)) (hw _ (mi 118 rfl)) (hw _ (mi 116 rfl)) (hw _ (mi 117 rfl)) e30 W28q N28 (i := 12) (j := 4) rfl rfl rfl (sp := (0 : Int32)) (dp := (Int32.ofNat vc)) (nn := (0 : Int32)) (s' := 0) (d' := vc) (k' := 0) (by decide) (own_nn (by omega)) (by decide) (by decide) (own_tn (by omega)) (by decide) (by omega) (by omega) (g := K31.g) rfl (by rw [hml]; rfl) (rest := []) rfl (hD 73 rfl) (by decide) (W0 := 0) (by show 2 * 0 + _ ≤ _; exact Nat.le_of_eq rfl) (by decide)
  have K33 : Rc K0 T32 (mkF m 283 #[sR r, sI 1, sR vv, sI (Int32.ofNat vc), sR pp, sI (Int32.ofNat t2), sI 0, sI (Int32.ofNat vc), sI 1, sR bk] [(kR r)]) := fun t k => K31 t (st32 t (XS.aloadN X32.here hx rfl (hD 74 rfl) rfl rfl k))
  obtain ⟨T34, X34, e34, st34⟩ := getF X32 hx hZ hown (host := "") (Or.inl (hw _ (mi 129 rfl))) Via.refl e32 (W32q.fld (i := 0) rfl (j := 17) rfl rfl) (g := K33.g) rfl rfl (hD 75 rfl)
  have K35 : Rc K0 T34 (mkF m 289 #[sR r, sI 1, sR vv, sI (Int32.ofNat vc), sR pp, sI (Int32.ofNat t2), sI 0, sI (Int32.ofNat vc), sI 1, sR bk] [(kI 1), (kI 1), (kR so)]) := fun t k => K33 t (st34 t (by
    refine XS.iload X34.here hx rfl (hD 76 rfl) rfl ?_
    refine XS.iloadN X34.here hx rfl (hD 77 rfl) rfl ?_
    exact k))
  obtain ⟨T36, h36, L36, X36, e36, N36, W36q, st36⟩ := iasW X34 hx hZ e34 W32q N32 (i := 6) (a := so) rfl (j := (1 : Int32)) (x := (1 : Int32)) (k := 1) (by decide) (by decide) (by decide) (g := K35.g) rfl rfl (hD 78 rfl)
  have W36 : Wo n0 h36 ((r, oR Z [(kR ks), (kR rgs), (kR ns), (kR fch), (kR fk), (kR kl), (kR frg), (kR fac), (kR fcm), (kR ftr), (kR acs), (kR cms), (kR sus), (kR prb), (kI 2), (kR lr), (kI 2), (kR so), (kR nr), (kR bo), (kR shf), (kR vcn), (kR bl), (kI 2), (kI 0)]) :: (ftr, Ar Z .int 17 g_ftr) :: (fch, Ar Z .int 17 g_fch) :: (bl, Pg Z .double 4 g_bl) :: (bk, Ar Z .double 64 (cpy g_pp (cpy g_vv g_bk 0 0 vc) 0 vc 0)) :: (lr, Ar Z .int 4 g_lr) :: (so, Ar Z .int 4 (upd g_so 1 (kI 1))) :: (nr, Ar Z .int 4 g_nr) :: (bo, Ar Z .int 4 g_bo) :: (shf, Ar Z .int 4 g_shf) :: (vcn, Ar Z .int 4 g_vcn) :: (vv, Ar Z .double 3 g_vv) :: (pp, Ar Z .double 4 g_pp) :: Rr) := W36q
  have K37 : Rc K0 T36 (mkF m 291 #[sR r, sI 1, sR vv, sI (Int32.ofNat vc), sR pp, sI (Int32.ofNat t2), sI 0, sI (Int32.ofNat vc), sI 1, sR bk] [(kR r)]) := fun t k => K35 t (st36 t (XS.aloadN X36.here hx rfl (hD 79 rfl) rfl rfl k))
  obtain ⟨T38, X38, e38, st38⟩ := getF X36 hx hZ hown (host := "") (Or.inl (hw _ (mi 161 rfl))) Via.refl e36 (W36.fld (i := 0) rfl (j := 18) rfl rfl) (g := K37.g) rfl rfl (hD 80 rfl)
  have K39 : Rc K0 T38 (mkF m 297 #[sR r, sI 1, sR vv, sI (Int32.ofNat vc), sR pp, sI (Int32.ofNat t2), sI 0, sI (Int32.ofNat vc), sI 1, sR bk] [(kR r), (kI 1), (kR nr)]) := fun t k => K37 t (st38 t (by
    refine XS.iload X38.here hx rfl (hD 81 rfl) rfl ?_
    refine XS.aloadN X38.here hx rfl (hD 82 rfl) rfl rfl ?_
    exact k))
  obtain ⟨T40, X40, e40, st40⟩ := getF X38 hx hZ hown (host := "") (Or.inl (hw _ (mi 105 rfl))) Via.refl e38 (W36.fld (i := 0) rfl (j := 15) rfl rfl) (g := K39.g) rfl rfl (hD 83 rfl)
  have K41 : Rc K0 T40 (mkF m 302 #[sR r, sI 1, sR vv, sI (Int32.ofNat vc), sR pp, sI (Int32.ofNat t2), sI 0, sI (Int32.ofNat vc), sI 1, sR bk] [(kI (-1)), (kI 1), (kR nr)]) := fun t k => K39 t (st40 t (by
    refine XS.iloadN X40.here hx rfl (hD 84 rfl) rfl ?_
    refine ialW X40 hx hZ e40 W36 (i := 5) rfl (j := (1 : Int32)) (k := 1) (by decide) (by decide) (by decide) (v := (.int (-1 : Int32))) h6 (g := (mkF m 301 #[sR r, sI 1, sR vv, sI (Int32.ofNat vc), sR pp, sI (Int32.ofNat t2), sI 0, sI (Int32.ofNat vc), sI 1, sR bk] [(kI 1), (kR lr), (kI 1), (kR nr)])) rfl rfl (hD 85 rfl) _ ?_
    exact k))
  obtain ⟨T42, h42, L42, X42, e42, N42, W42q, st42⟩ := iasW X40 hx hZ e40 W36 N36 (i := 7) (a := nr) rfl (j := (1 : Int32)) (x := (-1 : Int32)) (k := 1) (by decide) (by decide) (by decide) (g := K41.g) rfl rfl (hD 86 rfl)
  have K43 : Rc K0 T42 (mkF m 304 #[sR r, sI 1, sR vv, sI (Int32.ofNat vc), sR pp, sI (Int32.ofNat t2), sI 0, sI (Int32.ofNat vc), sI 1, sR bk] [(kR r)]) := fun t k => K41 t (st42 t (XS.aloadN X42.here hx rfl (hD 87 rfl) rfl rfl k))
  obtain ⟨T44, X44, e44, st44⟩ := getF X42 hx hZ hown (host := "") (Or.inl (hw _ (mi 105 rfl))) Via.refl e42 (W42q.fld (i := 0) rfl (j := 15) rfl rfl) (g := K43.g) rfl rfl (hD 88 rfl)
  have K45 : Rc K0 T44 (mkF m 310 #[sR r, sI 1, sR vv, sI (Int32.ofNat vc), sR pp, sI (Int32.ofNat t2), sI 0, sI (Int32.ofNat vc), sI 1, sR bk] [(kI 1), (kI 1), (kR lr)]) := fun t k => K43 t (st44 t (by
    refine XS.iloadN X44.here hx rfl (hD 89 rfl) rfl ?_
    refine XS.iload X44.here hx rfl (hD 90 rfl) rfl ?_
    exact k))
  obtain ⟨T46, h46, L46, X46, e46, N46, W46q, st46⟩ := iasW X44 hx hZ e44 W42q N42 (i := 5) (a := lr) rfl (j := (1 : Int32)) (x := (1 : Int32)) (k := 1) (by decide) (by decide) (by decide) (g := K45.g) rfl rfl (hD 91 rfl)
  have K47 : Rc K0 T46 (mkF m 312 #[sR r, sI 1, sR vv, sI (Int32.ofNat vc), sR pp, sI (Int32.ofNat t2), sI 0, sI (Int32.ofNat vc), sI 1, sR bk] [(kR r)]) := fun t k => K45 t (st46 t (XS.aloadN X46.here hx rfl (hD 92 rfl) rfl rfl k))
  obtain ⟨T48, X48, e48, st48⟩ := getF X46 hx hZ hown (host := "") (Or.inl (hw _ (mi 163 rfl))) Via.refl e46 (W46q.fld (i := 0) rfl (j := 19) rfl rfl) (g := K47.g) rfl rfl (hD 93 rfl)
  have K49 : Rc K0 T48 (mkF m 318 #[sR r, sI 1, sR vv, sI (Int32.ofNat vc), sR pp, sI (Int32.ofNat t2), sI 0, sI (Int32.ofNat vc), sI 1, sR bk] [(kR r), (kI 1), (kR bo)]) := fun t k => K47 t (st48 t (by
    refine XS.iload X48.here hx rfl (hD 94 rfl) rfl ?_
    refine XS.aloadN X48.here hx rfl (hD 95 rfl) rfl rfl ?_
    exact k))
  obtain ⟨T50, X50, e50, st50⟩ := getF X48 hx hZ hown (host := "") (Or.inl (hw _ (mi 174 rfl))) Via.refl e48 (W46q.fld (i := 0) rfl (j := 23) rfl rfl) (g := K49.g) rfl rfl (hD 96 rfl)
  have K51 : Rc K0 T50 (mkF m 323 #[sR r, sI 1, sR vv, sI (Int32.ofNat vc), sR pp, sI (Int32.ofNat t2), sI 0, sI (Int32.ofNat vc), sI 1, sR bk] [(kI 1), (kI 1), (kR bo)]) := fun t k => K49 t (st50 t (by
    refine XS.iconst X50.here hx rfl (hD 97 rfl) ?_
    refine XS.isub X50.here hx rfl (hD 98 rfl) rfl ?_
    exact k))
  obtain ⟨T52, h52, L52, X52, e52, N52, W52q, st52⟩ := iasW X50 hx hZ e50 W46q N46 (i := 8) (a := bo) rfl (j := (1 : Int32)) (x := (1 : Int32)) (k := 1) (by decide) (by decide) (by decide) (g := K51.g) rfl rfl (hD 99 rfl)
  have K53 : Rc K0 T52 (mkF m 325 #[sR r, sI 1, sR vv, sI (Int32.ofNat vc), sR pp, sI (Int32.ofNat t2), sI 0, sI (Int32.ofNat vc), sI 1, sR bk] [(kR r)]) := fun t k => K51 t (st52 t (XS.aloadN X52.here hx rfl (hD 100 rfl) rfl rfl k))
  obtain ⟨T54, X54, e54, st54⟩ := getF X52 hx hZ hown (host := "") (Or.inl (hw _ (mi 165 rfl))) Via.refl e52 (W52q.fld (i := 0) rfl (j := 20) rfl rfl) (g := K53.g) rfl rfl (hD 101 rfl)
  have K55 : Rc K0 T54 (mkF m 331 #[sR r, sI 1, sR vv, sI (Int32.ofNat vc), sR pp, sI (Int32.ofNat t2), sI 0, sI (Int32.ofNat vc), sI 1, sR bk] [(kR r), (kI 1), (kR shf)]) := fun t k => K53 t (st54 t (by
    refine XS.iload X54.here hx rfl (hD 102 rfl) rfl ?_
    refine XS.aloadN X54.here hx rfl (hD 103 rfl) rfl rfl ?_
    exact k))
  obtain ⟨T56, X56, e56, st56⟩ := getF X54 hx hZ hown (host := "") (Or.inl (hw _ (mi 184 rfl))) Via.refl e54 (W52q.fld (i := 0) rfl (j := 24) rfl rfl) (g := K55.g) rfl rfl (hD 104 rfl)
  have K57 : Rc K0 T56 (mkF m 339 #[sR r, sI 1, sR vv, sI (Int32.ofNat vc), sR pp, sI (Int32.ofNat t2), sI 0, sI (Int32.ofNat vc), sI 1, sR bk] [(kI ((Int32.ofNat vc) - (Int32.ofNat t2))), (kI 1), (kR shf)]) := fun t k => K55 t (st56 t (by
    refine XS.iloadN X56.here hx rfl (hD 105 rfl) rfl ?_
    refine XS.iadd X56.here hx rfl (hD 106 rfl) rfl ?_
    show Steps p.tables e below (T56.setTop (mkF m 336 #[sR r, sI 1, sR vv, sI (Int32.ofNat vc), sR pp, sI (Int32.ofNat t2), sI 0, sI (Int32.ofNat vc), sI 1, sR bk] [(kI ((0 : Int32) + (Int32.ofNat vc))), (kI 1), (kR shf)])) _
    rw [Int32.zero_add]
    show Steps p.tables e below (T56.setTop (mkF m 336 #[sR r, sI 1, sR vv, sI (Int32.ofNat vc), sR pp, sI (Int32.ofNat t2), sI 0, sI (Int32.ofNat vc), sI 1, sR bk] [(kI (Int32.ofNat vc)), (kI 1), (kR shf)])) _
    refine XS.iload X56.here hx rfl (hD 107 rfl) rfl ?_
    refine XS.isub X56.here hx rfl (hD 108 rfl) rfl ?_
    exact k))
  obtain ⟨T58, h58, L58, X58, e58, N58, W58q, st58⟩ := iasW X56 hx hZ e56 W52q N52 (i := 9) (a := shf) rfl (j := (1 : Int32)) (x := ((Int32.ofNat vc) - (Int32.ofNat t2))) (k := 1) (by decide) (by decide) (by decide) (g := K57.g) rfl rfl (hD 109 rfl)
  have W58 : Wo n0 h58 ((r, oR Z [(kR ks), (kR rgs), (kR ns), (kR fch), (kR fk), (kR kl), (kR frg), (kR fac), (kR fcm), (kR ftr), (kR acs), (kR cms), (kR sus), (kR prb), (kI 2), (kR lr), (kI 2), (kR so), (kR nr), (kR bo), (kR shf), (kR vcn), (kR bl), (kI 2), (kI 0)]) :: (ftr, Ar Z .int 17 g_ftr) :: (fch, Ar Z .int 17 g_fch) :: (bl, Pg Z .double 4 g_bl) :: (bk, Ar Z .double 64 (cpy g_pp (cpy g_vv g_bk 0 0 vc) 0 vc 0)) :: (lr, Ar Z .int 4 (upd g_lr 1 (kI 1))) :: (so, Ar Z .int 4 (upd g_so 1 (kI 1))) :: (nr, Ar Z .int 4 (upd g_nr 1 (kI (-1)))) :: (bo, Ar Z .int 4 (upd g_bo 1 (kI 1))) :: (shf, Ar Z .int 4 (upd g_shf 1 (kI ((Int32.ofNat vc) - (Int32.ofNat t2))))) :: (vcn, Ar Z .int 4 g_vcn) :: (vv, Ar Z .double 3 g_vv) :: (pp, Ar Z .double 4 g_pp) :: Rr) := W58q
  have K59 : Rc K0 T58 (mkF m 341 #[sR r, sI 1, sR vv, sI (Int32.ofNat vc), sR pp, sI (Int32.ofNat t2), sI 0, sI (Int32.ofNat vc), sI 1, sR bk] [(kR r)]) := fun t k => K57 t (st58 t (XS.aloadN X58.here hx rfl (hD 110 rfl) rfl rfl k))
  obtain ⟨T60, X60, e60, st60⟩ := getF X58 hx hZ hown (host := "") (Or.inl (hw _ (mi 167 rfl))) Via.refl e58 (W58.fld (i := 0) rfl (j := 21) rfl rfl) (g := K59.g) rfl rfl (hD 111 rfl)
  have K61 : Rc K0 T60 (mkF m 347 #[sR r, sI 1, sR vv, sI (Int32.ofNat vc), sR pp, sI (Int32.ofNat t2), sI 0, sI (Int32.ofNat vc), sI 1, sR bk] [(kI (Int32.ofNat vc)), (kI 1), (kR vcn)]) := fun t k => K59 t (st60 t (by
    refine XS.iload X60.here hx rfl (hD 112 rfl) rfl ?_
    refine XS.iloadN X60.here hx rfl (hD 113 rfl) rfl ?_
    exact k))
  obtain ⟨T62, h62, L62, X62, e62, N62, W62q, st62⟩ := iasW X60 hx hZ e60 W58 N58 (i := 10) (a := vcn) rfl (j := (1 : Int32)) (x := (Int32.ofNat vc)) (k := 1) (by decide) (by decide) (by decide) (g := K61.g) rfl rfl (hD 114 rfl)
  have K63 : Rc K0 T62 (mkF m 350 #[sR r, sI 1, sR vv, sI (Int32.ofNat vc), sR pp, sI (Int32.ofNat t2), sI 0, sI (Int32.ofNat vc), sI 1, sR bk] [(kR r), (kR r)]) := fun t k => K61 t (st62 t (by
    refine XS.aloadN X62.here hx rfl (hD 115 rfl) rfl rfl ?_
    refine XS.dup X62.here hx rfl (hD 116 rfl) rfl rfl ?_
    exact k))
  obtain ⟨T64, X64, e64, st64⟩ := getF X62 hx hZ hown (host := "") (Or.inl (hw _ (mi 184 rfl))) Via.refl e62 (W62q.fld (i := 0) rfl (j := 24) rfl rfl) (g := K63.g) rfl rfl (hD 117 rfl)
  have K65 : Rc K0 T64 (mkF m 356 #[sR r, sI 1, sR vv, sI (Int32.ofNat vc), sR pp, sI (Int32.ofNat t2), sI 0, sI (Int32.ofNat vc), sI 1, sR bk] [(kI (Int32.ofNat vc)), (kR r)]) := fun t k => K63 t (st64 t (by
    refine XS.iload X64.here hx rfl (hD 118 rfl) rfl ?_
    refine XS.iadd X64.here hx rfl (hD 119 rfl) rfl ?_
    show Steps p.tables e below (T64.setTop (mkF m 356 #[sR r, sI 1, sR vv, sI (Int32.ofNat vc), sR pp, sI (Int32.ofNat t2), sI 0, sI (Int32.ofNat vc), sI 1, sR bk] [(kI ((0 : Int32) + (Int32.ofNat vc))), (kR r)])) _
    rw [Int32.zero_add]
    exact k))
  obtain ⟨T66, h66, L66, X66, e66, N66, W66q, st66⟩ := putW X64 hx hZ hown (host := "") (Or.inl (hw _ (mi 184 rfl))) e64 W62q N62 (own_dR hw) (Or.inl (hw _ (mi 185 rfl))) (hw _ (mi 6 rfl)) (ty := .int) (by decide +kernel) (i := 0) (a := r) rfl (j := 24) rfl rfl (v := (.int (Int32.ofNat vc))) rfl rfl (g := K65.g) rfl rfl (hD 120 rfl)
  have K67 : Rc K0 T66 (mkF m 361 #[sR r, sI 1, sR vv, sI (Int32.ofNat vc), sR pp, sI (Int32.ofNat t2), sI 0, sI (Int32.ofNat vc), sI 1, sR bk] [(kI 1)]) := fun t k => K65 t (st66 t (XS.iload X66.here hx rfl (hD 121 rfl) rfl k))
  obtain ⟨fs, hr, hrun, hended, hWm, hsame⟩ := X66.leave (v := some (.int (1 : Int32))) (fun h => by rw [Bd.returns] at h; cases h)
  refine ⟨_, _, pre0 _ (K67 _ (retI X66 hx Bd.returns (hD 122 rfl) hr)), hrun, hended, _, _, rfl, ?_, ⟨_, rfl⟩, hWm, hsame.mono (by decide) (by decide)⟩
  show QrmPL11 Z r ks rgs ns fch fk kl frg fac fcm ftr acs cms sus prb lr so nr bo shf vcn bl bk vv pp vc t2 g_ftr g_fch g_bl g_bk g_lr g_so g_nr g_bo g_shf g_vcn g_vv g_pp Rr n0 _ T66.heap _
  rw [e66]
  exact ⟨rfl, N66, W66q⟩
theorem ef_rmPL01 (m : MethodId) (r ks rgs ns fch fk kl frg fac fcm ftr acs cms sus prb : Addr) (lr so nr bo shf vcn bl bk vv pp : Addr) (vc t2 u : Nat) (g_ftr g_fch g_bl g_bk g_lr g_so g_nr g_bo g_shf g_vcn g_vv g_pp : Nat → Value) : entryFrame m #[(.ref r), (.int (0 : Int32)), (.ref vv), (.int (Int32.ofNat vc)), (.ref pp)] 10 = mkF m 0 #[.val (.ref r), .val (.int (0 : Int32)), .val (.ref vv), .val (.int (Int32.ofNat vc)), .val (.ref pp), .unset, .unset, .unset, .unset, .unset] [] := by first | (simp [entryFrame, mkF, argsToLocals, Value.category]; done) | rfl
def QrmPL01 (Z : State) (r ks rgs ns fch fk kl frg fac fcm ftr acs cms sus prb : Addr) (lr so nr bo shf vcn bl bk vv pp : Addr) (vc t2 u : Nat) (g_ftr g_fch g_bl g_bk g_lr g_so g_nr g_bo g_shf g_vcn g_vv g_pp : Nat → Value) (Rr : List (Addr × (Cell → Prop))) (n0 : Nat) (v : Option Value) (h : Heap) (L : List Loc) : Prop := v = some (.int (1 : Int32)) ∧ Fr n0 L ∧ Wo n0 h ((r, oR Z [(kR ks), (kR rgs), (kR ns), (kR fch), (kR fk), (kR kl), (kR frg), (kR fac), (kR fcm), (kR ftr), (kR acs), (kR cms), (kR sus), (kR prb), (kI 1), (kR lr), (kI 2), (kR so), (kR nr), (kR bo), (kR shf), (kR vcn), (kR bl), (kI 2), (kI (Int32.ofNat ((u + t2) + (vc + t2))))]) :: (ftr, Ar Z .int 17 g_ftr) :: (fch, Ar Z .int 17 g_fch) :: (bl, Pg Z .double 4 g_bl) :: (bk, Ar Z .double 64 (cpy g_pp (cpy g_vv g_bk 0 (u + t2) vc) 0 ((u + t2) + vc) t2)) :: (lr, Ar Z .int 4 (upd g_lr 0 (kI 1))) :: (so, Ar Z .int 4 (upd g_so 1 (kI 0))) :: (nr, Ar Z .int 4 (upd g_nr 1 (kI 0))) :: (bo, Ar Z .int 4 (upd g_bo 1 (kI 1))) :: (shf, Ar Z .int 4 (upd g_shf 1 (kI (Int32.ofNat ((u + t2) + vc))))) :: (vcn, Ar Z .int 4 (upd g_vcn 1 (kI (Int32.ofNat vc)))) :: (vv, Ar Z .double 3 g_vv) :: (pp, Ar Z .double 3 g_pp) :: Rr)
set_option maxRecDepth 65536 in
set_option maxHeartbeats 40000000 in
theorem rmPL01 (l : Launch) (Z : State) (a0 : Array Value) (hw : ∀ d ∈ tables_1, d.before a0 Z = true) (ws : List Jvm.Cond) (r ks rgs ns fch fk kl frg fac fcm ftr acs cms sus prb : Addr) (lr so nr bo shf vcn bl bk vv pp : Addr) (vc t2 u : Nat) (g_ftr g_fch g_bl g_bk g_lr g_so g_nr g_bo g_shf g_vcn g_vv g_pp : Nat → Value) (Rr : List (Addr × (Cell → Prop))) (h0 : Heap) (n0 : Nat) (W0 : Wo n0 h0 ((r, oR Z [(kR ks), (kR rgs), (kR ns), (kR fch), (kR fk), (kR kl), (kR frg), (kR fac), (kR fcm), (kR ftr), (kR acs), (kR cms), (kR sus), (kR prb), (kI 1), (kR lr), (kI 1), (kR so), (kR nr), (kR bo), (kR shf), (kR vcn), (kR bl), (kI 2), (kI (Int32.ofNat (u + t2)))]) :: (ftr, Ar Z .int 17 g_ftr) :: (fch, Ar Z .int 17 g_fch) :: (bl, Pg Z .double 4 g_bl) :: (bk, Ar Z .double 64 g_bk) :: (lr, Ar Z .int 4 g_lr) :: (so, Ar Z .int 4 g_so) :: (nr, Ar Z .int 4 g_nr) :: (bo, Ar Z .int 4 g_bo) :: (shf, Ar Z .int 4 g_shf) :: (vcn, Ar Z .int 4 g_vcn) :: (vv, Ar Z .double 3 g_vv) :: (pp, Ar Z .double 3 g_pp) :: Rr)) (hc3 : vc ≤ 3) (ht3 : t2 ≤ 3) (hu3 : u ≤ 3) (h_ftr0 : g_ftr 0 = (.int (0 : Int32))) (h_ftr2 : g_ftr 2 = (.int (Int32.ofNat t2))) (h_fch0 : g_fch 0 = (.int (0 : Int32))) (h_fch1 : g_fch 1 = (.int (2 : Int32))) (h5 : g_bl 1 = .ref bk) (h6 : g_lr 0 = .int (0 : Int32)) :
    MetFree l y_pl (head1 (Jvm.Cond.code y_pl prog_87_method_5_code 10 (some .int) :: ws) ({ frames := 1, cells := 0, slots := 0, locals := 18 } : Room)) (fun aa U => aa = #[(.ref r), (.int (0 : Int32)), (.ref vv), (.int (Int32.ofNat vc)), (.ref pp)] ∧ Z.Warmed39 U.vm ∧ U.heap = h0) (fun _ _ _ _ _ => True) (fun _ U ou U' => ∃ v L, ou = .returned v ∧ QrmPL01 Z r ks rgs ns fch fk kl frg fac fcm ftr acs cms sus prb lr so nr bo shf vcn bl bk vv pp vc t2 u g_ftr g_fch g_bl g_bk g_lr g_so g_nr g_bo g_shf g_vcn g_vv g_pp Rr n0 v U'.heap L ∧ FrameEnd U ou U' L ({ frames := 1, cells := 0, slots := 0, locals := 18 } : Room).cells ({ frames := 1, cells := 0, slots := 0, locals := 18 } : Room).slots) := by
  refine MetFree.of_bodySF (plainFor_of_name pn_Rows) hisR ?_
  intro p e s m args below meth c s₁ Bd hml0 hP hK
  obtain ⟨rfl, hZ, hh⟩ := hP
  have hx := Bd.exec
  have hby := Bd.bytes
  have hml : c.maxLocals = 10 := hml0
  have hD : ∀ (k : Nat) {pc : Nat} {i : Instr} {n : Nat}, Ld_pl[k]? = some (pc, i, n) → decode c.code pc = .ok (i, n) := by intro k pc i n h; exact hb hby (d_pl (pc, i, n) (mi k h))
  have hown : s.vm.findClass "com/example/sambre/sambre/engine/Rows" = some m.cls := findClass_of_methodNamed Bd.named
  have hnm := (name_of_methodNamed Bd.named Bd.method).1
  have X0 : Stand p l e ({ frames := 1, cells := 0, slots := 0, locals := 18 } : Room) s m #[(.ref r), (.int (0 : Int32)), (.ref vv), (.int (Int32.ofNat vc)), (.ref pp)] below meth c s₁ [] 0 0 := Stand.of_body Bd
  have e0 : s₁.heap = h0 := by rw [← hh, Bd.state]; rfl
  have N0 := Fr.nil n0
  obtain ⟨F0, hF0⟩ : ∃ F, F = mkF m 0 #[.val (.ref r), .val (.int (0 : Int32)), .val (.ref vv), .val (.int (Int32.ofNat vc)), .val (.ref pp), .unset, .unset, .unset, .unset, .unset] [] := ⟨_, rfl⟩
  have pre0 : ∀ t, Steps p.tables e below (s₁.setTop F0) t → Steps p.tables e below (s₁.setTop (entryFrame m #[(.ref r), (.int (0 : Int32)), (.ref vv), (.int (Int32.ofNat vc)), (.ref pp)] 10)) t := fun t k => castTop ((ef_rmPL01 m r ks rgs ns fch fk kl frg fac fcm ftr acs cms sus prb lr so nr bo shf vcn bl bk vv pp vc t2 u g_ftr g_fch g_bl g_bk g_lr g_so g_nr g_bo g_shf g_vcn g_vv g_pp).trans hF0.symm) k
  have K0 : Rch p e below s₁ F0 s₁ (mkF m 0 #[.val (.ref r), .val (.int (0 : Int32)), .val (.ref vv), .val (.int (Int32.ofNat vc)), .val (.ref pp), .unset, .unset, .unset, .unset, .unset] []) := fun t k => castTop hF0 k
  have K1 : Rc K0 s₁ (mkF m 1 #[sR r, sI 0, sR vv, sI (Int32.ofNat vc), sR pp, sU, sU, sU, sU, sU] [(kR r)]) := fun t k => K0 t (XS.aloadN X0.here hx rfl (hD 0 rfl) rfl rfl k)
  obtain ⟨T2, X2, e2, st2⟩ := getF X0 hx hZ hown (host := "") (Or.inl (hw _ (mi 32 rfl))) Via.refl e0 (W0.fld (i := 0) rfl (j := 9) rfl rfl) (g := K1.g) rfl rfl (hD 1 rfl)
  have K3 : Rc K0 T2 (mkF m 5 #[sR r, sI 0, sR vv, sI (Int32.ofNat vc), sR pp, sU, sU, sU, sU, sU] [(kR r), (kR ftr)]) := fun t k => K1 t (st2 t (XS.aloadN X2.here hx rfl (hD 2 rfl) rfl rfl k))
  obtain ⟨T4, X4, e4, st4⟩ := getF X2 hx hZ hown (host := "") (Or.inl (hw _ (mi 20 rfl))) Via.refl e2 (W0.fld (i := 0) rfl (j := 3) rfl rfl) (g := K3.g) rfl rfl (hD 3 rfl)
  have K5 : Rc K0 T4 (mkF m 14 #[sR r, sI 0, sR vv, sI (Int32.ofNat vc), sR pp, sI 0, sU, sU, sU, sU] [(kR r)]) := fun t k => K3 t (st4 t (by
    refine XS.iloadN X4.here hx rfl (hD 4 rfl) rfl ?_
    refine ialW X4 hx hZ e4 W0 (i := 2) rfl (j := (0 : Int32)) (k := 0) (by decide) (by decide) (by decide) (v := (.int (0 : Int32))) h_fch0 (g := (mkF m 9 #[sR r, sI 0, sR vv, sI (Int32.ofNat vc), sR pp, sU, sU, sU, sU, sU] [(kI 0), (kR fch), (kR ftr)])) rfl rfl (hD 5 rfl) _ ?_
    refine ialW X4 hx hZ e4 W0 (i := 1) rfl (j := (0 : Int32)) (k := 0) (by decide) (by decide) (by decide) (v := (.int (0 : Int32))) h_ftr0 (g := (mkF m 10 #[sR r, sI 0, sR vv, sI (Int32.ofNat vc), sR pp, sU, sU, sU, sU, sU] [(kI 0), (kR ftr)])) rfl rfl (hD 6 rfl) _ ?_
    refine XS.istore X4.here hx rfl (hD 7 rfl) rfl (l' := #[sR r, sI 0, sR vv, sI (Int32.ofNat vc), sR pp, sI 0, sU, sU, sU, sU]) rfl ?_
    refine XS.aloadN X4.here hx rfl (hD 8 rfl) rfl rfl ?_
    exact k))
  obtain ⟨T6, X6, e6, st6⟩ := getF X4 hx hZ hown (host := "") (Or.inl (hw _ (mi 32 rfl))) Via.refl e4 (W0.fld (i := 0) rfl (j := 9) rfl rfl) (g := K5.g) rfl rfl (hD 9 rfl)
  have K7 : Rc K0 T6 (mkF m 18 #[sR r, sI 0, sR vv, sI (Int32.ofNat vc), sR pp, sI 0, sU, sU, sU, sU] [(kR r), (kR ftr)]) := fun t k => K5 t (st6 t (XS.aloadN X6.here hx rfl (hD 10 rfl) rfl rfl k))
  obtain ⟨T8, X8, e8, st8⟩ := getF X6 hx hZ hown (host := "") (Or.inl (hw _ (mi 20 rfl))) Via.refl e6 (W0.fld (i := 0) rfl (j := 3) rfl rfl) (g := K7.g) rfl rfl (hD 11 rfl)
  have K9 : Rc K0 T8 (mkF m 38 #[sR r, sI 0, sR vv, sI (Int32.ofNat vc), sR pp, sI 0, sI (Int32.ofNat t2), sI (Int32.ofNat (vc + t2)), sU, sU] [(kR r)]) := fun t k => K7 t (st8 t (by
    refine XS.iloadN X8.here hx rfl (hD 12 rfl) rfl ?_
    refine XS.iconst X8.here hx rfl (hD 13 rfl) ?_
    refine XS.iadd X8.here hx rfl (hD 14 rfl) rfl ?_
    refine ialW X8 hx hZ e8 W0 (i := 2) rfl (j := (1 : Int32)) (k := 1) (by decide) (by decide) (by decide) (v := (.int (2 : Int32))) h_fch1 (g := (mkF m 24 #[sR r, sI 0, sR vv, sI (Int32.ofNat vc), sR pp, sI 0, sU, sU, sU, sU] [(kI 1), (kR fch), (kR ftr)])) rfl rfl (hD 15 rfl) _ ?_
    refine ialW X8 hx hZ e8 W0 (i := 1) rfl (j := (2 : Int32)) (k := 2) (by decide) (by decide) (by decide) (v := (.int (Int32.ofNat t2))) h_ftr2 (g := (mkF m 25 #[sR r, sI 0, sR vv, sI (Int32.ofNat vc), sR pp, sI 0, sU, sU, sU, sU] [(kI 2), (kR ftr)])) rfl rfl (hD 16 rfl) _ ?_
    refine XS.iload X8.here hx rfl (hD 17 rfl) rfl ?_
    refine XS.isub X8.here hx rfl (hD 18 rfl) rfl ?_
    show Steps p.tables e below (T8.setTop (mkF m 29 #[sR r, sI 0, sR vv, sI (Int32.ofNat vc), sR pp, sI 0, sU, sU, sU, sU] [(kI ((Int32.ofNat t2) - (0 : Int32)))])) _
    rw [Int32.sub_zero]
    show Steps p.tables e below (T8.setTop (mkF m 29 #[sR r, sI 0, sR vv, sI (Int32.ofNat vc), sR pp, sI 0, sU, sU, sU, sU] [(kI (Int32.ofNat t2))])) _
    refine XS.istore X8.here hx rfl (hD 19 rfl) rfl (l' := #[sR r, sI 0, sR vv, sI (Int32.ofNat vc), sR pp, sI 0, sI (Int32.ofNat t2), sU, sU, sU]) rfl ?_
    refine XS.iloadN X8.here hx rfl (hD 20 rfl) rfl ?_
    refine XS.iload X8.here hx rfl (hD 21 rfl) rfl ?_
    refine XS.iadd X8.here hx rfl (hD 22 rfl) rfl ?_
    show Steps p.tables e below (T8.setTop (mkF m 35 #[sR r, sI 0, sR vv, sI (Int32.ofNat vc), sR pp, sI 0, sI (Int32.ofNat t2), sU, sU, sU] [(kI ((Int32.ofNat vc) + (Int32.ofNat t2)))])) _
    rw [own_add vc t2]
    show Steps p.tables e below (T8.setTop (mkF m 35 #[sR r, sI 0, sR vv, sI (Int32.ofNat vc), sR pp, sI 0, sI (Int32.ofNat t2), sU, sU, sU] [(kI (Int32.ofNat (vc + t2)))])) _
    refine XS.istore X8.here hx rfl (hD 23 rfl) rfl (l' := #[sR r, sI 0, sR vv, sI (Int32.ofNat vc), sR pp, sI 0, sI (Int32.ofNat t2), sI (Int32.ofNat (vc + t2)), sU, sU]) rfl ?_
    refine XS.aloadN X8.here hx rfl (hD 24 rfl) rfl rfl ?_
    exact k))
  obtain ⟨T10, X10, e10, st10⟩ := getF X8 hx hZ hown (host := "") (Or.inl (hw _ (mi 184 rfl))) Via.refl e8 (W0.fld (i := 0) rfl (j := 24) rfl rfl) (g := K9.g) rfl rfl (hD 25 rfl)
  have K11 : Rc K0 T10 (mkF m 45 #[sR r, sI 0, sR vv, sI (Int32.ofNat vc), sR pp, sI 0, sI (Int32.ofNat t2), sI (Int32.ofNat (vc + t2)), sU, sU] [(kR r), (kI (Int32.ofNat ((u + t2) + (vc + t2))))]) := fun t k => K9 t (st10 t (by
    refine XS.iload X10.here hx rfl (hD 26 rfl) rfl ?_
    refine XS.iadd X10.here hx rfl (hD 27 rfl) rfl ?_
    show Steps p.tables e below (T10.setTop (mkF m 44 #[sR r, sI 0, sR vv, sI (Int32.ofNat vc), sR pp, sI 0, sI (Int32.ofNat t2), sI (Int32.ofNat (vc + t2)), sU, sU] [(kI ((Int32.ofNat (u + t2)) + (Int32.ofNat (vc + t2))))])) _
    rw [own_add (u + t2) (vc + t2)]
    show Steps p.tables e below (T10.setTop (mkF m 44 #[sR r, sI 0, sR vv, sI (Int32.ofNat vc), sR pp, sI 0, sI (Int32.ofNat t2), sI (Int32.ofNat (vc + t2)), sU, sU] [(kI (Int32.ofNat ((u + t2) + (vc + t2))))])) _
    refine XS.aloadN X10.here hx rfl (hD 28 rfl) rfl rfl ?_
    exact k))
  obtain ⟨T12, X12, e12, st12⟩ := getF X10 hx hZ hown (host := "") (Or.inl (hw _ (mi 171 rfl))) Via.refl e10 (W0.fld (i := 0) rfl (j := 22) rfl rfl) (g := K11.g) rfl rfl (hD 29 rfl)
  have K13 : Rc K0 T12 (mkF m 49 #[sR r, sI 0, sR vv, sI (Int32.ofNat vc), sR pp, sI 0, sI (Int32.ofNat t2), sI (Int32.ofNat (vc + t2)), sU, sU] [(kR r), (kR bl), (kI (Int32.ofNat ((u + t2) + (vc + t2))))]) := fun t k => K11 t (st12 t (XS.aloadN X12.here hx rfl (hD 30 rfl) rfl rfl k))
  obtain ⟨T14, X14, e14, st14⟩ := getF X12 hx hZ hown (host := "") (Or.inl (hw _ (mi 174 rfl))) Via.refl e12 (W0.fld (i := 0) rfl (j := 23) rfl rfl) (g := K13.g) rfl rfl (hD 31 rfl)
  have K15 : Rc K0 T14 (mkF m 145 #[sR r, sI 0, sR vv, sI (Int32.ofNat vc), sR pp, sI 0, sI (Int32.ofNat t2), sI (Int32.ofNat (vc + t2)), sU, sU] [(kR r), (kR r)]) := fun t k => K13 t (st14 t (by
    refine XS.iconst X14.here hx rfl (hD 32 rfl) ?_
    refine XS.isub X14.here hx rfl (hD 33 rfl) rfl ?_
    refine aalW X14 hx hZ e14 W0 (i := 3) rfl (fun _ q => q.1) rfl (j := (1 : Int32)) (k := 1) (by decide) (by decide) (by decide) (v := (.ref bk)) h5 (g := (mkF m 54 #[sR r, sI 0, sR vv, sI (Int32.ofNat vc), sR pp, sI 0, sI (Int32.ofNat t2), sI (Int32.ofNat (vc + t2)), sU, sU] [(kI 1), (kR bl), (kI (Int32.ofNat ((u + t2) + (vc + t2))))])) rfl rfl (hD 34 rfl) _ ?_
    refine lenW X14 hx hZ e14 W0 (i := 4) rfl (fun _ q => q) (z := (64 : Int32)) (by decide) (g := (mkF m 55 #[sR r, sI 0, sR vv, sI (Int32.ofNat vc), sR pp, sI 0, sI (Int32.ofNat t2), sI (Int32.ofNat (vc + t2)), sU, sU] [(kR bk), (kI (Int32.ofNat ((u + t2) + (vc + t2))))])) rfl rfl (hD 35 rfl) _ ?_
    refine XS.icmpYes X14.here hx rfl (pc0 := 56) (pc' := 143) rfl (hD 36 rfl) rfl (flt (own_nlt (a := 64) (b := ((u + t2) + (vc + t2))) (by omega) (by decide))).2.2.2 (by decide) (by decide) ?_
    refine XS.aloadN X14.here hx rfl (hD 37 rfl) rfl rfl ?_
    refine XS.dup X14.here hx rfl (hD 38 rfl) rfl rfl ?_
    exact k))
  obtain ⟨T16, X16, e16, st16⟩ := getF X14 hx hZ hown (host := "") (Or.inl (hw _ (mi 122 rfl))) Via.refl e14 (W0.fld (i := 0) rfl (j := 16) rfl rfl) (g := K15.g) rfl rfl (hD 39 rfl)
  have K17 : Rc K0 T16 (mkF m 151 #[sR r, sI 0, sR vv, sI (Int32.ofNat vc), sR pp, sI 0, sI (Int32.ofNat t2), sI (Int32.ofNat (vc + t2)), sU, sU] [(kI 2), (kR r), (kI 1)]) := fun t k => K15 t (st16 t (by
    refine XS.dupX1 X16.here hx rfl (hD 40 rfl) rfl rfl rfl ?_
    refine XS.iconst X16.here hx rfl (hD 41 rfl) ?_
    refine XS.iadd X16.here hx rfl (hD 42 rfl) rfl ?_
    exact k))
  obtain ⟨T18, h18, L18, X18, e18, N18, W18q, st18⟩ := putW X16 hx hZ hown (host := "") (Or.inl (hw _ (mi 122 rfl))) e16 W0 N0 (own_dR hw) (Or.inl (hw _ (mi 123 rfl))) (hw _ (mi 6 rfl)) (ty := .int) (by decide +kernel) (i := 0) (a := r) rfl (j := 16) rfl rfl (v := (.int (2 : Int32))) rfl rfl (g := K17.g) rfl rfl (hD 43 rfl)
  have K19 : Rc K0 T18 (mkF m 159 #[sR r, sI 0, sR vv, sI (Int32.ofNat vc), sR pp, sI 0, sI (Int32.ofNat t2), sI (Int32.ofNat (vc + t2)), sI 1, sU] [(kR r), (kI 1)]) := fun t k => K17 t (st18 t (by
    refine XS.istore X18.here hx rfl (hD 44 rfl) rfl (l' := #[sR r, sI 0, sR vv, sI (Int32.ofNat vc), sR pp, sI 0, sI (Int32.ofNat t2), sI (Int32.ofNat (vc + t2)), sI 1, sU]) rfl ?_
    refine XS.iload X18.here hx rfl (hD 45 rfl) rfl ?_
    refine XS.aloadN X18.here hx rfl (hD 46 rfl) rfl rfl ?_
    exact k))
  obtain ⟨T20, X20, e20, st20⟩ := getF X18 hx hZ hown (host := "") (Or.inl (hw _ (mi 129 rfl))) Via.refl e18 (W18q.fld (i := 0) rfl (j := 17) rfl rfl) (g := K19.g) rfl rfl (hD 47 rfl)
  have K21 : Rc K0 T20 (mkF m 242 #[sR r, sI 0, sR vv, sI (Int32.ofNat vc), sR pp, sI 0, sI (Int32.ofNat t2), sI (Int32.ofNat (vc + t2)), sI 1, sU] [(kR r)]) := fun t k => K19 t (st20 t (by
    refine lenW X20 hx hZ e20 W18q (i := 6) rfl (fun _ q => q) (z := (4 : Int32)) (by decide) (g := (mkF m 162 #[sR r, sI 0, sR vv, sI (Int32.ofNat vc), sR pp, sI 0, sI (Int32.ofNat t2), sI (Int32.ofNat (vc + t2)), sI 1, sU] [(kR so), (kI 1)])) rfl rfl (hD 48 rfl) _ ?_
    refine XS.icmpYes X20.here hx rfl (pc0 := 163) (pc' := 241) rfl (hD 49 rfl) rfl (by decide) (by decide) (by decide) ?_
    refine XS.aloadN X20.here hx rfl (hD 50 rfl) rfl rfl ?_
    exact k))
  obtain ⟨T22, X22, e22, st22⟩ := getF X20 hx hZ hown (host := "") (Or.inl (hw _ (mi 171 rfl))) Via.refl e20 (W18q.fld (i := 0) rfl (j := 22) rfl rfl) (g := K21.g) rfl rfl (hD 51 rfl)
  have K23 : Rc K0 T22 (mkF m 246 #[sR r, sI 0, sR vv, sI (Int32.ofNat vc), sR pp, sI 0, sI (Int32.ofNat t2), sI (Int32.ofNat (vc + t2)), sI 1, sU] [(kR r), (kR bl)]) := fun t k => K21 t (st22 t (XS.aloadN X22.here hx rfl (hD 52 rfl) rfl rfl k))
  obtain ⟨T24, X24, e24, st24⟩ := getF X22 hx hZ hown (host := "") (Or.inl (hw _ (mi 174 rfl))) Via.refl e22 (W18q.fld (i := 0) rfl (j := 23) rfl rfl) (g := K23.g) rfl rfl (hD 53 rfl)
  have K25 : Rc K0 T24 (mkF m 259 #[sR r, sI 0, sR vv, sI (Int32.ofNat vc), sR pp, sI 0, sI (Int32.ofNat t2), sI (Int32.ofNat (vc + t2)), sI 1, sR bk] [(kR r), (kR bk), (kI 0), (kR vv)]) := fun t k => K23 t (st24 t (by
    refine XS.iconst X24.here hx rfl (hD 54 rfl) ?_
    refine XS.isub X24.here hx rfl (hD 55 rfl) rfl ?_
    refine aalW X24 hx hZ e24 W18q (i := 3) rfl (fun _ q => q.1) rfl (j := (1 : Int32)) (k := 1) (by decide) (by decide) (by decide) (v := (.ref bk)) h5 (g := (mkF m 251 #[sR r, sI 0, sR vv, sI (Int32.ofNat vc), sR pp, sI 0, sI (Int32.ofNat t2), sI (Int32.ofNat (vc + t2)), sI 1, sU] [(kI 1), (kR bl)])) rfl rfl (hD 56 rfl) _ ?_
    refine XS.astore X24.here hx rfl (hD 57 rfl) rfl rfl (l' := #[sR r, sI 0, sR vv, sI (Int32.ofNat vc), sR pp, sI 0, sI (Int32.ofNat t2), sI (Int32.ofNat (vc + t2)), sI 1, sR bk]) rfl ?_
    refine XS.aloadN X24.here hx rfl (hD 58 rfl) rfl rfl ?_
    refine XS.iconst X24.here hx rfl (hD 59 rfl) ?_
    refine XS.aload X24.here hx rfl (hD 60 rfl) rfl rfl ?_
    refine XS.aloadN X24.here hx rfl (hD 61 rfl) rfl rfl ?_
    exact k))
  obtain ⟨T26, X26, e26, st26⟩ := getF X24 hx hZ hown (host := "") (Or.inl (hw _ (mi 184 rfl))) Via.refl e24 (W18q.fld (i := 0) rfl (j := 24) rfl rfl) (g := K25.g) rfl rfl (hD 62 rfl)
  have K27 : Rc K0 T26 (mkF m 263 #[sR r, sI 0, sR vv, sI (Int32.ofNat vc), sR pp, sI 0, sI (Int32.ofNat t2), sI (Int32.ofNat (vc + t2)), sI 1, sR bk] [(kI (Int32.ofNat vc)), (kI (Int32.ofNat (u + t2))), (kR bk), (kI 0), (kR vv)]) := fun t k => K25 t (st26 t (XS.iloadN X26.here hx rfl (hD 63 rfl) rfl k))
  obtain ⟨T28, h28, L28, X28, e28, N28, W28q, st28⟩ := cpW X26 hx hZ hown (hw _ (mi 115 rfl)) (hw _ (mi 118 rfl)) (hw _ (mi 116 rfl)) (hw _ (mi 117 rfl)) e26 W18q N18 (i := 11) (j := 4) rfl rfl rfl (sp := (0 : Int32)) (dp := (Int32.ofNat (u + t2))) (nn := (Int32.ofNat vc)) (s' := 0) (d' := (u + t2)) (k' := vc) (by decide) (own_nn (by omega)) (own_nn (by omega)) (by decide) (own_tn (by omega)) (own_tn (by omega)) (by omega) (by omega) (g := K27.g) rfl (by rw [hml]; rfl) (rest := []) rfl (hD 64 rfl) (by decide) (W0 := 0) (by show 2 * 0 + _ ≤ _; exact Nat.le_of_eq rfl) (by decide)
  have K29 : Rc K0 T28 (mkF m 272 #[sR r, sI 0, sR vv, sI (Int32.ofNat vc), sR pp, sI 0, sI (Int32.ofNat t2), sI (Int32.ofNat (vc + t2)), sI 1, sR bk] [(kR r), (kR bk), (kI 0), (kR pp)]) := fun t k => K27 t (st28 t (by
    refine XS.aload X28.here hx rfl (hD 65 rfl) rfl rfl ?_
    refine XS.iconst X28.here hx rfl (hD 66 rfl) ?_
    refine XS.aload X28.here hx rfl (hD 67 rfl) rfl rfl ?_
    refine XS.aloadN X28.here hx rfl (hD 68 rfl) rfl rfl ?_
    exact k))
  obtain ⟨T30, X30, e30, st30⟩ := getF X28 hx hZ hown (host := "") (Or.inl (hw _ (mi 184 rfl))) Via.refl e28 (W28q.fld (i := 0) rfl (j := 24) rfl rfl) (g := K29.g) rfl rfl (hD 69 rfl)
  have K31 : Rc K0 T30 (mkF m 279 #[sR r, sI 0, sR vv, sI (Int32.ofNat vc), sR pp, sI 0, sI (Int32.ofNat t2), sI (Int32.ofNat (vc + t2)), sI 1, sR bk] [(kI (Int32.ofNat t2)), (kI (Int32.ofNat ((u + t2) + vc))), (kR bk), (kI 0), (kR pp)]) := fun t k => K29 t (st30 t (by
    refine XS.iloadN X30.here hx rfl (hD 70 rfl) rfl ?_
    refine XS.iadd X30.here hx rfl (hD 71 rfl) rfl ?_
    show Steps p.tables e below (T30.setTop (mkF m 277 #[sR r, sI 0, sR vv, sI (Int32.ofNat vc), sR pp, sI 0, sI (Int32.ofNat t2), sI (Int32.ofNat (vc + t2)), sI 1, sR bk] [(kI ((Int32.ofNat (u + t2)) + (Int32.ofNat vc))), (kR bk), (kI 0), (kR pp)])) _
    rw [own_add (u + t2) vc]
    show Steps p.tables e below (T30.setTop (mkF m 277 #[sR r, sI 0, sR vv, sI (Int32.ofNat vc), sR pp, sI 0, sI (Int32.ofNat t2), sI (Int32.ofNat (vc + t2)), sI 1, sR bk] [(kI (Int32.ofNat ((u + t2) + vc))), (kR bk), (kI 0), (kR pp)])) _
    refine XS.iload X30.here hx rfl (hD 72 rfl) rfl ?_
    exact k))
  obtain ⟨T32, h32, L32, X32, e32, N32, W32q, st32⟩ := cpW X30 hx hZ hown (hw _ (mi 115 rfl)) (hw _ (mi 118 rfl)) (hw _ (mi 116 rfl)) (hw _ (mi 117 rfl)) e30 W28q N28 (i := 12) (j := 4) rfl rfl rfl (sp := (0 : Int32)) (dp := (Int32.ofNat ((u + t2) + vc))) (nn := (Int32.ofNat t2)) (s' := 0) (d' := ((u + t2) + vc)) (k' := t2) (by decide) (own_nn (by omega)) (own_nn (by omega)) (by decide) (own_tn (by omega)) (own_tn (by omega)) (by omega) (by omega) (g := K31.g) rfl (by rw [hml]; rfl) (rest := []) rfl (hD 73 rfl) (by decide) (W0 := 0) (by show 2 * 0 + _ ≤ _; exact Nat.le_of_eq rfl) (by decide)
  have K33 : Rc K0 T32 (mkF m 283 #[sR r, sI 0, sR vv, sI (Int32.ofNat vc), sR pp, sI 0, sI (Int32.ofNat t2), sI (Int32.ofNat (vc + t2)), sI 1, sR bk] [(kR r)]) := fun t k => K31 t (st32 t (XS.aloadN X32.here hx rfl (hD 74 rfl) rfl rfl k))
  obtain ⟨T34, X34, e34, st34⟩ := getF X32 hx hZ hown (host := "") (Or.inl (hw _ (mi 129 rfl))) Via.refl e32 (W32q.fld (i := 0) rfl (j := 17) rfl rfl) (g := K33.g) rfl rfl (hD 75 rfl)
  have K35 : Rc K0 T34 (mkF m 289 #[sR r, sI 0, sR vv, sI (Int32.ofNat vc), sR pp, sI 0, sI (Int32.ofNat t2), sI (Int32.ofNat (vc + t2)), sI 1, sR bk] [(kI 0), (kI 1), (kR so)]) := fun t k => K33 t (st34 t (by
    refine XS.iload X34.here hx rfl (hD 76 rfl) rfl ?_
    refine XS.iloadN X34.here hx rfl (hD 77 rfl) rfl ?_
    exact k))
  obtain ⟨T36, h36, L36, X36, e36, N36, W36q, st36⟩ := iasW X34 hx hZ e34 W32q N32 (i := 6) (a := so) rfl (j := (1 : Int32)) (x := (0 : Int32)) (k := 1) (by decide) (by decide) (by decide) (g := K35.g) rfl rfl (hD 78 rfl)
  have W36 : Wo n0 h36 ((r, oR Z [(kR ks), (kR rgs), (kR ns), (kR fch), (kR fk), (kR kl), (kR frg), (kR fac), (kR fcm), (kR ftr), (kR acs), (kR cms), (kR sus), (kR prb), (kI 1), (kR lr), (kI 2), (kR so), (kR nr), (kR bo), (kR shf), (kR vcn), (kR bl), (kI 2), (kI (Int32.ofNat (u + t2)))]) :: (ftr, Ar Z .int 17 g_ftr) :: (fch, Ar Z .int 17 g_fch) :: (bl, Pg Z .double 4 g_bl) :: (bk, Ar Z .double 64 (cpy g_pp (cpy g_vv g_bk 0 (u + t2) vc) 0 ((u + t2) + vc) t2)) :: (lr, Ar Z .int 4 g_lr) :: (so, Ar Z .int 4 (upd g_so 1 (kI 0))) :: (nr, Ar Z .int 4 g_nr) :: (bo, Ar Z .int 4 g_bo) :: (shf, Ar Z .int 4 g_shf) :: (vcn, Ar Z .int 4 g_vcn) :: (vv, Ar Z .double 3 g_vv) :: (pp, Ar Z .double 3 g_pp) :: Rr) := W36q
  have K37 : Rc K0 T36 (mkF m 291 #[sR r, sI 0, sR vv, sI (Int32.ofNat vc), sR pp, sI 0, sI (Int32.ofNat t2), sI (Int32.ofNat (vc + t2)), sI 1, sR bk] [(kR r)]) := fun t k => K35 t (st36 t (XS.aloadN X36.here hx rfl (hD 79 rfl) rfl rfl k))
  obtain ⟨T38, X38, e38, st38⟩ := getF X36 hx hZ hown (host := "") (Or.inl (hw _ (mi 161 rfl))) Via.refl e36 (W36.fld (i := 0) rfl (j := 18) rfl rfl) (g := K37.g) rfl rfl (hD 80 rfl)
  have K39 : Rc K0 T38 (mkF m 297 #[sR r, sI 0, sR vv, sI (Int32.ofNat vc), sR pp, sI 0, sI (Int32.ofNat t2), sI (Int32.ofNat (vc + t2)), sI 1, sR bk] [(kR r), (kI 1), (kR nr)]) := fun t k => K37 t (st38 t (by
    refine XS.iload X38.here hx rfl (hD 81 rfl) rfl ?_
    refine XS.aloadN X38.here hx rfl (hD 82 rfl) rfl rfl ?_
    exact k))
  obtain ⟨T40, X40, e40, st40⟩ := getF X38 hx hZ hown (host := "") (Or.inl (hw _ (mi 105 rfl))) Via.refl e38 (W36.fld (i := 0) rfl (j := 15) rfl rfl) (g := K39.g) rfl rfl (hD 83 rfl)
  have K41 : Rc K0 T40 (mkF m 302 #[sR r, sI 0, sR vv, sI (Int32.ofNat vc), sR pp, sI 0, sI (Int32.ofNat t2), sI (Int32.ofNat (vc + t2)), sI 1, sR bk] [(kI 0), (kI 1), (kR nr)]) := fun t k => K39 t (st40 t (by
    refine XS.iloadN X40.here hx rfl (hD 84 rfl) rfl ?_
    refine ialW X40 hx hZ e40 W36 (i := 5) rfl (j := (0 : Int32)) (k := 0) (by decide) (by decide) (by decide) (v := (.int (0 : Int32))) h6 (g := (mkF m 301 #[sR r, sI 0, sR vv, sI (Int32.ofNat vc), sR pp, sI 0, sI (Int32.ofNat t2), sI (Int32.ofNat (vc + t2)), sI 1, sR bk] [(kI 0), (kR lr), (kI 1), (kR nr)])) rfl rfl (hD 85 rfl) _ ?_
    exact k))
  obtain ⟨T42, h42, L42, X42, e42, N42, W42q, st42⟩ := iasW X40 hx hZ e40 W36 N36 (i := 7) (a := nr) rfl (j := (1 : Int32)) (x := (0 : Int32)) (k := 1) (by decide) (by decide) (by decide) (g := K41.g) rfl rfl (hD 86 rfl)
  have K43 : Rc K0 T42 (mkF m 304 #[sR r, sI 0, sR vv, sI (Int32.ofNat vc), sR pp, sI 0, sI (Int32.ofNat t2), sI (Int32.ofNat (vc + t2)), sI 1, sR bk] [(kR r)]) := fun t k => K41 t (st42 t (XS.aloadN X42.here hx rfl (hD 87 rfl) rfl rfl k))
  obtain ⟨T44, X44, e44, st44⟩ := getF X42 hx hZ hown (host := "") (Or.inl (hw _ (mi 105 rfl))) Via.refl e42 (W42q.fld (i := 0) rfl (j := 15) rfl rfl) (g := K43.g) rfl rfl (hD 88 rfl)
  have K45 : Rc K0 T44 (mkF m 310 #[sR r, sI 0, sR vv, sI (Int32.ofNat vc), sR pp, sI 0, sI (Int32.ofNat t2), sI (Int32.ofNat (vc + t2)), sI 1, sR bk] [(kI 1), (kI 0), (kR lr)]) := fun t k => K43 t (st44 t (by
    refine XS.iloadN X44.here hx rfl (hD 89 rfl) rfl ?_
    refine XS.iload X44.here hx rfl (hD 90 rfl) rfl ?_
    exact k))
  obtain ⟨T46, h46, L46, X46, e46, N46, W46q, st46⟩ := iasW X44 hx hZ e44 W42q N42 (i := 5) (a := lr) rfl (j := (0 : Int32)) (x := (1 : Int32)) (k := 0) (by decide) (by decide) (by decide) (g := K45.g) rfl rfl (hD 91 rfl)
  have K47 : Rc K0 T46 (mkF m 312 #[sR r, sI 0, sR vv, sI (Int32.ofNat vc), sR pp, sI 0, sI (Int32.ofNat t2), sI (Int32.ofNat (vc + t2)), sI 1, sR bk] [(kR r)]) := fun t k => K45 t (st46 t (XS.aloadN X46.here hx rfl (hD 92 rfl) rfl rfl k))
  obtain ⟨T48, X48, e48, st48⟩ := getF X46 hx hZ hown (host := "") (Or.inl (hw _ (mi 163 rfl))) Via.refl e46 (W46q.fld (i := 0) rfl (j := 19) rfl rfl) (g := K47.g) rfl rfl (hD 93 rfl)
  have K49 : Rc K0 T48 (mkF m 318 #[sR r, sI 0, sR vv, sI (Int32.ofNat vc), sR pp, sI 0, sI (Int32.ofNat t2), sI (Int32.ofNat (vc + t2)), sI 1, sR bk] [(kR r), (kI 1), (kR bo)]) := fun t k => K47 t (st48 t (by
    refine XS.iload X48.here hx rfl (hD 94 rfl) rfl ?_
    refine XS.aloadN X48.here hx rfl (hD 95 rfl) rfl rfl ?_
    exact k))
  obtain ⟨T50, X50, e50, st50⟩ := getF X48 hx hZ hown (host := "") (Or.inl (hw _ (mi 174 rfl))) Via.refl e48 (W46q.fld (i := 0) rfl (j := 23) rfl rfl) (g := K49.g) rfl rfl (hD 96 rfl)
  have K51 : Rc K0 T50 (mkF m 323 #[sR r, sI 0, sR vv, sI (Int32.ofNat vc), sR pp, sI 0, sI (Int32.ofNat t2), sI (Int32.ofNat (vc + t2)), sI 1, sR bk] [(kI 1), (kI 1), (kR bo)]) := fun t k => K49 t (st50 t (by
    refine XS.iconst X50.here hx rfl (hD 97 rfl) ?_
    refine XS.isub X50.here hx rfl (hD 98 rfl) rfl ?_
    exact k))
  obtain ⟨T52, h52, L52, X52, e52, N52, W52q, st52⟩ := iasW X50 hx hZ e50 W46q N46 (i := 8) (a := bo) rfl (j := (1 : Int32)) (x := (1 : Int32)) (k := 1) (by decide) (by decide) (by decide) (g := K51.g) rfl rfl (hD 99 rfl)
  have K53 : Rc K0 T52 (mkF m 325 #[sR r, sI 0, sR vv, sI (Int32.ofNat vc), sR pp, sI 0, sI (Int32.ofNat t2), sI (Int32.ofNat (vc + t2)), sI 1, sR bk] [(kR r)]) := fun t k => K51 t (st52 t (XS.aloadN X52.here hx rfl (hD 100 rfl) rfl rfl k))
  obtain ⟨T54, X54, e54, st54⟩ := getF X52 hx hZ hown (host := "") (Or.inl (hw _ (mi 165 rfl))) Via.refl e52 (W52q.fld (i := 0) rfl (j := 20) rfl rfl) (g := K53.g) rfl rfl (hD 101 rfl)
  have K55 : Rc K0 T54 (mkF m 331 #[sR r, sI 0, sR vv, sI (Int32.ofNat vc), sR pp, sI 0, sI (Int32.ofNat t2), sI (Int32.ofNat (vc + t2)), sI 1, sR bk] [(kR r), (kI 1), (kR shf)]) := fun t k => K53 t (st54 t (by
    refine XS.iload X54.here hx rfl (hD 102 rfl) rfl ?_
    refine XS.aloadN X54.here hx rfl (hD 103 rfl) rfl rfl ?_
    exact k))
  obtain ⟨T56, X56, e56, st56⟩ := getF X54 hx hZ hown (host := "") (Or.inl (hw _ (mi 184 rfl))) Via.refl e54 (W52q.fld (i := 0) rfl (j := 24) rfl rfl) (g := K55.g) rfl rfl (hD 104 rfl)
  have K57 : Rc K0 T56 (mkF m 339 #[sR r, sI 0, sR vv, sI (Int32.ofNat vc), sR pp, sI 0, sI (Int32.ofNat t2), sI (Int32.ofNat (vc + t2)), sI 1, sR bk] [(kI (Int32.ofNat ((u + t2) + vc))), (kI 1), (kR shf)]) := fun t k => K55 t (st56 t (by
    refine XS.iloadN X56.here hx rfl (hD 105 rfl) rfl ?_
    refine XS.iadd X56.here hx rfl (hD 106 rfl) rfl ?_
    show Steps p.tables e below (T56.setTop (mkF m 336 #[sR r, sI 0, sR vv, sI (Int32.ofNat vc), sR pp, sI 0, sI (Int32.ofNat t2), sI (Int32.ofNat (vc + t2)), sI 1, sR bk] [(kI ((Int32.ofNat (u + t2)) + (Int32.ofNat vc))), (kI 1), (kR shf)])) _
    rw [own_add (u + t2) vc]
    show Steps p.tables e below (T56.setTop (mkF m 336 #[sR r, sI 0, sR vv, sI (Int32.ofNat vc), sR pp, sI 0, sI (Int32.ofNat t2), sI (Int32.ofNat (vc + t2)), sI 1, sR bk] [(kI (Int32.ofNat ((u + t2) + vc))), (kI 1), (kR shf)])) _
    refine XS.iload X56.here hx rfl (hD 107 rfl) rfl ?_
    refine XS.isub X56.here hx rfl (hD 108 rfl) rfl ?_
    show Steps p.tables e below (T56.setTop (mkF m 339 #[sR r, sI 0, sR vv, sI (Int32.ofNat vc), sR pp, sI 0, sI (Int32.ofNat t2), sI (Int32.ofNat (vc + t2)), sI 1, sR bk] [(kI ((Int32.ofNat ((u + t2) + vc)) - (0 : Int32))), (kI 1), (kR shf)])) _
    rw [Int32.sub_zero]
    exact k))
  obtain ⟨T58, h58, L58, X58, e58, N58, W58q, st58⟩ := iasW X56 hx hZ e56 W52q N52 (i := 9) (a := shf) rfl (j := (1 : Int32)) (x := (Int32.ofNat ((u + t2) + vc))) (k := 1) (by decide) (by decide) (by decide) (g := K57.g) rfl rfl (hD 109 rfl)
  have W58 : Wo n0 h58 ((r, oR Z [(kR ks), (kR rgs), (kR ns), (kR fch), (kR fk), (kR kl), (kR frg), (kR fac), (kR fcm), (kR ftr), (kR acs), (kR cms), (kR sus), (kR prb), (kI 1), (kR lr), (kI 2), (kR so), (kR nr), (kR bo), (kR shf), (kR vcn), (kR bl), (kI 2), (kI (Int32.ofNat (u + t2)))]) :: (ftr, Ar Z .int 17 g_ftr) :: (fch, Ar Z .int 17 g_fch) :: (bl, Pg Z .double 4 g_bl) :: (bk, Ar Z .double 64 (cpy g_pp (cpy g_vv g_bk 0 (u + t2) vc) 0 ((u + t2) + vc) t2)) :: (lr, Ar Z .int 4 (upd g_lr 0 (kI 1))) :: (so, Ar Z .int 4 (upd g_so 1 (kI 0))) :: (nr, Ar Z .int 4 (upd g_nr 1 (kI 0))) :: (bo, Ar Z .int 4 (upd g_bo 1 (kI 1))) :: (shf, Ar Z .int 4 (upd g_shf 1 (kI (Int32.ofNat ((u + t2) + vc))))) :: (vcn, Ar Z .int 4 g_vcn) :: (vv, Ar Z .double 3 g_vv) :: (pp, Ar Z .double 3 g_pp) :: Rr) := W58q
  have K59 : Rc K0 T58 (mkF m 341 #[sR r, sI 0, sR vv, sI (Int32.ofNat vc), sR pp, sI 0, sI (Int32.ofNat t2), sI (Int32.ofNat (vc + t2)), sI 1, sR bk] [(kR r)]) := fun t k => K57 t (st58 t (XS.aloadN X58.here hx rfl (hD 110 rfl) rfl rfl k))
  obtain ⟨T60, X60, e60, st60⟩ := getF X58 hx hZ hown (host := "") (Or.inl (hw _ (mi 167 rfl))) Via.refl e58 (W58.fld (i := 0) rfl (j := 21) rfl rfl) (g := K59.g) rfl rfl (hD 111 rfl)
  have K61 : Rc K0 T60 (mkF m 347 #[sR r, sI 0, sR vv, sI (Int32.ofNat vc), sR pp, sI 0, sI (Int32.ofNat t2), sI (Int32.ofNat (vc + t2)), sI 1, sR bk] [(kI (Int32.ofNat vc)), (kI 1), (kR vcn)]) := fun t k => K59 t (st60 t (by
    refine XS.iload X60.here hx rfl (hD 112 rfl) rfl ?_
    refine XS.iloadN X60.here hx rfl (hD 113 rfl) rfl ?_
    exact k))
  obtain ⟨T62, h62, L62, X62, e62, N62, W62q, st62⟩ := iasW X60 hx hZ e60 W58 N58 (i := 10) (a := vcn) rfl (j := (1 : Int32)) (x := (Int32.ofNat vc)) (k := 1) (by decide) (by decide) (by decide) (g := K61.g) rfl rfl (hD 114 rfl)
  have K63 : Rc K0 T62 (mkF m 350 #[sR r, sI 0, sR vv, sI (Int32.ofNat vc), sR pp, sI 0, sI (Int32.ofNat t2), sI (Int32.ofNat (vc + t2)), sI 1, sR bk] [(kR r), (kR r)]) := fun t k => K61 t (st62 t (by
    refine XS.aloadN X62.here hx rfl (hD 115 rfl) rfl rfl ?_
    refine XS.dup X62.here hx rfl (hD 116 rfl) rfl rfl ?_
    exact k))
  obtain ⟨T64, X64, e64, st64⟩ := getF X62 hx hZ hown (host := "") (Or.inl (hw _ (mi 184 rfl))) Via.refl e62 (W62q.fld (i := 0) rfl (j := 24) rfl rfl) (g := K63.g) rfl rfl (hD 117 rfl)
  have K65 : Rc K0 T64 (mkF m 356 #[sR r, sI 0, sR vv, sI (Int32.ofNat vc), sR pp, sI 0, sI (Int32.ofNat t2), sI (Int32.ofNat (vc + t2)), sI 1, sR bk] [(kI (Int32.ofNat ((u + t2) + (vc + t2)))), (kR r)]) := fun t k => K63 t (st64 t (by
    refine XS.iload X64.here hx rfl (hD 118 rfl) rfl ?_
    refine XS.iadd X64.here hx rfl (hD 119 rfl) rfl ?_
    show Steps p.tables e below (T64.setTop (mkF m 356 #[sR r, sI 0, sR vv, sI (Int32.ofNat vc), sR pp, sI 0, sI (Int32.ofNat t2), sI (Int32.ofNat (vc + t2)), sI 1, sR bk] [(kI ((Int32.ofNat (u + t2)) + (Int32.ofNat (vc + t2)))), (kR r)])) _
    rw [own_add (u + t2) (vc + t2)]
    exact k))
  obtain ⟨T66, h66, L66, X66, e66, N66, W66q, st66⟩ := putW X64 hx hZ hown (host := "") (Or.inl (hw _ (mi 184 rfl))) e64 W62q N62 (own_dR hw) (Or.inl (hw _ (mi 185 rfl))) (hw _ (mi 6 rfl)) (ty := .int) (by decide +kernel) (i := 0) (a := r) rfl (j := 24) rfl rfl (v := (.int (Int32.ofNat ((u + t2) + (vc + t2))))) rfl rfl (g := K65.g) rfl rfl (hD 120 rfl)
  have K67 : Rc K0 T66 (mkF m 361 #[sR r, sI 0, sR vv, sI (Int32.ofNat vc), sR pp, sI 0, sI (Int32.ofNat t2), sI (Int32.ofNat (vc + t2)), sI 1, sR bk] [(kI 1)]) := fun t k => K65 t (st66 t (XS.iload X66.here hx rfl (hD 121 rfl) rfl k))
  obtain ⟨fs, hr, hrun, hended, hWm, hsame⟩ := X66.leave (v := some (.int (1 : Int32))) (fun h => by rw [Bd.returns] at h; cases h)
  refine ⟨_, _, pre0 _ (K67 _ (retI X66 hx Bd.returns (hD 122 rfl) hr)), hrun, hended, _, _, rfl, ?_, ⟨_, rfl⟩, hWm, hsame.mono (by decide) (by decide)⟩
  show QrmPL01 Z r ks rgs ns fch fk kl frg fac fcm ftr acs cms sus prb lr so nr bo shf vcn bl bk vv pp vc t2 u g_ftr g_fch g_bl g_bk g_lr g_so g_nr g_bo g_shf g_vcn g_vv g_pp Rr n0 _ T66.heap _
  rw [e66]
  exact ⟨rfl, N66, W66q⟩
abbrev y_ts : MethodName := ⟨"com/example/sambre/sambre/engine/Rows", "addToShape", "(I[D[DI)I"⟩
theorem pd_ts : parseMethodDescriptor "(I[D[DI)I" = some ⟨[.int, (.array .double), (.array .double), .int], some .int⟩ := by decide +kernel
def Ld_ts : List (Nat × Instr × Nat) := [(0, .aload_n 0, 1), (1, .iload_n 1, 1), (2, .aload_n 3, 1), (3, .iload 4, 2), (5, .aload_n 2, 1), (6, .invokevirtual 112, 3), (9, .ireturn, 1)]
set_option maxRecDepth 65536 in
theorem d_ts : ∀ x ∈ Ld_ts, decode prog_87_method_3_code x.1 = .ok (x.2.1, x.2.2) := by decide +kernel
theorem ef_rmTS (m : MethodId) (r ks rgs ns fch fk kl frg fac fcm ftr acs cms sus prb : Addr) (lr so nr bo shf vcn bl bk vv pp : Addr) (vc t2 u : Nat) (g_ftr g_fch g_bl g_bk g_lr g_so g_nr g_bo g_shf g_vcn g_vv g_pp : Nat → Value) : entryFrame m #[(.ref r), (.int (0 : Int32)), (.ref pp), (.ref vv), (.int (Int32.ofNat vc))] 5 = mkF m 0 #[.val (.ref r), .val (.int (0 : Int32)), .val (.ref pp), .val (.ref vv), .val (.int (Int32.ofNat vc))] [] := by first | (simp [entryFrame, mkF, argsToLocals, Value.category]; done) | rfl
def QrmTS (Z : State) (r ks rgs ns fch fk kl frg fac fcm ftr acs cms sus prb : Addr) (lr so nr bo shf vcn bl bk vv pp : Addr) (vc t2 u : Nat) (g_ftr g_fch g_bl g_bk g_lr g_so g_nr g_bo g_shf g_vcn g_vv g_pp : Nat → Value) (Rr : List (Addr × (Cell → Prop))) (n0 : Nat) (v : Option Value) (h : Heap) (L : List Loc) : Prop := v = some (.int (1 : Int32)) ∧ Fr n0 L ∧ Wo n0 h ((r, oR Z [(kR ks), (kR rgs), (kR ns), (kR fch), (kR fk), (kR kl), (kR frg), (kR fac), (kR fcm), (kR ftr), (kR acs), (kR cms), (kR sus), (kR prb), (kI 1), (kR lr), (kI 2), (kR so), (kR nr), (kR bo), (kR shf), (kR vcn), (kR bl), (kI 2), (kI (Int32.ofNat ((u + t2) + (vc + t2))))]) :: (ftr, Ar Z .int 17 g_ftr) :: (fch, Ar Z .int 17 g_fch) :: (bl, Pg Z .double 4 g_bl) :: (bk, Ar Z .double 64 (cpy g_pp (cpy g_vv g_bk 0 (u + t2) vc) 0 ((u + t2) + vc) t2)) :: (lr, Ar Z .int 4 (upd g_lr 0 (kI 1))) :: (so, Ar Z .int 4 (upd g_so 1 (kI 0))) :: (nr, Ar Z .int 4 (upd g_nr 1 (kI 0))) :: (bo, Ar Z .int 4 (upd g_bo 1 (kI 1))) :: (shf, Ar Z .int 4 (upd g_shf 1 (kI (Int32.ofNat ((u + t2) + vc))))) :: (vcn, Ar Z .int 4 (upd g_vcn 1 (kI (Int32.ofNat vc)))) :: (vv, Ar Z .double 3 g_vv) :: (pp, Ar Z .double 3 g_pp) :: Rr)
set_option maxRecDepth 65536 in
set_option maxHeartbeats 40000000 in
theorem rmTS (l : Launch) (Z : State) (a0 : Array Value) (hw : ∀ d ∈ tables_1, d.before a0 Z = true) (ws : List Jvm.Cond) (r ks rgs ns fch fk kl frg fac fcm ftr acs cms sus prb : Addr) (lr so nr bo shf vcn bl bk vv pp : Addr) (vc t2 u : Nat) (g_ftr g_fch g_bl g_bk g_lr g_so g_nr g_bo g_shf g_vcn g_vv g_pp : Nat → Value) (Rr : List (Addr × (Cell → Prop))) (h0 : Heap) (n0 : Nat) (W0 : Wo n0 h0 ((r, oR Z [(kR ks), (kR rgs), (kR ns), (kR fch), (kR fk), (kR kl), (kR frg), (kR fac), (kR fcm), (kR ftr), (kR acs), (kR cms), (kR sus), (kR prb), (kI 1), (kR lr), (kI 1), (kR so), (kR nr), (kR bo), (kR shf), (kR vcn), (kR bl), (kI 2), (kI (Int32.ofNat (u + t2)))]) :: (ftr, Ar Z .int 17 g_ftr) :: (fch, Ar Z .int 17 g_fch) :: (bl, Pg Z .double 4 g_bl) :: (bk, Ar Z .double 64 g_bk) :: (lr, Ar Z .int 4 g_lr) :: (so, Ar Z .int 4 g_so) :: (nr, Ar Z .int 4 g_nr) :: (bo, Ar Z .int 4 g_bo) :: (shf, Ar Z .int 4 g_shf) :: (vcn, Ar Z .int 4 g_vcn) :: (vv, Ar Z .double 3 g_vv) :: (pp, Ar Z .double 3 g_pp) :: Rr)) (hc3 : vc ≤ 3) (ht3 : t2 ≤ 3) (hu3 : u ≤ 3) (h_ftr0 : g_ftr 0 = (.int (0 : Int32))) (h_ftr2 : g_ftr 2 = (.int (Int32.ofNat t2))) (h_fch0 : g_fch 0 = (.int (0 : Int32))) (h_fch1 : g_fch 1 = (.int (2 : Int32))) (h5 : g_bl 1 = .ref bk) (h6 : g_lr 0 = .int (0 : Int32)) :
    MetFree l y_ts (head1 (Jvm.Cond.code y_ts prog_87_method_3_code 5 (some .int) :: ws) ({ frames := 2, cells := 0, slots := 0, locals := 39 } : Room)) (fun aa U => aa = #[(.ref r), (.int (0 : Int32)), (.ref pp), (.ref vv), (.int (Int32.ofNat vc))] ∧ Z.Warmed39 U.vm ∧ U.heap = h0) (fun _ _ _ _ _ => True) (fun _ U ou U' => ∃ v L, ou = .returned v ∧ QrmTS Z r ks rgs ns fch fk kl frg fac fcm ftr acs cms sus prb lr so nr bo shf vcn bl bk vv pp vc t2 u g_ftr g_fch g_bl g_bk g_lr g_so g_nr g_bo g_shf g_vcn g_vv g_pp Rr n0 v U'.heap L ∧ FrameEnd U ou U' L ({ frames := 2, cells := 0, slots := 0, locals := 39 } : Room).cells ({ frames := 2, cells := 0, slots := 0, locals := 39 } : Room).slots) := by
  refine MetFree.of_bodySF (plainFor_of_name pn_Rows) hisR ?_
  intro p e s m args below meth c s₁ Bd hml0 hP hK
  obtain ⟨rfl, hZ, hh⟩ := hP
  have hx := Bd.exec
  have hby := Bd.bytes
  have hml : c.maxLocals = 5 := hml0
  have hD : ∀ (k : Nat) {pc : Nat} {i : Instr} {n : Nat}, Ld_ts[k]? = some (pc, i, n) → decode c.code pc = .ok (i, n) := by intro k pc i n h; exact hb hby (d_ts (pc, i, n) (mi k h))
  have hown : s.vm.findClass "com/example/sambre/sambre/engine/Rows" = some m.cls := findClass_of_methodNamed Bd.named
  have hnm := (name_of_methodNamed Bd.named Bd.method).1
  have X0 : Stand p l e ({ frames := 2, cells := 0, slots := 0, locals := 39 } : Room) s m #[(.ref r), (.int (0 : Int32)), (.ref pp), (.ref vv), (.int (Int32.ofNat vc))] below meth c s₁ [] 0 0 := Stand.of_body Bd
  have e0 : s₁.heap = h0 := by rw [← hh, Bd.state]; rfl
  have N0 := Fr.nil n0
  obtain ⟨F0, hF0⟩ : ∃ F, F = mkF m 0 #[.val (.ref r), .val (.int (0 : Int32)), .val (.ref pp), .val (.ref vv), .val (.int (Int32.ofNat vc))] [] := ⟨_, rfl⟩
  have pre0 : ∀ t, Steps p.tables e below (s₁.setTop F0) t → Steps p.tables e below (s₁.setTop (entryFrame m #[(.ref r), (.int (0 : Int32)), (.ref pp), (.ref vv), (.int (Int32.ofNat vc))] 5)) t := fun t k => castTop ((ef_rmTS m r ks rgs ns fch fk kl frg fac fcm ftr acs cms sus prb lr so nr bo shf vcn bl bk vv pp vc t2 u g_ftr g_fch g_bl g_bk g_lr g_so g_nr g_bo g_shf g_vcn g_vv g_pp).trans hF0.symm) k
  have K0 : Rch p e below s₁ F0 s₁ (mkF m 0 #[.val (.ref r), .val (.int (0 : Int32)), .val (.ref pp), .val (.ref vv), .val (.int (Int32.ofNat vc))] []) := fun t k => castTop hF0 k
  have K1 : Rc K0 s₁ (mkF m 6 #[sR r, sI 0, sR pp, sR vv, sI (Int32.ofNat vc)] [(kR pp), (kI (Int32.ofNat vc)), (kR vv), (kI 0), (kR r)]) := fun t k => K0 t (by
    refine XS.aloadN X0.here hx rfl (hD 0 rfl) rfl rfl ?_
    refine XS.iloadN X0.here hx rfl (hD 1 rfl) rfl ?_
    refine XS.aloadN X0.here hx rfl (hD 2 rfl) rfl rfl ?_
    refine XS.iload X0.here hx rfl (hD 3 rfl) rfl ?_
    refine XS.aloadN X0.here hx rfl (hD 4 rfl) rfl rfl ?_
    exact k)
  obtain ⟨cq2, q2, q2'⟩ := (W0.exa (i := 0) rfl).cell
  obtain ⟨_, _, ⟨T2, L2, k2, n2⟩, -, X2, ⟨Lc2, hQ2, l2, y2, z2⟩, st2⟩ := Jvm.OwnKit.privB X0 hx (y := y_pl) hown (mvT hZ (hw _ (mi 180 rfl))) (mvT hZ (hw _ (mi 181 rfl))) (mvT hZ (hw _ (mi 6 rfl))) (Cond.privateMethod_at (mvP hZ (hw _ (mi 182 rfl)) (args := #[]))) (mvT hZ (hw _ (mi 183 rfl))) (by decide) (backOf (W := 0) (rmPL01 l Z a0 hw [] r ks rgs ns fch fk kl frg fac fcm ftr acs cms sus prb lr so nr bo shf vcn bl bk vv pp vc t2 u g_ftr g_fch g_bl g_bk g_lr g_so g_nr g_bo g_shf g_vcn g_vv g_pp (Rr) h0 n0 W0 hc3 ht3 hu3 h_ftr0 h_ftr2 h_fch0 h_fch1 h5 h6) hZ (hw _ (mi 183 rfl)) (hw _ (mi 7 rfl)) (by decide) (by decide)) (g := K1.g) rfl (by rw [hml]; rfl) (Steps.refl _) (a := r) (by rw [e0]; exact q2) q2' (argsL := [(.int (0 : Int32)), (.ref vv), (.int (Int32.ofNat vc)), (.ref pp)]) (rest := []) (lenOf pd_pl rfl) rfl (by show 2 * 0 + _ ≤ _; exact Nat.le_of_eq rfl) (hD 5 rfl) (fun _ _ => ⟨rfl, e0, (by decide : 0 + 0 ≤ _), (by decide : 0 + 0 ≤ _)⟩)
  dsimp only [Pt.U, Pt.locs, Pt.cells, Pt.slots] at X2 l2 y2 z2 st2 hQ2
  subst l2 y2 z2
  obtain ⟨rfl, N2q, W2⟩ := hQ2
  have N2 := Fr.app N0 N2q
  have K3 : Rc K0 T2 (mkF m 9 #[sR r, sI 0, sR pp, sR vv, sI (Int32.ofNat vc)] [(kI 1)]) := fun t k => K1 t (st2.trans (k))
  obtain ⟨fs, hr, hrun, hended, hWm, hsame⟩ := X2.leave (v := some (.int (1 : Int32))) (fun h => by rw [Bd.returns] at h; cases h)
  refine ⟨_, _, pre0 _ (K3 _ (retI X2 hx Bd.returns (hD 6 rfl) hr)), hrun, hended, _, _, rfl, ?_, ⟨_, rfl⟩, hWm, hsame.mono (by decide) (by decide)⟩
  show QrmTS Z r ks rgs ns fch fk kl frg fac fcm ftr acs cms sus prb lr so nr bo shf vcn bl bk vv pp vc t2 u g_ftr g_fch g_bl g_bk g_lr g_so g_nr g_bo g_shf g_vcn g_vv g_pp Rr n0 _ T2.heap _
  exact ⟨rfl, N2, W2⟩
abbrev y_add : MethodName := ⟨"com/example/sambre/sambre/engine/Rows", "add", "(Lcom/example/sambre/sambre/engine/Rows$Builder;[II)I"⟩
theorem pd_add : parseMethodDescriptor "(Lcom/example/sambre/sambre/engine/Rows$Builder;[II)I" = some ⟨[(.object "com/example/sambre/sambre/engine/Rows$Builder"), (.array .int), .int], some .int⟩ := by decide +kernel
def Ld_add : List (Nat × Instr × Nat) := [(0, .aload_n 0, 1), (1, .getfield 53, 3), (4, .istore 4, 2), (6, .aload_n 0, 1), (7, .getfield 19, 3), (10, .iload 4, 2), (12, .iaload, 1), (13, .istore 5, 2), (15, .aload_n 1, 1), (16, .getfield 57, 3), (19, .istore 6, 2), (21, .aload_n 0, 1), (22, .getfield 31, 3), (25, .iload 5, 2), (27, .iaload, 1), (28, .istore 7, 2), (30, .aload_n 0, 1), (31, .getfield 34, 3), (34, .iload 5, 2), (36, .iaload, 1), (37, .istore 8, 2), (39, .aload_n 0, 1), (40, .getfield 37, 3), (43, .iload 5, 2), (45, .iaload, 1), (46, .istore 9, 2), (48, .aload_n 0, 1), (49, .getfield 22, 3), (52, .iload 4, 2), (54, .iaload, 1), (55, .istore 10, 2), (57, .iload 10, 2), (59, .aload_n 1, 1), (60, .getfield 62, 3), (63, .ifnonnull 7, 3), (66, .iconst 0, 1), (67, .goto 7, 3), (74, .iadd, 1), (75, .istore 11, 2), (77, .aload_n 0, 1), (78, .getfield 28, 3), (81, .iload 4, 2), (83, .iaload, 1), (84, .istore 12, 2), (86, .aload_n 0, 1), (87, .getfield 67, 3), (90, .ifnonnull 14, 3), (93, .aload_n 1, 1), (94, .getfield 70, 3), (97, .ifCond .ne 7, 3), (100, .iconst 1, 1), (101, .goto 4, 3), (104, .iconst 0, 1), (105, .istore 13, 2), (107, .iload 4, 2), (109, .aload_n 0, 1), (110, .getfield 16, 3), (113, .arraylength, 1), (114, .if_icmp .eq 116, 3), (117, .iload 4, 2), (119, .iconst 1, 1), (120, .iadd, 1), (121, .aload_n 0, 1), (122, .getfield 19, 3), (125, .arraylength, 1), (126, .if_icmp .eq 104, 3), (129, .iload 5, 2), (131, .iload 6, 2), (133, .iadd, 1), (134, .aload_n 0, 1), (135, .getfield 31, 3), (138, .arraylength, 1), (139, .if_icmp .ge 91, 3), (142, .iload 7, 2), (144, .aload_n 1, 1), (145, .getfield 73, 3), (148, .iadd, 1), (149, .aload_n 0, 1), (150, .getfield 40, 3), (153, .arraylength, 1), (154, .if_icmp .gt 76, 3), (157, .iload 8, 2), (159, .aload_n 1, 1), (160, .getfield 76, 3), (163, .iadd, 1), (164, .aload_n 0, 1), (165, .getfield 43, 3), (168, .arraylength, 1), (169, .if_icmp .gt 61, 3), (172, .iload 9, 2), (174, .aload_n 1, 1), (175, .getfield 79, 3), (178, .iadd, 1), (179, .aload_n 0, 1), (180, .getfield 46, 3), (183, .arraylength, 1), (184, .if_icmp .gt 46, 3), (187, .iload 13, 2), (189, .ifCond .eq 18, 3), (192, .iload 9, 2), (194, .aload_n 1, 1), (195, .getfield 79, 3), (198, .iadd, 1), (199, .aload_n 0, 1), (200, .getfield 49, 3), (203, .arraylength, 1), (204, .if_icmp .gt 26, 3), (207, .iload 11, 2), (209, .aload_n 0, 1), (210, .getfield 7, 3), (213, .arraylength, 1), (214, .if_icmp .gt 16, 3), (217, .iload 12, 2), (219, .aload_n 2, 1), (220, .arraylength, 1), (221, .iadd, 1), (222, .aload_n 0, 1), (223, .getfield 13, 3), (226, .arraylength, 1), (227, .if_icmp .le 17, 3), (244, .iconst 0, 1), (245, .istore 14, 2), (247, .iload 14, 2), (249, .iload 6, 2), (251, .if_icmp .ge 69, 3), (254, .aload_n 0, 1), (255, .getfield 31, 3), (258, .iload 5, 2), (260, .iload 14, 2), (262, .iadd, 1), (263, .iload 7, 2), (265, .aload_n 1, 1), (266, .getfield 86, 3), (269, .iload 14, 2), (271, .iaload, 1), (272, .iadd, 1), (273, .iastore, 1), (274, .aload_n 0, 1), (275, .getfield 34, 3), (278, .iload 5, 2), (280, .iload 14, 2), (282, .iadd, 1), (283, .iload 8, 2), (285, .aload_n 1, 1), (286, .getfield 87, 3), (289, .iload 14, 2), (291, .iaload, 1), (292, .iadd, 1), (293, .iastore, 1), (294, .aload_n 0, 1), (295, .getfield 37, 3), (298, .iload 5, 2), (300, .iload 14, 2), (302, .iadd, 1), (303, .iload 9, 2), (305, .aload_n 1, 1), (306, .getfield 88, 3), (309, .iload 14, 2), (311, .iaload, 1), (312, .iadd, 1), (313, .iastore, 1), (314, .iinc 14 1, 3), (317, .goto (-70), 3), (320, .aload_n 0, 1), (321, .getfield 31, 3), (324, .iload 5, 2), (326, .iload 6, 2), (328, .iadd, 1), (329, .iload 7, 2), (331, .aload_n 1, 1), (332, .getfield 73, 3), (335, .iadd, 1), (336, .iastore, 1), (337, .aload_n 0, 1), (338, .getfield 34, 3), (341, .iload 5, 2), (343, .iload 6, 2), (345, .iadd, 1), (346, .iload 8, 2), (348, .aload_n 1, 1), (349, .getfield 76, 3), (352, .iadd, 1), (353, .iastore, 1), (354, .aload_n 0, 1), (355, .getfield 37, 3), (358, .iload 5, 2), (360, .iload 6, 2), (362, .iadd, 1), (363, .iload 9, 2), (365, .aload_n 1, 1), (366, .getfield 79, 3), (369, .iadd, 1), (370, .iastore, 1), (371, .aload_n 1, 1), (372, .getfield 89, 3), (375, .iconst 0, 1), (376, .aload_n 0, 1), (377, .getfield 40, 3), (380, .iload 7, 2), (382, .aload_n 1, 1), (383, .getfield 73, 3), (386, .invokestatic 90, 3), (389, .aload_n 1, 1), (390, .getfield 96, 3), (393, .iconst 0, 1), (394, .aload_n 0, 1), (395, .getfield 43, 3), (398, .iload 8, 2), (400, .aload_n 1, 1), (401, .getfield 76, 3), (404, .invokestatic 90, 3), (407, .aload_n 1, 1), (408, .getfield 97, 3), (411, .iconst 0, 1), (412, .aload_n 0, 1), (413, .getfield 46, 3), (416, .iload 9, 2), (418, .aload_n 1, 1), (419, .getfield 79, 3), (422, .invokestatic 90, 3), (425, .aload_n 1, 1), (426, .getfield 62, 3), (429, .ifnull 22, 3), (451, .aload_n 2, 1), (452, .iconst 0, 1), (453, .aload_n 0, 1), (454, .getfield 13, 3), (457, .iload 12, 2), (459, .aload_n 2, 1), (460, .arraylength, 1), (461, .invokestatic 90, 3), (464, .aload_n 0, 1), (465, .getfield 16, 3), (468, .iload 4, 2), (470, .iload_n 3, 1), (471, .iastore, 1), (472, .aload_n 0, 1), (473, .getfield 25, 3), (476, .iload 4, 2), (478, .aload_n 1, 1), (479, .getfield 62, 3), (482, .ifnonnull 7, 3), (485, .iconst (-1), 1), (486, .goto 8, 3), (494, .iastore, 1), (495, .aload_n 0, 1), (496, .getfield 19, 3), (499, .iload 4, 2), (501, .iconst 1, 1), (502, .iadd, 1), (503, .iload 5, 2), (505, .iload 6, 2), (507, .iadd, 1), (508, .iastore, 1), (509, .aload_n 0, 1), (510, .getfield 22, 3), (513, .iload 4, 2), (515, .iconst 1, 1), (516, .iadd, 1), (517, .iload 11, 2), (519, .iastore, 1), (520, .aload_n 0, 1), (521, .getfield 28, 3), (524, .iload 4, 2), (526, .iconst 1, 1), (527, .iadd, 1), (528, .iload 12, 2), (530, .aload_n 2, 1), (531, .arraylength, 1), (532, .iadd, 1), (533, .iastore, 1), (534, .aload_n 0, 1), (535, .dup, 1), (536, .getfield 53, 3), (539, .iconst 1, 1), (540, .iadd, 1), (541, .putfield 53, 3), (544, .iload 13, 2), (546, .ifCond .eq 37, 3), (549, .aload_n 1, 1), (550, .getfield 98, 3), (553, .iconst 0, 1), (554, .aload_n 0, 1), (555, .getfield 49, 3), (558, .iload 9, 2), (560, .aload_n 1, 1), (561, .getfield 79, 3), (564, .invokestatic 90, 3), (567, .aload_n 0, 1), (568, .dup, 1), (569, .getfield 99, 3), (572, .dup_x1, 1), (573, .iconst 1, 1), (574, .iadd, 1), (575, .putfield 99, 3), (578, .istore 14, 2), (580, .goto 57, 3), (583, .aload_n 0, 1), (584, .getfield 67, 3), (587, .ifnonnull 7, 3), (590, .aload_n 0, 1), (591, .invokevirtual 102, 3), (594, .aload_n 0, 1), (595, .aload_n 0, 1), (596, .getfield 67, 3), (599, .aload_n 0, 1), (600, .getfield 53, 3), (603, .invokestatic 105, 3), (606, .putfield 67, 3), (609, .aload_n 0, 1), (610, .getfield 67, 3), (613, .iload 4, 2), (615, .iconst (-1), 1), (616, .iastore, 1), (617, .aload_n 0, 1), (618, .iload 4, 2), (620, .aload_n 1, 1), (621, .getfield 109, 3), (624, .aload_n 1, 1), (625, .getfield 70, 3), (628, .aload_n 1, 1), (629, .getfield 98, 3), (632, .invokevirtual 112, 3), (635, .istore 14, 2), (637, .iload 14, 2), (639, .ireturn, 1)]
set_option maxRecDepth 65536 in
theorem d_add : ∀ x ∈ Ld_add, decode prog_87_method_2_code x.1 = .ok (x.2.1, x.2.2) := by decide +kernel
theorem ef_rmADF (m : MethodId) (r ks rgs ns fch fk kl frg fac fcm ftr acs cms sus prb : Addr) (b fa ac fc cm ft su pr : Addr) (no vv : Addr) (u t1 t2 : Nat) (g_ks g_rgs g_ns g_fch g_fk g_kl g_frg g_fac g_fcm g_ftr g_acs g_cms g_sus g_prb : Nat → Value) (f1 f2 f3 f4 f5 f6 f7 f8 g_vv : Nat → Value) : entryFrame m #[(.ref r), (.ref b), (.ref no), (.int (-1 : Int32))] 15 = mkF m 0 #[.val (.ref r), .val (.ref b), .val (.ref no), .val (.int (-1 : Int32)), .unset, .unset, .unset, .unset, .unset, .unset, .unset, .unset, .unset, .unset, .unset] [] := by first | (simp [entryFrame, mkF, argsToLocals, Value.category]; done) | rfl
def QrmADF (Z : State) (r ks rgs ns fch fk kl frg fac fcm ftr acs cms sus prb : Addr) (b fa ac fc cm ft su pr : Addr) (no vv : Addr) (u t1 t2 : Nat) (g_ks g_rgs g_ns g_fch g_fk g_kl g_frg g_fac g_fcm g_ftr g_acs g_cms g_sus g_prb : Nat → Value) (f1 f2 f3 f4 f5 f6 f7 f8 g_vv : Nat → Value) (Rr : List (Addr × (Cell → Prop))) (n0 : Nat) (v : Option Value) (h : Heap) (L : List Loc) : Prop := v = some (.int (0 : Int32)) ∧ Fr n0 L ∧ Wo n0 h ((r, oR Z [(kR ks), (kR rgs), (kR ns), (kR fch), (kR fk), (kR kl), (kR frg), (kR fac), (kR fcm), (kR ftr), (kR acs), (kR cms), (kR sus), (kR prb), (kI 1), .null, (kI 1), .null, .null, .null, .null, .null, .null, (kI 0), (kI 0)]) :: (b, oB Z [.null, (kI 0), (kR vv), (kI (Int32.ofNat u)), (kR fa), (kR ac), (kR fc), (kR cm), (kR ft), (kR su), (kR pr), (kI 2), (kI 0), (kI 0), (kI (Int32.ofNat t2)), .null]) :: (ks, Ar Z .int 0 g_ks) :: (rgs, Ar Z .int 0 (cpy f8 g_rgs 0 0 0)) :: (ns, Ar Z .int 16 (upd g_ns 0 (kI (-1)))) :: (fch, Ar Z .int 17 (upd g_fch 1 (kI 2))) :: (fk, Ar Z .int 17 (upd g_fk 1 (kI 0))) :: (kl, Ar Z .int 16 (upd g_kl 0 (kI (-1)))) :: (frg, Ar Z .int 17 (upd g_frg 1 (kI 0))) :: (fac, Ar Z .int 17 (upd (upd (upd g_fac 0 (kI 0)) 1 (kI 0)) 2 (kI 0))) :: (fcm, Ar Z .int 17 (upd (upd (upd g_fcm 0 (kI 0)) 1 (kI 0)) 2 (kI 0))) :: (ftr, Ar Z .int 17 (upd (upd (upd g_ftr 0 (kI 0)) 1 (kI (Int32.ofNat t1))) 2 (kI (Int32.ofNat t2)))) :: (acs, Ar Z .int 16 (cpy f4 g_acs 0 0 0)) :: (cms, Ar Z .int 16 (cpy f5 g_cms 0 0 0)) :: (sus, Ar Z .int 64 (cpy f6 g_sus 0 0 t2)) :: (prb, Ar Z .double 64 (cpy f7 g_prb 0 0 t2)) :: (fa, Ar Z .int 2 f1) :: (fc, Ar Z .int 2 f2) :: (ft, Ar Z .int 2 f3) :: (ac, Ar Z .int 2 f4) :: (cm, Ar Z .int 2 f5) :: (su, Ar Z .int 4 f6) :: (pr, Ar Z .double 4 f7) :: (no, Ar Z .int 0 f8) :: (vv, Ar Z .double 3 g_vv) :: Rr)
set_option maxRecDepth 65536 in
set_option maxHeartbeats 40000000 in
theorem rmADF (l : Launch) (Z : State) (a0 : Array Value) (hw : ∀ d ∈ tables_1, d.before a0 Z = true) (ws : List Jvm.Cond) (r ks rgs ns fch fk kl frg fac fcm ftr acs cms sus prb : Addr) (b fa ac fc cm ft su pr : Addr) (no vv : Addr) (u t1 t2 : Nat) (g_ks g_rgs g_ns g_fch g_fk g_kl g_frg g_fac g_fcm g_ftr g_acs g_cms g_sus g_prb : Nat → Value) (f1 f2 f3 f4 f5 f6 f7 f8 g_vv : Nat → Value) (Rr : List (Addr × (Cell → Prop))) (h0 : Heap) (n0 : Nat) (W0 : Wo n0 h0 ((r, oR Z [(kR ks), (kR rgs), (kR ns), (kR fch), (kR fk), (kR kl), (kR frg), (kR fac), (kR fcm), (kR ftr), (kR acs), (kR cms), (kR sus), (kR prb), (kI 0), .null, (kI 0), .null, .null, .null, .null, .null, .null, (kI 0), (kI 0)]) :: (b, oB Z [.null, (kI 0), (kR vv), (kI (Int32.ofNat u)), (kR fa), (kR ac), (kR fc), (kR cm), (kR ft), (kR su), (kR pr), (kI 2), (kI 0), (kI 0), (kI (Int32.ofNat t2)), .null]) :: (ks, Ar Z .int 0 g_ks) :: (rgs, Ar Z .int 0 g_rgs) :: (ns, Ar Z .int 16 g_ns) :: (fch, Ar Z .int 17 g_fch) :: (fk, Ar Z .int 17 g_fk) :: (kl, Ar Z .int 16 g_kl) :: (frg, Ar Z .int 17 g_frg) :: (fac, Ar Z .int 17 g_fac) :: (fcm, Ar Z .int 17 g_fcm) :: (ftr, Ar Z .int 17 g_ftr) :: (acs, Ar Z .int 16 g_acs) :: (cms, Ar Z .int 16 g_cms) :: (sus, Ar Z .int 64 g_sus) :: (prb, Ar Z .double 64 g_prb) :: (fa, Ar Z .int 2 f1) :: (fc, Ar Z .int 2 f2) :: (ft, Ar Z .int 2 f3) :: (ac, Ar Z .int 2 f4) :: (cm, Ar Z .int 2 f5) :: (su, Ar Z .int 4 f6) :: (pr, Ar Z .double 4 f7) :: (no, Ar Z .int 0 f8) :: (vv, Ar Z .double 3 g_vv) :: Rr)) (hu0 : u = 0) (ht3 : t2 ≤ 3) (h_fch : g_fch 0 = (.int (0 : Int32))) (h_fk : g_fk 0 = (.int (0 : Int32))) (h_frg : g_frg 0 = (.int (0 : Int32))) (h_fac : g_fac 0 = (.int (0 : Int32))) (h_fcm : g_fcm 0 = (.int (0 : Int32))) (h_ftr : g_ftr 0 = (.int (0 : Int32))) (h_f10 : f1 0 = (.int (0 : Int32))) (h_f11 : f1 1 = (.int (0 : Int32))) (h_f20 : f2 0 = (.int (0 : Int32))) (h_f21 : f2 1 = (.int (0 : Int32))) (h_f30 : f3 0 = (.int (0 : Int32))) (h_f31 : f3 1 = (.int (Int32.ofNat t1))) :
    MetFree l y_add (head1 (Jvm.Cond.code y_add prog_87_method_2_code 15 (some .int) :: ws) ({ frames := 1, cells := 0, slots := 0, locals := 18 } : Room)) (fun aa U => aa = #[(.ref r), (.ref b), (.ref no), (.int (-1 : Int32))] ∧ Z.Warmed39 U.vm ∧ U.heap = h0) (fun _ _ _ _ _ => True) (fun _ U ou U' => ∃ v L, ou = .returned v ∧ QrmADF Z r ks rgs ns fch fk kl frg fac fcm ftr acs cms sus prb b fa ac fc cm ft su pr no vv u t1 t2 g_ks g_rgs g_ns g_fch g_fk g_kl g_frg g_fac g_fcm g_ftr g_acs g_cms g_sus g_prb f1 f2 f3 f4 f5 f6 f7 f8 g_vv Rr n0 v U'.heap L ∧ FrameEnd U ou U' L ({ frames := 1, cells := 0, slots := 0, locals := 18 } : Room).cells ({ frames := 1, cells := 0, slots := 0, locals := 18 } : Room).slots) := by
  refine MetFree.of_bodySF (plainFor_of_name pn_Rows) hisR ?_
  intro p e s m args below meth c s₁ Bd hml0 hP hK
  obtain ⟨rfl, hZ, hh⟩ := hP
  have hx := Bd.exec
  have hby := Bd.bytes
  have hml : c.maxLocals = 15 := hml0
  have hD : ∀ (k : Nat) {pc : Nat} {i : Instr} {n : Nat}, Ld_add[k]? = some (pc, i, n) → decode c.code pc = .ok (i, n) := by intro k pc i n h; exact hb hby (d_add (pc, i, n) (mi k h))
  have hown : s.vm.findClass "com/example/sambre/sambre/engine/Rows" = some m.cls := findClass_of_methodNamed Bd.named
  have hnm := (name_of_methodNamed Bd.named Bd.method).1
  have X0 : Stand p l e ({ frames := 1, cells := 0, slots := 0, locals := 18 } : Room) s m #[(.ref r), (.ref b), (.ref no), (.int (-1 : Int32))] below meth c s₁ [] 0 0 := Stand.of_body Bd
  have e0 : s₁.heap = h0 := by rw [← hh, Bd.state]; rfl
  have N0 := Fr.nil n0
  obtain ⟨F0, hF0⟩ : ∃ F, F = mkF m 0 #[.val (.ref r), .val (.ref b), .val (.ref no), .val (.int (-1 : Int32)), .unset, .unset, .unset, .unset, .unset, .unset, .unset, .unset, .unset, .unset, .unset] [] := ⟨_, rfl⟩
  have pre0 : ∀ t, Steps p.tables e below (s₁.setTop F0) t → Steps p.tables e below (s₁.setTop (entryFrame m #[(.ref r), (.ref b), (.ref no), (.int (-1 : Int32))] 15)) t := fun t k => castTop ((ef_rmADF m r ks rgs ns fch fk kl frg fac fcm ftr acs cms sus prb b fa ac fc cm ft su pr no vv u t1 t2 g_ks g_rgs g_ns g_fch g_fk g_kl g_frg g_fac g_fcm g_ftr g_acs g_cms g_sus g_prb f1 f2 f3 f4 f5 f6 f7 f8 g_vv).trans hF0.symm) k
  have K0 : Rch p e below s₁ F0 s₁ (mkF m 0 #[.val (.ref r), .val (.ref b), .val (.ref no), .val (.int (-1 : Int32)), .unset, .unset, .unset, .unset, .unset, .unset, .unset, .unset, .unset, .unset, .unset] []) := fun t k => castTop hF0 k
  have K1 : Rc K0 s₁ (mkF m 1 #[sR r, sR b, sR no, sI (-1), sU, sU, sU, sU, sU, sU, sU, sU, sU, sU, sU] [(kR r)]) := fun t k => K0 t (XS.aloadN X0.here hx rfl (hD 0 rfl) rfl rfl k)
  obtain ⟨T2, X2, e2, st2⟩ := getF X0 hx hZ hown (host := "") (Or.inl (hw _ (mi 101 rfl))) Via.refl e0 (W0.fld (i := 0) rfl (j := 14) rfl rfl) (g := K1.g) rfl rfl (hD 1 rfl)
  have K3 : Rc K0 T2 (mkF m 7 #[sR r, sR b, sR no, sI (-1), sI 0, sU, sU, sU, sU, sU, sU, sU, sU, sU, sU] [(kR r)]) := fun t k => K1 t (st2 t (by
    refine XS.istore X2.here hx rfl (hD 2 rfl) rfl (l' := #[sR r, sR b, sR no, sI (-1), sI 0, sU, sU, sU, sU, sU, sU, sU, sU, sU, sU]) rfl ?_
    refine XS.aloadN X2.here hx rfl (hD 3 rfl) rfl rfl ?_
    exact k))
  obtain ⟨T4, X4, e4, st4⟩ := getF X2 hx hZ hown (host := "") (Or.inl (hw _ (mi 20 rfl))) Via.refl e2 (W0.fld (i := 0) rfl (j := 3) rfl rfl) (g := K3.g) rfl rfl (hD 4 rfl)
  have K5 : Rc K0 T4 (mkF m 16 #[sR r, sR b, sR no, sI (-1), sI 0, sI 0, sU, sU, sU, sU, sU, sU, sU, sU, sU] [(kR b)]) := fun t k => K3 t (st4 t (by
    refine XS.iload X4.here hx rfl (hD 5 rfl) rfl ?_
    refine ialW X4 hx hZ e4 W0 (i := 5) rfl (j := (0 : Int32)) (k := 0) (by decide) (by decide) (by decide) (v := (.int (0 : Int32))) h_fch (g := (mkF m 12 #[sR r, sR b, sR no, sI (-1), sI 0, sU, sU, sU, sU, sU, sU, sU, sU, sU, sU] [(kI 0), (kR fch)])) rfl rfl (hD 6 rfl) _ ?_
    refine XS.istore X4.here hx rfl (hD 7 rfl) rfl (l' := #[sR r, sR b, sR no, sI (-1), sI 0, sI 0, sU, sU, sU, sU, sU, sU, sU, sU, sU]) rfl ?_
    refine XS.aloadN X4.here hx rfl (hD 8 rfl) rfl rfl ?_
    exact k))
  obtain ⟨T6, X6, e6, st6⟩ := getR X4 hx hZ hown (hw _ (mi 103 rfl)) e4 (W0.fld (i := 1) rfl (j := 11) rfl rfl) (g := K5.g) rfl rfl (hD 9 rfl)
  have K7 : Rc K0 T6 (mkF m 22 #[sR r, sR b, sR no, sI (-1), sI 0, sI 0, sI 2, sU, sU, sU, sU, sU, sU, sU, sU] [(kR r)]) := fun t k => K5 t (st6 t (by
    refine XS.istore X6.here hx rfl (hD 10 rfl) rfl (l' := #[sR r, sR b, sR no, sI (-1), sI 0, sI 0, sI 2, sU, sU, sU, sU, sU, sU, sU, sU]) rfl ?_
    refine XS.aloadN X6.here hx rfl (hD 11 rfl) rfl rfl ?_
    exact k))
  obtain ⟨T8, X8, e8, st8⟩ := getF X6 hx hZ hown (host := "") (Or.inl (hw _ (mi 28 rfl))) Via.refl e6 (W0.fld (i := 0) rfl (j := 7) rfl rfl) (g := K7.g) rfl rfl (hD 12 rfl)
  have K9 : Rc K0 T8 (mkF m 31 #[sR r, sR b, sR no, sI (-1), sI 0, sI 0, sI 2, sI 0, sU, sU, sU, sU, sU, sU, sU] [(kR r)]) := fun t k => K7 t (st8 t (by
    refine XS.iload X8.here hx rfl (hD 13 rfl) rfl ?_
    refine ialW X8 hx hZ e8 W0 (i := 9) rfl (j := (0 : Int32)) (k := 0) (by decide) (by decide) (by decide) (v := (.int (0 : Int32))) h_fac (g := (mkF m 27 #[sR r, sR b, sR no, sI (-1), sI 0, sI 0, sI 2, sU, sU, sU, sU, sU, sU, sU, sU] [(kI 0), (kR fac)])) rfl rfl (hD 14 rfl) _ ?_
    refine XS.istore X8.here hx rfl (hD 15 rfl) rfl (l' := #[sR r, sR b, sR no, sI (-1), sI 0, sI 0, sI 2, sI 0, sU, sU, sU, sU, sU, sU, sU]) rfl ?_
    refine XS.aloadN X8.here hx rfl (hD 16 rfl) rfl rfl ?_
    exact k))
  obtain ⟨T10, X10, e10, st10⟩ := getF X8 hx hZ hown (host := "") (Or.inl (hw _ (mi 30 rfl))) Via.refl e8 (W0.fld (i := 0) rfl (j := 8) rfl rfl) (g := K9.g) rfl rfl (hD 17 rfl)
  have K11 : Rc K0 T10 (mkF m 40 #[sR r, sR b, sR no, sI (-1), sI 0, sI 0, sI 2, sI 0, sI 0, sU, sU, sU, sU, sU, sU] [(kR r)]) := fun t k => K9 t (st10 t (by
    refine XS.iload X10.here hx rfl (hD 18 rfl) rfl ?_
    refine ialW X10 hx hZ e10 W0 (i := 10) rfl (j := (0 : Int32)) (k := 0) (by decide) (by decide) (by decide) (v := (.int (0 : Int32))) h_fcm (g := (mkF m 36 #[sR r, sR b, sR no, sI (-1), sI 0, sI 0, sI 2, sI 0, sU, sU, sU, sU, sU, sU, sU] [(kI 0), (kR fcm)])) rfl rfl (hD 19 rfl) _ ?_
    refine XS.istore X10.here hx rfl (hD 20 rfl) rfl (l' := #[sR r, sR b, sR no, sI (-1), sI 0, sI 0, sI 2, sI 0, sI 0, sU, sU, sU, sU, sU, sU]) rfl ?_
    refine XS.aloadN X10.here hx rfl (hD 21 rfl) rfl rfl ?_
    exact k))
  obtain ⟨T12, X12, e12, st12⟩ := getF X10 hx hZ hown (host := "") (Or.inl (hw _ (mi 32 rfl))) Via.refl e10 (W0.fld (i := 0) rfl (j := 9) rfl rfl) (g := K11.g) rfl rfl (hD 22 rfl)
  have K13 : Rc K0 T12 (mkF m 49 #[sR r, sR b, sR no, sI (-1), sI 0, sI 0, sI 2, sI 0, sI 0, sI 0, sU, sU, sU, sU, sU] [(kR r)]) := fun t k => K11 t (st12 t (by
    refine XS.iload X12.here hx rfl (hD 23 rfl) rfl ?_
    refine ialW X12 hx hZ e12 W0 (i := 11) rfl (j := (0 : Int32)) (k := 0) (by decide) (by decide) (by decide) (v := (.int (0 : Int32))) h_ftr (g := (mkF m 45 #[sR r, sR b, sR no, sI (-1), sI 0, sI 0, sI 2, sI 0, sI 0, sU, sU, sU, sU, sU, sU] [(kI 0), (kR ftr)])) rfl rfl (hD 24 rfl) _ ?_
    refine XS.istore X12.here hx rfl (hD 25 rfl) rfl (l' := #[sR r, sR b, sR no, sI (-1), sI 0, sI 0, sI 2, sI 0, sI 0, sI 0, sU, sU, sU, sU, sU]) rfl ?_
    refine XS.aloadN X12.here hx rfl (hD 26 rfl) rfl rfl ?_
    exact k))
  obtain ⟨T14, X14, e14, st14⟩ := getF X12 hx hZ hown (host := "") (Or.inl (hw _ (mi 22 rfl))) Via.refl e12 (W0.fld (i := 0) rfl (j := 4) rfl rfl) (g := K13.g) rfl rfl (hD 27 rfl)
  have K15 : Rc K0 T14 (mkF m 60 #[sR r, sR b, sR no, sI (-1), sI 0, sI 0, sI 2, sI 0, sI 0, sI 0, sI 0, sU, sU, sU, sU] [(kR b), (kI 0)]) := fun t k => K13 t (st14 t (by
    refine XS.iload X14.here hx rfl (hD 28 rfl) rfl ?_
    refine ialW X14 hx hZ e14 W0 (i := 6) rfl (j := (0 : Int32)) (k := 0) (by decide) (by decide) (by decide) (v := (.int (0 : Int32))) h_fk (g := (mkF m 54 #[sR r, sR b, sR no, sI (-1), sI 0, sI 0, sI 2, sI 0, sI 0, sI 0, sU, sU, sU, sU, sU] [(kI 0), (kR fk)])) rfl rfl (hD 29 rfl) _ ?_
    refine XS.istore X14.here hx rfl (hD 30 rfl) rfl (l' := #[sR r, sR b, sR no, sI (-1), sI 0, sI 0, sI 2, sI 0, sI 0, sI 0, sI 0, sU, sU, sU, sU]) rfl ?_
    refine XS.iload X14.here hx rfl (hD 31 rfl) rfl ?_
    refine XS.aloadN X14.here hx rfl (hD 32 rfl) rfl rfl ?_
    exact k))
  obtain ⟨T16, X16, e16, st16⟩ := getR X14 hx hZ hown (hw _ (mi 104 rfl)) e14 (W0.fld (i := 1) rfl (j := 0) rfl rfl) (g := K15.g) rfl rfl (hD 33 rfl)
  have K17 : Rc K0 T16 (mkF m 78 #[sR r, sR b, sR no, sI (-1), sI 0, sI 0, sI 2, sI 0, sI 0, sI 0, sI 0, sI 0, sU, sU, sU] [(kR r)]) := fun t k => K15 t (st16 t (by
    refine XS.ifnonnullNo X16.here hx rfl (hD 34 rfl) rfl ?_
    refine XS.iconst X16.here hx rfl (hD 35 rfl) ?_
    refine XS.goto X16.here hx rfl (pc0 := 67) (pc' := 74) rfl (hD 36 rfl) (by decide) (by decide) ?_
    refine XS.iadd X16.here hx rfl (hD 37 rfl) rfl ?_
    refine XS.istore X16.here hx rfl (hD 38 rfl) rfl (l' := #[sR r, sR b, sR no, sI (-1), sI 0, sI 0, sI 2, sI 0, sI 0, sI 0, sI 0, sI 0, sU, sU, sU]) rfl ?_
    refine XS.aloadN X16.here hx rfl (hD 39 rfl) rfl rfl ?_
    exact k))
  obtain ⟨T18, X18, e18, st18⟩ := getF X16 hx hZ hown (host := "") (Or.inl (hw _ (mi 26 rfl))) Via.refl e16 (W0.fld (i := 0) rfl (j := 6) rfl rfl) (g := K17.g) rfl rfl (hD 40 rfl)
  have K19 : Rc K0 T18 (mkF m 87 #[sR r, sR b, sR no, sI (-1), sI 0, sI 0, sI 2, sI 0, sI 0, sI 0, sI 0, sI 0, sI 0, sU, sU] [(kR r)]) := fun t k => K17 t (st18 t (by
    refine XS.iload X18.here hx rfl (hD 41 rfl) rfl ?_
    refine ialW X18 hx hZ e18 W0 (i := 8) rfl (j := (0 : Int32)) (k := 0) (by decide) (by decide) (by decide) (v := (.int (0 : Int32))) h_frg (g := (mkF m 83 #[sR r, sR b, sR no, sI (-1), sI 0, sI 0, sI 2, sI 0, sI 0, sI 0, sI 0, sI 0, sU, sU, sU] [(kI 0), (kR frg)])) rfl rfl (hD 42 rfl) _ ?_
    refine XS.istore X18.here hx rfl (hD 43 rfl) rfl (l' := #[sR r, sR b, sR no, sI (-1), sI 0, sI 0, sI 2, sI 0, sI 0, sI 0, sI 0, sI 0, sI 0, sU, sU]) rfl ?_
    refine XS.aloadN X18.here hx rfl (hD 44 rfl) rfl rfl ?_
    exact k))
  obtain ⟨T20, X20, e20, st20⟩ := getF X18 hx hZ hown (host := "") (Or.inl (hw _ (mi 105 rfl))) Via.refl e18 (W0.fld (i := 0) rfl (j := 15) rfl rfl) (g := K19.g) rfl rfl (hD 45 rfl)
  have K21 : Rc K0 T20 (mkF m 94 #[sR r, sR b, sR no, sI (-1), sI 0, sI 0, sI 2, sI 0, sI 0, sI 0, sI 0, sI 0, sI 0, sU, sU] [(kR b)]) := fun t k => K19 t (st20 t (by
    refine XS.ifnonnullNo X20.here hx rfl (hD 46 rfl) rfl ?_
    refine XS.aloadN X20.here hx rfl (hD 47 rfl) rfl rfl ?_
    exact k))
  obtain ⟨T22, X22, e22, st22⟩ := getR X20 hx hZ hown (hw _ (mi 107 rfl)) e20 (W0.fld (i := 1) rfl (j := 3) rfl rfl) (g := K21.g) rfl rfl (hD 48 rfl)
  have K23 : Rc K0 T22 (mkF m 110 #[sR r, sR b, sR no, sI (-1), sI 0, sI 0, sI 2, sI 0, sI 0, sI 0, sI 0, sI 0, sI 0, sI 1, sU] [(kR r), (kI 0)]) := fun t k => K21 t (st22 t (by
    refine XS.ifNo X22.here hx rfl (hD 49 rfl) rfl ((if0 _ _).trans (teq (show Int32.ofNat u = 0 from congrArg Int32.ofNat hu0)).2) ?_
    refine XS.iconst X22.here hx rfl (hD 50 rfl) ?_
    refine XS.goto X22.here hx rfl (pc0 := 101) (pc' := 105) rfl (hD 51 rfl) (by decide) (by decide) ?_
    refine XS.istore X22.here hx rfl (hD 53 rfl) rfl (l' := #[sR r, sR b, sR no, sI (-1), sI 0, sI 0, sI 2, sI 0, sI 0, sI 0, sI 0, sI 0, sI 0, sI 1, sU]) rfl ?_
    refine XS.iload X22.here hx rfl (hD 54 rfl) rfl ?_
    refine XS.aloadN X22.here hx rfl (hD 55 rfl) rfl rfl ?_
    exact k))
  obtain ⟨T24, X24, e24, st24⟩ := getF X22 hx hZ hown (host := "") (Or.inl (hw _ (mi 18 rfl))) Via.refl e22 (W0.fld (i := 0) rfl (j := 2) rfl rfl) (g := K23.g) rfl rfl (hD 56 rfl)
  have K25 : Rc K0 T24 (mkF m 122 #[sR r, sR b, sR no, sI (-1), sI 0, sI 0, sI 2, sI 0, sI 0, sI 0, sI 0, sI 0, sI 0, sI 1, sU] [(kR r), (kI 1)]) := fun t k => K23 t (st24 t (by
    refine lenW X24 hx hZ e24 W0 (i := 4) rfl (fun _ q => q) (z := (16 : Int32)) (by decide) (g := (mkF m 113 #[sR r, sR b, sR no, sI (-1), sI 0, sI 0, sI 2, sI 0, sI 0, sI 0, sI 0, sI 0, sI 0, sI 1, sU] [(kR ns), (kI 0)])) rfl rfl (hD 57 rfl) _ ?_
    refine XS.icmpNo X24.here hx rfl (hD 58 rfl) rfl (by decide) ?_
    refine XS.iload X24.here hx rfl (hD 59 rfl) rfl ?_
    refine XS.iconst X24.here hx rfl (hD 60 rfl) ?_
    refine XS.iadd X24.here hx rfl (hD 61 rfl) rfl ?_
    refine XS.aloadN X24.here hx rfl (hD 62 rfl) rfl rfl ?_
    exact k))
  obtain ⟨T26, X26, e26, st26⟩ := getF X24 hx hZ hown (host := "") (Or.inl (hw _ (mi 20 rfl))) Via.refl e24 (W0.fld (i := 0) rfl (j := 3) rfl rfl) (g := K25.g) rfl rfl (hD 63 rfl)
  have K27 : Rc K0 T26 (mkF m 135 #[sR r, sR b, sR no, sI (-1), sI 0, sI 0, sI 2, sI 0, sI 0, sI 0, sI 0, sI 0, sI 0, sI 1, sU] [(kR r), (kI 2)]) := fun t k => K25 t (st26 t (by
    refine lenW X26 hx hZ e26 W0 (i := 5) rfl (fun _ q => q) (z := (17 : Int32)) (by decide) (g := (mkF m 125 #[sR r, sR b, sR no, sI (-1), sI 0, sI 0, sI 2, sI 0, sI 0, sI 0, sI 0, sI 0, sI 0, sI 1, sU] [(kR fch), (kI 1)])) rfl rfl (hD 64 rfl) _ ?_
    refine XS.icmpNo X26.here hx rfl (hD 65 rfl) rfl (by decide) ?_
    refine XS.iload X26.here hx rfl (hD 66 rfl) rfl ?_
    refine XS.iload X26.here hx rfl (hD 67 rfl) rfl ?_
    refine XS.iadd X26.here hx rfl (hD 68 rfl) rfl ?_
    refine XS.aloadN X26.here hx rfl (hD 69 rfl) rfl rfl ?_
    exact k))
  obtain ⟨T28, X28, e28, st28⟩ := getF X26 hx hZ hown (host := "") (Or.inl (hw _ (mi 28 rfl))) Via.refl e26 (W0.fld (i := 0) rfl (j := 7) rfl rfl) (g := K27.g) rfl rfl (hD 70 rfl)
  have K29 : Rc K0 T28 (mkF m 145 #[sR r, sR b, sR no, sI (-1), sI 0, sI 0, sI 2, sI 0, sI 0, sI 0, sI 0, sI 0, sI 0, sI 1, sU] [(kR b), (kI 0)]) := fun t k => K27 t (st28 t (by
    refine lenW X28 hx hZ e28 W0 (i := 9) rfl (fun _ q => q) (z := (17 : Int32)) (by decide) (g := (mkF m 138 #[sR r, sR b, sR no, sI (-1), sI 0, sI 0, sI 2, sI 0, sI 0, sI 0, sI 0, sI 0, sI 0, sI 1, sU] [(kR fac), (kI 2)])) rfl rfl (hD 71 rfl) _ ?_
    refine XS.icmpNo X28.here hx rfl (hD 72 rfl) rfl (by decide) ?_
    refine XS.iload X28.here hx rfl (hD 73 rfl) rfl ?_
    refine XS.aloadN X28.here hx rfl (hD 74 rfl) rfl rfl ?_
    exact k))
  obtain ⟨T30, X30, e30, st30⟩ := getR X28 hx hZ hown (hw _ (mi 108 rfl)) e28 (W0.fld (i := 1) rfl (j := 12) rfl rfl) (g := K29.g) rfl rfl (hD 75 rfl)
  have K31 : Rc K0 T30 (mkF m 150 #[sR r, sR b, sR no, sI (-1), sI 0, sI 0, sI 2, sI 0, sI 0, sI 0, sI 0, sI 0, sI 0, sI 1, sU] [(kR r), (kI 0)]) := fun t k => K29 t (st30 t (by
    refine XS.iadd X30.here hx rfl (hD 76 rfl) rfl ?_
    refine XS.aloadN X30.here hx rfl (hD 77 rfl) rfl rfl ?_
    exact k))
  obtain ⟨T32, X32, e32, st32⟩ := getF X30 hx hZ hown (host := "") (Or.inl (hw _ (mi 34 rfl))) Via.refl e30 (W0.fld (i := 0) rfl (j := 10) rfl rfl) (g := K31.g) rfl rfl (hD 78 rfl)
  have K33 : Rc K0 T32 (mkF m 160 #[sR r, sR b, sR no, sI (-1), sI 0, sI 0, sI 2, sI 0, sI 0, sI 0, sI 0, sI 0, sI 0, sI 1, sU] [(kR b), (kI 0)]) := fun t k => K31 t (st32 t (by
    refine lenW X32 hx hZ e32 W0 (i := 12) rfl (fun _ q => q) (z := (16 : Int32)) (by decide) (g := (mkF m 153 #[sR r, sR b, sR no, sI (-1), sI 0, sI 0, sI 2, sI 0, sI 0, sI 0, sI 0, sI 0, sI 0, sI 1, sU] [(kR acs), (kI 0)])) rfl rfl (hD 79 rfl) _ ?_
    refine XS.icmpNo X32.here hx rfl (hD 80 rfl) rfl (by decide) ?_
    refine XS.iload X32.here hx rfl (hD 81 rfl) rfl ?_
    refine XS.aloadN X32.here hx rfl (hD 82 rfl) rfl rfl ?_
    exact k))
  obtain ⟨T34, X34, e34, st34⟩ := getR X32 hx hZ hown (hw _ (mi 109 rfl)) e32 (W0.fld (i := 1) rfl (j := 13) rfl rfl) (g := K33.g) rfl rfl (hD 83 rfl)
  have K35 : Rc K0 T34 (mkF m 165 #[sR r, sR b, sR no, sI (-1), sI 0, sI 0, sI 2, sI 0, sI 0, sI 0, sI 0, sI 0, sI 0, sI 1, sU] [(kR r), (kI 0)]) := fun t k => K33 t (st34 t (by
    refine XS.iadd X34.here hx rfl (hD 84 rfl) rfl ?_
    refine XS.aloadN X34.here hx rfl (hD 85 rfl) rfl rfl ?_
    exact k))
  obtain ⟨T36, X36, e36, st36⟩ := getF X34 hx hZ hown (host := "") (Or.inl (hw _ (mi 36 rfl))) Via.refl e34 (W0.fld (i := 0) rfl (j := 11) rfl rfl) (g := K35.g) rfl rfl (hD 86 rfl)
  have K37 : Rc K0 T36 (mkF m 175 #[sR r, sR b, sR no, sI (-1), sI 0, sI 0, sI 2, sI 0, sI 0, sI 0, sI 0, sI 0, sI 0, sI 1, sU] [(kR b), (kI 0)]) := fun t k => K35 t (st36 t (by
    refine lenW X36 hx hZ e36 W0 (i := 13) rfl (fun _ q => q) (z := (16 : Int32)) (by decide) (g := (mkF m 168 #[sR r, sR b, sR no, sI (-1), sI 0, sI 0, sI 2, sI 0, sI 0, sI 0, sI 0, sI 0, sI 0, sI 1, sU] [(kR cms), (kI 0)])) rfl rfl (hD 87 rfl) _ ?_
    refine XS.icmpNo X36.here hx rfl (hD 88 rfl) rfl (by decide) ?_
    refine XS.iload X36.here hx rfl (hD 89 rfl) rfl ?_
    refine XS.aloadN X36.here hx rfl (hD 90 rfl) rfl rfl ?_
    exact k))
  obtain ⟨T38, X38, e38, st38⟩ := getR X36 hx hZ hown (hw _ (mi 110 rfl)) e36 (W0.fld (i := 1) rfl (j := 14) rfl rfl) (g := K37.g) rfl rfl (hD 91 rfl)
  have K39 : Rc K0 T38 (mkF m 180 #[sR r, sR b, sR no, sI (-1), sI 0, sI 0, sI 2, sI 0, sI 0, sI 0, sI 0, sI 0, sI 0, sI 1, sU] [(kR r), (kI (Int32.ofNat t2))]) := fun t k => K37 t (st38 t (by
    refine XS.iadd X38.here hx rfl (hD 92 rfl) rfl ?_
    show Steps p.tables e below (T38.setTop (mkF m 179 #[sR r, sR b, sR no, sI (-1), sI 0, sI 0, sI 2, sI 0, sI 0, sI 0, sI 0, sI 0, sI 0, sI 1, sU] [(kI ((0 : Int32) + (Int32.ofNat t2)))])) _
    rw [Int32.zero_add]
    show Steps p.tables e below (T38.setTop (mkF m 179 #[sR r, sR b, sR no, sI (-1), sI 0, sI 0, sI 2, sI 0, sI 0, sI 0, sI 0, sI 0, sI 0, sI 1, sU] [(kI (Int32.ofNat t2))])) _
    refine XS.aloadN X38.here hx rfl (hD 93 rfl) rfl rfl ?_
    exact k))
  obtain ⟨T40, X40, e40, st40⟩ := getF X38 hx hZ hown (host := "") (Or.inl (hw _ (mi 38 rfl))) Via.refl e38 (W0.fld (i := 0) rfl (j := 12) rfl rfl) (g := K39.g) rfl rfl (hD 94 rfl)
  have K41 : Rc K0 T40 (mkF m 195 #[sR r, sR b, sR no, sI (-1), sI 0, sI 0, sI 2, sI 0, sI 0, sI 0, sI 0, sI 0, sI 0, sI 1, sU] [(kR b), (kI 0)]) := fun t k => K39 t (st40 t (by
    refine lenW X40 hx hZ e40 W0 (i := 14) rfl (fun _ q => q) (z := (64 : Int32)) (by decide) (g := (mkF m 183 #[sR r, sR b, sR no, sI (-1), sI 0, sI 0, sI 2, sI 0, sI 0, sI 0, sI 0, sI 0, sI 0, sI 1, sU] [(kR sus), (kI (Int32.ofNat t2))])) rfl rfl (hD 95 rfl) _ ?_
    refine XS.icmpNo X40.here hx rfl (hD 96 rfl) rfl (flt (own_nlt (a := 64) (b := t2) (by omega) (by decide))).2.2.1 ?_
    refine XS.iload X40.here hx rfl (hD 97 rfl) rfl ?_
    refine XS.ifNo X40.here hx rfl (hD 98 rfl) rfl (by decide) ?_
    refine XS.iload X40.here hx rfl (hD 99 rfl) rfl ?_
    refine XS.aloadN X40.here hx rfl (hD 100 rfl) rfl rfl ?_
    exact k))
  obtain ⟨T42, X42, e42, st42⟩ := getR X40 hx hZ hown (hw _ (mi 110 rfl)) e40 (W0.fld (i := 1) rfl (j := 14) rfl rfl) (g := K41.g) rfl rfl (hD 101 rfl)
  have K43 : Rc K0 T42 (mkF m 200 #[sR r, sR b, sR no, sI (-1), sI 0, sI 0, sI 2, sI 0, sI 0, sI 0, sI 0, sI 0, sI 0, sI 1, sU] [(kR r), (kI (Int32.ofNat t2))]) := fun t k => K41 t (st42 t (by
    refine XS.iadd X42.here hx rfl (hD 102 rfl) rfl ?_
    show Steps p.tables e below (T42.setTop (mkF m 199 #[sR r, sR b, sR no, sI (-1), sI 0, sI 0, sI 2, sI 0, sI 0, sI 0, sI 0, sI 0, sI 0, sI 1, sU] [(kI ((0 : Int32) + (Int32.ofNat t2)))])) _
    rw [Int32.zero_add]
    show Steps p.tables e below (T42.setTop (mkF m 199 #[sR r, sR b, sR no, sI (-1), sI 0, sI 0, sI 2, sI 0, sI 0, sI 0, sI 0, sI 0, sI 0, sI 1, sU] [(kI (Int32.ofNat t2))])) _
    refine XS.aloadN X42.here hx rfl (hD 103 rfl) rfl rfl ?_
    exact k))
  obtain ⟨T44, X44, e44, st44⟩ := getF X42 hx hZ hown (host := "") (Or.inl (hw _ (mi 40 rfl))) Via.refl e42 (W0.fld (i := 0) rfl (j := 13) rfl rfl) (g := K43.g) rfl rfl (hD 104 rfl)
  have K45 : Rc K0 T44 (mkF m 210 #[sR r, sR b, sR no, sI (-1), sI 0, sI 0, sI 2, sI 0, sI 0, sI 0, sI 0, sI 0, sI 0, sI 1, sU] [(kR r), (kI 0)]) := fun t k => K43 t (st44 t (by
    refine lenW X44 hx hZ e44 W0 (i := 15) rfl (fun _ q => q) (z := (64 : Int32)) (by decide) (g := (mkF m 203 #[sR r, sR b, sR no, sI (-1), sI 0, sI 0, sI 2, sI 0, sI 0, sI 0, sI 0, sI 0, sI 0, sI 1, sU] [(kR prb), (kI (Int32.ofNat t2))])) rfl rfl (hD 105 rfl) _ ?_
    refine XS.icmpNo X44.here hx rfl (hD 106 rfl) rfl (flt (own_nlt (a := 64) (b := t2) (by omega) (by decide))).2.2.1 ?_
    refine XS.iload X44.here hx rfl (hD 107 rfl) rfl ?_
    refine XS.aloadN X44.here hx rfl (hD 108 rfl) rfl rfl ?_
    exact k))
  obtain ⟨T46, X46, e46, st46⟩ := getF X44 hx hZ hown (host := "") (Or.inl (hw _ (mi 14 rfl))) Via.refl e44 (W0.fld (i := 0) rfl (j := 0) rfl rfl) (g := K45.g) rfl rfl (hD 109 rfl)
  have K47 : Rc K0 T46 (mkF m 223 #[sR r, sR b, sR no, sI (-1), sI 0, sI 0, sI 2, sI 0, sI 0, sI 0, sI 0, sI 0, sI 0, sI 1, sU] [(kR r), (kI 0)]) := fun t k => K45 t (st46 t (by
    refine lenW X46 hx hZ e46 W0 (i := 2) rfl (fun _ q => q) (z := (0 : Int32)) (by decide) (g := (mkF m 213 #[sR r, sR b, sR no, sI (-1), sI 0, sI 0, sI 2, sI 0, sI 0, sI 0, sI 0, sI 0, sI 0, sI 1, sU] [(kR ks), (kI 0)])) rfl rfl (hD 110 rfl) _ ?_
    refine XS.icmpNo X46.here hx rfl (hD 111 rfl) rfl (by decide) ?_
    refine XS.iload X46.here hx rfl (hD 112 rfl) rfl ?_
    refine XS.aloadN X46.here hx rfl (hD 113 rfl) rfl rfl ?_
    refine lenW X46 hx hZ e46 W0 (i := 23) rfl (fun _ q => q) (z := (0 : Int32)) (by decide) (g := (mkF m 220 #[sR r, sR b, sR no, sI (-1), sI 0, sI 0, sI 2, sI 0, sI 0, sI 0, sI 0, sI 0, sI 0, sI 1, sU] [(kR no), (kI 0)])) rfl rfl (hD 114 rfl) _ ?_
    refine XS.iadd X46.here hx rfl (hD 115 rfl) rfl ?_
    refine XS.aloadN X46.here hx rfl (hD 116 rfl) rfl rfl ?_
    exact k))
  obtain ⟨T48, X48, e48, st48⟩ := getF X46 hx hZ hown (host := "") (Or.inl (hw _ (mi 16 rfl))) Via.refl e46 (W0.fld (i := 0) rfl (j := 1) rfl rfl) (g := K47.g) rfl rfl (hD 117 rfl)
  have K49 : Rc K0 T48 (mkF m 255 #[sR r, sR b, sR no, sI (-1), sI 0, sI 0, sI 2, sI 0, sI 0, sI 0, sI 0, sI 0, sI 0, sI 1, sI 0] [(kR r)]) := fun t k => K47 t (st48 t (by
    refine lenW X48 hx hZ e48 W0 (i := 3) rfl (fun _ q => q) (z := (0 : Int32)) (by decide) (g := (mkF m 226 #[sR r, sR b, sR no, sI (-1), sI 0, sI 0, sI 2, sI 0, sI 0, sI 0, sI 0, sI 0, sI 0, sI 1, sU] [(kR rgs), (kI 0)])) rfl rfl (hD 118 rfl) _ ?_
    refine XS.icmpYes X48.here hx rfl (pc0 := 227) (pc' := 244) rfl (hD 119 rfl) rfl (by decide) (by decide) (by decide) ?_
    refine XS.iconst X48.here hx rfl (hD 120 rfl) ?_
    refine XS.istore X48.here hx rfl (hD 121 rfl) rfl (l' := #[sR r, sR b, sR no, sI (-1), sI 0, sI 0, sI 2, sI 0, sI 0, sI 0, sI 0, sI 0, sI 0, sI 1, sI 0]) rfl ?_
    refine XS.iload X48.here hx rfl (hD 122 rfl) rfl ?_
    refine XS.iload X48.here hx rfl (hD 123 rfl) rfl ?_
    refine XS.icmpNo X48.here hx rfl (hD 124 rfl) rfl (by decide) ?_
    refine XS.aloadN X48.here hx rfl (hD 125 rfl) rfl rfl ?_
    exact k))
  obtain ⟨T50, X50, e50, st50⟩ := getF X48 hx hZ hown (host := "") (Or.inl (hw _ (mi 28 rfl))) Via.refl e48 (W0.fld (i := 0) rfl (j := 7) rfl rfl) (g := K49.g) rfl rfl (hD 126 rfl)
  have K51 : Rc K0 T50 (mkF m 266 #[sR r, sR b, sR no, sI (-1), sI 0, sI 0, sI 2, sI 0, sI 0, sI 0, sI 0, sI 0, sI 0, sI 1, sI 0] [(kR b), (kI 0), (kI 0), (kR fac)]) := fun t k => K49 t (st50 t (by
    refine XS.iload X50.here hx rfl (hD 127 rfl) rfl ?_
    refine XS.iload X50.here hx rfl (hD 128 rfl) rfl ?_
    refine XS.iadd X50.here hx rfl (hD 129 rfl) rfl ?_
    refine XS.iload X50.here hx rfl (hD 130 rfl) rfl ?_
    refine XS.aloadN X50.here hx rfl (hD 131 rfl) rfl rfl ?_
    exact k))
  obtain ⟨T52, X52, e52, st52⟩ := getR X50 hx hZ hown (hw _ (mi 111 rfl)) e50 (W0.fld (i := 1) rfl (j := 4) rfl rfl) (g := K51.g) rfl rfl (hD 132 rfl)
  have K53 : Rc K0 T52 (mkF m 273 #[sR r, sR b, sR no, sI (-1), sI 0, sI 0, sI 2, sI 0, sI 0, sI 0, sI 0, sI 0, sI 0, sI 1, sI 0] [(kI 0), (kI 0), (kR fac)]) := fun t k => K51 t (st52 t (by
    refine XS.iload X52.here hx rfl (hD 133 rfl) rfl ?_
    refine ialW X52 hx hZ e52 W0 (i := 16) rfl (j := (0 : Int32)) (k := 0) (by decide) (by decide) (by decide) (v := (.int (0 : Int32))) h_f10 (g := (mkF m 271 #[sR r, sR b, sR no, sI (-1), sI 0, sI 0, sI 2, sI 0, sI 0, sI 0, sI 0, sI 0, sI 0, sI 1, sI 0] [(kI 0), (kR fa), (kI 0), (kI 0), (kR fac)])) rfl rfl (hD 134 rfl) _ ?_
    refine XS.iadd X52.here hx rfl (hD 135 rfl) rfl ?_
    exact k))
  obtain ⟨T54, h54, L54, X54, e54, N54, W54q, st54⟩ := iasW X52 hx hZ e52 W0 N0 (i := 9) (a := fac) rfl (j := (0 : Int32)) (x := (0 : Int32)) (k := 0) (by decide) (by decide) (by decide) (g := K53.g) rfl rfl (hD 136 rfl)
  have K55 : Rc K0 T54 (mkF m 275 #[sR r, sR b, sR no, sI (-1), sI 0, sI 0, sI 2, sI 0, sI 0, sI 0, sI 0, sI 0, sI 0, sI 1, sI 0] [(kR r)]) := fun t k => K53 t (st54 t (XS.aloadN X54.here hx rfl (hD 137 rfl) rfl rfl k))
  obtain ⟨T56, X56, e56, st56⟩ := getF X54 hx hZ hown (host := "") (Or.inl (hw _ (mi 30 rfl))) Via.refl e54 (W54q.fld (i := 0) rfl (j := 8) rfl rfl) (g := K55.g) rfl rfl (hD 138 rfl)
  have K57 : Rc K0 T56 (mkF m 286 #[sR r, sR b, sR no, sI (-1), sI 0, sI 0, sI 2, sI 0, sI 0, sI 0, sI 0, sI 0, sI 0, sI 1, sI 0] [(kR b), (kI 0), (kI 0), (kR fcm)]) := fun t k => K55 t (st56 t (by
    refine XS.iload X56.here hx rfl (hD 139 rfl) rfl ?_
    refine XS.iload X56.here hx rfl (hD 140 rfl) rfl ?_
    refine XS.iadd X56.here hx rfl (hD 141 rfl) rfl ?_
    refine XS.iload X56.here hx rfl (hD 142 rfl) rfl ?_
    refine XS.aloadN X56.here hx rfl (hD 143 rfl) rfl rfl ?_
    exact k))
  obtain ⟨T58, X58, e58, st58⟩ := getR X56 hx hZ hown (hw _ (mi 112 rfl)) e56 (W54q.fld (i := 1) rfl (j := 6) rfl rfl) (g := K57.g) rfl rfl (hD 144 rfl)
  have K59 : Rc K0 T58 (mkF m 293 #[sR r, sR b, sR no, sI (-1), sI 0, sI 0, sI 2, sI 0, sI 0, sI 0, sI 0, sI 0, sI 0, sI 1, sI 0] [(kI 0), (kI 0), (kR fcm)]) := fun t k => K57 t (st58 t (by
    refine XS.iload X58.here hx rfl (hD 145 rfl) rfl ?_
    refine ialW X58 hx hZ e58 W54q (i := 17) rfl (j := (0 : Int32)) (k := 0) (by decide) (by decide) (by decide) (v := (.int (0 : Int32))) h_f20 (g := (mkF m 291 #[sR r, sR b, sR no, sI (-1), sI 0, sI 0, sI 2, sI 0, sI 0, sI 0, sI 0, sI 0, sI 0, sI 1, sI 0] [(kI 0), (kR fc), (kI 0), (kI 0), (kR fcm)])) rfl rfl (hD 146 rfl) _ ?_
    refine XS.iadd X58.here hx rfl (hD 147 rfl) rfl ?_
    exact k))
  obtain ⟨T60, h60, L60, X60, e60, N60, W60q, st60⟩ := iasW X58 hx hZ e58 W54q N54 (i := 10) (a := fcm) rfl (j := (0 : Int32)) (x := (0 : Int32)) (k := 0) (by decide) (by decide) (by decide) (g := K59.g) rfl rfl (hD 148 rfl)
  have K61 : Rc K0 T60 (mkF m 295 #[sR r, sR b, sR no, sI (-1), sI 0, sI 0, sI 2, sI 0, sI 0, sI 0, sI 0, sI 0, sI 0, sI 1, sI 0] [(kR r)]) := fun t k => K59 t (st60 t (XS.aloadN X60.here hx rfl (hD 149 rfl) rfl rfl k))
  obtain ⟨T62, X62, e62, st62⟩ := getF X60 hx hZ hown (host := "") (Or.inl (hw _ (mi 32 rfl))) Via.refl e60 (W60q.fld (i := 0) rfl (j := 9) rfl rfl) (g := K61.g) rfl rfl (hD 150 rfl)
  have K63 : Rc K0 T62 (mkF m 306 #[sR r, sR b, sR no, sI (-1), sI 0, sI 0, sI 2, sI 0, sI 0, sI 0, sI 0, sI 0, sI 0, sI 1, sI 0] [(kR b), (kI 0), (kI 0), (kR ftr)]) := fun t k => K61 t (st62 t (by
    refine XS.iload X62.here hx rfl (hD 151 rfl) rfl ?_
    refine XS.iload X62.here hx rfl (hD 152 rfl) rfl ?_
    refine XS.iadd X62.here hx rfl (hD 153 rfl) rfl ?_
    refine XS.iload X62.here hx rfl (hD 154 rfl) rfl ?_
    refine XS.aloadN X62.here hx rfl (hD 155 rfl) rfl rfl ?_
    exact k))
  obtain ⟨T64, X64, e64, st64⟩ := getR X62 hx hZ hown (hw _ (mi 113 rfl)) e62 (W60q.fld (i := 1) rfl (j := 8) rfl rfl) (g := K63.g) rfl rfl (hD 156 rfl)
  have K65 : Rc K0 T64 (mkF m 313 #[sR r, sR b, sR no, sI (-1), sI 0, sI 0, sI 2, sI 0, sI 0, sI 0, sI 0, sI 0, sI 0, sI 1, sI 0] [(kI 0), (kI 0), (kR ftr)]) := fun t k => K63 t (st64 t (by
    refine XS.iload X64.here hx rfl (hD 157 rfl) rfl ?_
    refine ialW X64 hx hZ e64 W60q (i := 18) rfl (j := (0 : Int32)) (k := 0) (by decide) (by decide) (by decide) (v := (.int (0 : Int32))) h_f30 (g := (mkF m 311 #[sR r, sR b, sR no, sI (-1), sI 0, sI 0, sI 2, sI 0, sI 0, sI 0, sI 0, sI 0, sI 0, sI 1, sI 0] [(kI 0), (kR ft), (kI 0), (kI 0), (kR ftr)])) rfl rfl (hD 158 rfl) _ ?_
    refine XS.iadd X64.here hx rfl (hD 159 rfl) rfl ?_
    exact k))
  obtain ⟨T66, h66, L66, X66, e66, N66, W66q, st66⟩ := iasW X64 hx hZ e64 W60q N60 (i := 11) (a := ftr) rfl (j := (0 : Int32)) (x := (0 : Int32)) (k := 0) (by decide) (by decide) (by decide) (g := K65.g) rfl rfl (hD 160 rfl)
  have K67 : Rc K0 T66 (mkF m 255 #[sR r, sR b, sR no, sI (-1), sI 0, sI 0, sI 2, sI 0, sI 0, sI 0, sI 0, sI 0, sI 0, sI 1, sI 1] [(kR r)]) := fun t k => K65 t (st66 t (by
    refine XS.iinc X66.here hx rfl (hD 161 rfl) rfl (l' := #[sR r, sR b, sR no, sI (-1), sI 0, sI 0, sI 2, sI 0, sI 0, sI 0, sI 0, sI 0, sI 0, sI 1, sI 1]) rfl ?_
    refine XS.goto X66.here hx rfl (pc0 := 317) (pc' := 247) rfl (hD 162 rfl) (by decide) (by decide) ?_
    refine XS.iload X66.here hx rfl (hD 122 rfl) rfl ?_
    refine XS.iload X66.here hx rfl (hD 123 rfl) rfl ?_
    refine XS.icmpNo X66.here hx rfl (hD 124 rfl) rfl (by decide) ?_
    refine XS.aloadN X66.here hx rfl (hD 125 rfl) rfl rfl ?_
    exact k))
  obtain ⟨T68, X68, e68, st68⟩ := getF X66 hx hZ hown (host := "") (Or.inl (hw _ (mi 28 rfl))) Via.refl e66 (W66q.fld (i := 0) rfl (j := 7) rfl rfl) (g := K67.g) rfl rfl (hD 126 rfl)
  have K69 : Rc K0 T68 (mkF m 266 #[sR r, sR b, sR no, sI (-1), sI 0, sI 0, sI 2, sI 0, sI 0, sI 0, sI 0, sI 0, sI 0, sI 1, sI 1] [(kR b), (kI 0), (kI 1), (kR fac)]) := fun t k => K67 t (st68 t (by
    refine XS.iload X68.here hx rfl (hD 127 rfl) rfl ?_
    refine XS.iload X68.here hx rfl (hD 128 rfl) rfl ?_
    refine XS.iadd X68.here hx rfl (hD 129 rfl) rfl ?_
    refine XS.iload X68.here hx rfl (hD 130 rfl) rfl ?_
    refine XS.aloadN X68.here hx rfl (hD 131 rfl) rfl rfl ?_
    exact k))
  obtain ⟨T70, X70, e70, st70⟩ := getR X68 hx hZ hown (hw _ (mi 111 rfl)) e68 (W66q.fld (i := 1) rfl (j := 4) rfl rfl) (g := K69.g) rfl rfl (hD 132 rfl)
  have K71 : Rc K0 T70 (mkF m 273 #[sR r, sR b, sR no, sI (-1), sI 0, sI 0, sI 2, sI 0, sI 0, sI 0, sI 0, sI 0, sI 0, sI 1, sI 1] [(kI 0), (kI 1), (kR fac)]) := fun t k => K69 t (st70 t (by
    refine XS.iload X70.here hx rfl (hD 133 rfl) rfl ?_
    refine ialW X70 hx hZ e70 W66q (i := 16) rfl (j := (1 : Int32)) (k := 1) (by decide) (by decide) (by decide) (v := (.int (0 : Int32))) h_f11 (g := (mkF m 271 #[sR r, sR b, sR no, sI (-1), sI 0, sI 0, sI 2, sI 0, sI 0, sI 0, sI 0, sI 0, sI 0, sI 1, sI 1] [(kI 1), (kR fa), (kI 0), (kI 1), (kR fac)])) rfl rfl (hD 134 rfl) _ ?_
    refine XS.iadd X70.here hx rfl (hD 135 rfl) rfl ?_
    exact k))
  obtain ⟨T72, h72, L72, X72, e72, N72, W72q, st72⟩ := iasW X70 hx hZ e70 W66q N66 (i := 9) (a := fac) rfl (j := (1 : Int32)) (x := (0 : Int32)) (k := 1) (by decide) (by decide) (by decide) (g := K71.g) rfl rfl (hD 136 rfl)
  have W72 : Wo n0 h72 ((r, oR Z [(kR ks), (kR rgs), (kR ns), (kR fch), (kR fk), (kR kl), (kR frg), (kR fac), (kR fcm), (kR ftr), (kR acs), (kR cms), (kR sus), (kR prb), (kI 0), .null, (kI 0), .null, .null, .null, .null, .null, .null, (kI 0), (kI 0)]) :: (b, oB Z [.null, (kI 0), (kR vv), (kI (Int32.ofNat u)), (kR fa), (kR ac), (kR fc), (kR cm), (kR ft), (kR su), (kR pr), (kI 2), (kI 0), (kI 0), (kI (Int32.ofNat t2)), .null]) :: (ks, Ar Z .int 0 g_ks) :: (rgs, Ar Z .int 0 g_rgs) :: (ns, Ar Z .int 16 g_ns) :: (fch, Ar Z .int 17 g_fch) :: (fk, Ar Z .int 17 g_fk) :: (kl, Ar Z .int 16 g_kl) :: (frg, Ar Z .int 17 g_frg) :: (fac, Ar Z .int 17 (upd (upd g_fac 0 (kI 0)) 1 (kI 0))) :: (fcm, Ar Z .int 17 (upd g_fcm 0 (kI 0))) :: (ftr, Ar Z .int 17 (upd g_ftr 0 (kI 0))) :: (acs, Ar Z .int 16 g_acs) :: (cms, Ar Z .int 16 g_cms) :: (sus, Ar Z .int 64 g_sus) :: (prb, Ar Z .double 64 g_prb) :: (fa, Ar Z .int 2 f1) :: (fc, Ar Z .int 2 f2) :: (ft, Ar Z .int 2 f3) :: (ac, Ar Z .int 2 f4) :: (cm, Ar Z .int 2 f5) :: (su, Ar Z .int 4 f6) :: (pr, Ar Z .double 4 f7) :: (no, Ar Z .int 0 f8) :: (vv, Ar Z .double 3 g_vv) :: Rr) := W72q
  have K73 : Rc K0 T72 (mkF m 275 #[sR r, sR b, sR no, sI (-1), sI 0, sI 0, sI 2, sI 0, sI 0, sI 0, sI 0, sI 0, sI 0, sI 1, sI 1] [(kR r)]) := fun t k => K71 t (st72 t (XS.aloadN X72.here hx rfl (hD 137 rfl) rfl rfl k))
  obtain ⟨T74, X74, e74, st74⟩ := getF X72 hx hZ hown (host := "") (Or.inl (hw _ (mi 30 rfl))) Via.refl e72 (W72.fld (i := 0) rfl (j := 8) rfl rfl) (g := K73.g) rfl rfl (hD 138 rfl)
  have K75 : Rc K0 T74 (mkF m 286 #[sR r, sR b, sR no, sI (-1), sI 0, sI 0, sI 2, sI 0, sI 0, sI 0, sI 0, sI 0, sI 0, sI 1, sI 1] [(kR b), (kI 0), (kI 1), (kR fcm)]) := fun t k => K73 t (st74 t (by
    refine XS.iload X74.here hx rfl (hD 139 rfl) rfl ?_
    refine XS.iload X74.here hx rfl (hD 140 rfl) rfl ?_
    refine XS.iadd X74.here hx rfl (hD 141 rfl) rfl ?_
    refine XS.iload X74.here hx rfl (hD 142 rfl) rfl ?_
    refine XS.aloadN X74.here hx rfl (hD 143 rfl) rfl rfl ?_
    exact k))
  obtain ⟨T76, X76, e76, st76⟩ := getR X74 hx hZ hown (hw _ (mi 112 rfl)) e74 (W72.fld (i := 1) rfl (j := 6) rfl rfl) (g := K75.g) rfl rfl (hD 144 rfl)
  have K77 : Rc K0 T76 (mkF m 293 #[sR r, sR b, sR no, sI (-1), sI 0, sI 0, sI 2, sI 0, sI 0, sI 0, sI 0, sI 0, sI 0, sI 1, sI 1] [(kI 0), (kI 1), (kR fcm)]) := fun t k => K75 t (st76 t (by
    refine XS.iload X76.here hx rfl (hD 145 rfl) rfl ?_
    refine ialW X76 hx hZ e76 W72 (i := 17) rfl (j := (1 : Int32)) (k := 1) (by decide) (by decide) (by decide) (v := (.int (0 : Int32))) h_f21 (g := (mkF m 291 #[sR r, sR b, sR no, sI (-1), sI 0, sI 0, sI 2, sI 0, sI 0, sI 0, sI 0, sI 0, sI 0, sI 1, sI 1] [(kI 1), (kR fc), (kI 0), (kI 1), (kR fcm)])) rfl rfl (hD 146 rfl) _ ?_
    refine XS.iadd X76.here hx rfl (hD 147 rfl) rfl ?_
    exact k))
  obtain ⟨T78, h78, L78, X78, e78, N78, W78q, st78⟩ := iasW X76 hx hZ e76 W72 N72 (i := 10) (a := fcm) rfl (j := (1 : Int32)) (x := (0 : Int32)) (k := 1) (by decide) (by decide) (by decide) (g := K77.g) rfl rfl (hD 148 rfl)
  have K79 : Rc K0 T78 (mkF m 295 #[sR r, sR b, sR no, sI (-1), sI 0, sI 0, sI 2, sI 0, sI 0, sI 0, sI 0, sI 0, sI 0, sI 1, sI 1] [(kR r)]) := fun t k => K77 t (st78 t (XS.aloadN X78.here hx rfl (hD 149 rfl) rfl rfl k))
  obtain ⟨T80, X80, e80, st80⟩ := getF X78 hx hZ hown (host := "") (Or.inl (hw _ (mi 32 rfl))) Via.refl e78 (W78q.fld (i := 0) rfl (j := 9) rfl rfl) (g := K79.g) rfl rfl (hD 150 rfl)
  have K81 : Rc K0 T80 (mkF m 306 #[sR r, sR b, sR no, sI (-1), sI 0, sI 0, sI 2, sI 0, sI 0, sI 0, sI 0, sI 0, sI 0, sI 1, sI 1] [(kR b), (kI 0), (kI 1), (kR ftr)]) := fun t k => K79 t (st80 t (by
    refine XS.iload X80.here hx rfl (hD 151 rfl) rfl ?_
    refine XS.iload X80.here hx rfl (hD 152 rfl) rfl ?_
    refine XS.iadd X80.here hx rfl (hD 153 rfl) rfl ?_
    refine XS.iload X80.here hx rfl (hD 154 rfl) rfl ?_
    refine XS.aloadN X80.here hx rfl (hD 155 rfl) rfl rfl ?_
    exact k))
  obtain ⟨T82, X82, e82, st82⟩ := getR X80 hx hZ hown (hw _ (mi 113 rfl)) e80 (W78q.fld (i := 1) rfl (j := 8) rfl rfl) (g := K81.g) rfl rfl (hD 156 rfl)
  have K83 : Rc K0 T82 (mkF m 313 #[sR r, sR b, sR no, sI (-1), sI 0, sI 0, sI 2, sI 0, sI 0, sI 0, sI 0, sI 0, sI 0, sI 1, sI 1] [(kI (Int32.ofNat t1)), (kI 1), (kR ftr)]) := fun t k => K81 t (st82 t (by
    refine XS.iload X82.here hx rfl (hD 157 rfl) rfl ?_
    refine ialW X82 hx hZ e82 W78q (i := 18) rfl (j := (1 : Int32)) (k := 1) (by decide) (by decide) (by decide) (v := (.int (Int32.ofNat t1))) h_f31 (g := (mkF m 311 #[sR r, sR b, sR no, sI (-1), sI 0, sI 0, sI 2, sI 0, sI 0, sI 0, sI 0, sI 0, sI 0, sI 1, sI 1] [(kI 1), (kR ft), (kI 0), (kI 1), (kR ftr)])) rfl rfl (hD 158 rfl) _ ?_
    refine XS.iadd X82.here hx rfl (hD 159 rfl) rfl ?_
    show Steps p.tables e below (T82.setTop (mkF m 313 #[sR r, sR b, sR no, sI (-1), sI 0, sI 0, sI 2, sI 0, sI 0, sI 0, sI 0, sI 0, sI 0, sI 1, sI 1] [(kI ((0 : Int32) + (Int32.ofNat t1))), (kI 1), (kR ftr)])) _
    rw [Int32.zero_add]
    exact k))
  obtain ⟨T84, h84, L84, X84, e84, N84, W84q, st84⟩ := iasW X82 hx hZ e82 W78q N78 (i := 11) (a := ftr) rfl (j := (1 : Int32)) (x := (Int32.ofNat t1)) (k := 1) (by decide) (by decide) (by decide) (g := K83.g) rfl rfl (hD 160 rfl)
  have K85 : Rc K0 T84 (mkF m 321 #[sR r, sR b, sR no, sI (-1), sI 0, sI 0, sI 2, sI 0, sI 0, sI 0, sI 0, sI 0, sI 0, sI 1, sI 2] [(kR r)]) := fun t k => K83 t (st84 t (by
    refine XS.iinc X84.here hx rfl (hD 161 rfl) rfl (l' := #[sR r, sR b, sR no, sI (-1), sI 0, sI 0, sI 2, sI 0, sI 0, sI 0, sI 0, sI 0, sI 0, sI 1, sI 2]) rfl ?_
    refine XS.goto X84.here hx rfl (pc0 := 317) (pc' := 247) rfl (hD 162 rfl) (by decide) (by decide) ?_
    refine XS.iload X84.here hx rfl (hD 122 rfl) rfl ?_
    refine XS.iload X84.here hx rfl (hD 123 rfl) rfl ?_
    refine XS.icmpYes X84.here hx rfl (pc0 := 251) (pc' := 320) rfl (hD 124 rfl) rfl (by decide) (by decide) (by decide) ?_
    refine XS.aloadN X84.here hx rfl (hD 163 rfl) rfl rfl ?_
    exact k))
  obtain ⟨T86, X86, e86, st86⟩ := getF X84 hx hZ hown (host := "") (Or.inl (hw _ (mi 28 rfl))) Via.refl e84 (W84q.fld (i := 0) rfl (j := 7) rfl rfl) (g := K85.g) rfl rfl (hD 164 rfl)
  have K87 : Rc K0 T86 (mkF m 332 #[sR r, sR b, sR no, sI (-1), sI 0, sI 0, sI 2, sI 0, sI 0, sI 0, sI 0, sI 0, sI 0, sI 1, sI 2] [(kR b), (kI 0), (kI 2), (kR fac)]) := fun t k => K85 t (st86 t (by
    refine XS.iload X86.here hx rfl (hD 165 rfl) rfl ?_
    refine XS.iload X86.here hx rfl (hD 166 rfl) rfl ?_
    refine XS.iadd X86.here hx rfl (hD 167 rfl) rfl ?_
    refine XS.iload X86.here hx rfl (hD 168 rfl) rfl ?_
    refine XS.aloadN X86.here hx rfl (hD 169 rfl) rfl rfl ?_
    exact k))
  obtain ⟨T88, X88, e88, st88⟩ := getR X86 hx hZ hown (hw _ (mi 108 rfl)) e86 (W84q.fld (i := 1) rfl (j := 12) rfl rfl) (g := K87.g) rfl rfl (hD 170 rfl)
  have K89 : Rc K0 T88 (mkF m 336 #[sR r, sR b, sR no, sI (-1), sI 0, sI 0, sI 2, sI 0, sI 0, sI 0, sI 0, sI 0, sI 0, sI 1, sI 2] [(kI 0), (kI 2), (kR fac)]) := fun t k => K87 t (st88 t (XS.iadd X88.here hx rfl (hD 171 rfl) rfl k))
  obtain ⟨T90, h90, L90, X90, e90, N90, W90q, st90⟩ := iasW X88 hx hZ e88 W84q N84 (i := 9) (a := fac) rfl (j := (2 : Int32)) (x := (0 : Int32)) (k := 2) (by decide) (by decide) (by decide) (g := K89.g) rfl rfl (hD 172 rfl)
  have K91 : Rc K0 T90 (mkF m 338 #[sR r, sR b, sR no, sI (-1), sI 0, sI 0, sI 2, sI 0, sI 0, sI 0, sI 0, sI 0, sI 0, sI 1, sI 2] [(kR r)]) := fun t k => K89 t (st90 t (XS.aloadN X90.here hx rfl (hD 173 rfl) rfl rfl k))
  obtain ⟨T92, X92, e92, st92⟩ := getF X90 hx hZ hown (host := "") (Or.inl (hw _ (mi 30 rfl))) Via.refl e90 (W90q.fld (i := 0) rfl (j := 8) rfl rfl) (g := K91.g) rfl rfl (hD 174 rfl)
  have K93 : Rc K0 T92 (mkF m 349 #[sR r, sR b, sR no, sI (-1), sI 0, sI 0, sI 2, sI 0, sI 0, sI 0, sI 0, sI 0, sI 0, sI 1, sI 2] [(kR b), (kI 0), (kI 2), (kR fcm)]) := fun t k => K91 t (st92 t (by
    refine XS.iload X92.here hx rfl (hD 175 rfl) rfl ?_
    refine XS.iload X92.here hx rfl (hD 176 rfl) rfl ?_
    refine XS.iadd X92.here hx rfl (hD 177 rfl) rfl ?_
    refine XS.iload X92.here hx rfl (hD 178 rfl) rfl ?_
    refine XS.aloadN X92.here hx rfl (hD 179 rfl) rfl rfl ?_
    exact k))
  obtain ⟨T94, X94, e94, st94⟩ := getR X92 hx hZ hown (hw _ (mi 109 rfl)) e92 (W90q.fld (i := 1) rfl (j := 13) rfl rfl) (g := K93.g) rfl rfl (hD 180 rfl)
  have K95 : Rc K0 T94 (mkF m 353 #[sR r, sR b, sR no, sI (-1), sI 0, sI 0, sI 2, sI 0, sI 0, sI 0, sI 0, sI 0, sI 0, sI 1, sI 2] [(kI 0), (kI 2), (kR fcm)]) := fun t k => K93 t (st94 t (XS.iadd X94.here hx rfl (hD 181 rfl) rfl k))
  obtain ⟨T96, h96, L96, X96, e96, N96, W96q, st96⟩ := iasW X94 hx hZ e94 W90q N90 (i := 10) (a := fcm) rfl (j := (2 : Int32)) (x := (0 : Int32)) (k := 2) (by decide) (by decide) (by decide) (g := K95.g) rfl rfl (hD 182 rfl)
  have W96 : Wo n0 h96 ((r, oR Z [(kR ks), (kR rgs), (kR ns), (kR fch), (kR fk), (kR kl), (kR frg), (kR fac), (kR fcm), (kR ftr), (kR acs), (kR cms), (kR sus), (kR prb), (kI 0), .null, (kI 0), .null, .null, .null, .null, .null, .null, (kI 0), (kI 0)]) :: (b, oB Z [.null, (kI 0), (kR vv), (kI (Int32.ofNat u)), (kR fa), (kR ac), (kR fc), (kR cm), (kR ft), (kR su), (kR pr), (kI 2), (kI 0), (kI 0), (kI (Int32.ofNat t2)), .null]) :: (ks, Ar Z .int 0 g_ks) :: (rgs, Ar Z .int 0 g_rgs) :: (ns, Ar Z .int 16 g_ns) :: (fch, Ar Z .int 17 g_fch) :: (fk, Ar Z .int 17 g_fk) :: (kl, Ar Z .int 16 g_kl) :: (frg, Ar Z .int 17 g_frg) :: (fac, Ar Z .int 17 (upd (upd (upd g_fac 0 (kI 0)) 1 (kI 0)) 2 (kI 0))) :: (fcm, Ar Z .int 17 (upd (upd (upd g_fcm 0 (kI 0)) 1 (kI 0)) 2 (kI 0))) :: (ftr, Ar Z .int 17 (upd (upd g_ftr 0 (kI 0)) 1 (kI (Int32.ofNat t1)))) :: (acs, Ar Z .int 16 g_acs) :: (cms, Ar Z .int 16 g_cms) :: (sus, Ar Z .int 64 g_sus) :: (prb, Ar Z .double 64 g_prb) :: (fa, Ar Z .int 2 f1) :: (fc, Ar Z .int 2 f2) :: (ft, Ar Z .int 2 f3) :: (ac, Ar Z .int 2 f4) :: (cm, Ar Z .int 2 f5) :: (su, Ar Z .int 4 f6) :: (pr, Ar Z .double 4 f7) :: (no, Ar Z .int 0 f8) :: (vv, Ar Z .double 3 g_vv) :: Rr) := W96q
  have K97 : Rc K0 T96 (mkF m 355 #[sR r, sR b, sR no, sI (-1), sI 0, sI 0, sI 2, sI 0, sI 0, sI 0, sI 0, sI 0, sI 0, sI 1, sI 2] [(kR r)]) := fun t k => K95 t (st96 t (XS.aloadN X96.here hx rfl (hD 183 rfl) rfl rfl k))
  obtain ⟨T98, X98, e98, st98⟩ := getF X96 hx hZ hown (host := "") (Or.inl (hw _ (mi 32 rfl))) Via.refl e96 (W96.fld (i := 0) rfl (j := 9) rfl rfl) (g := K97.g) rfl rfl (hD 184 rfl)
  have K99 : Rc K0 T98 (mkF m 366 #[sR r, sR b, sR no, sI (-1), sI 0, sI 0, sI 2, sI 0, sI 0, sI 0, sI 0, sI 0, sI 0, sI 1, sI 2] [(kR b), (kI 0), (kI 2), (kR ftr)]) := fun t k => K97 t (st98 t (by
    refine XS.iload X98.here hx rfl (hD 185 rfl) rfl ?_
    refine XS.iload X98.here hx rfl (hD 186 rfl) rfl ?_
    refine XS.iadd X98.here hx rfl (hD 187 rfl) rfl ?_
    refine XS.iload X98.here hx rfl (hD 188 rfl) rfl ?_
    refine XS.aloadN X98.here hx rfl (hD 189 rfl) rfl rfl ?_
    exact k))
  obtain ⟨T100, X100, e100, st100⟩ := getR X98 hx hZ hown (hw _ (mi 110 rfl)) e98 (W96.fld (i := 1) rfl (j := 14) rfl rfl) (g := K99.g) rfl rfl (hD 190 rfl)
  have K101 : Rc K0 T100 (mkF m 370 #[sR r, sR b, sR no, sI (-1), sI 0, sI 0, sI 2, sI 0, sI 0, sI 0, sI 0, sI 0, sI 0, sI 1, sI 2] [(kI (Int32.ofNat t2)), (kI 2), (kR ftr)]) := fun t k => K99 t (st100 t (by
    refine XS.iadd X100.here hx rfl (hD 191 rfl) rfl ?_
    show Steps p.tables e below (T100.setTop (mkF m 370 #[sR r, sR b, sR no, sI (-1), sI 0, sI 0, sI 2, sI 0, sI 0, sI 0, sI 0, sI 0, sI 0, sI 1, sI 2] [(kI ((0 : Int32) + (Int32.ofNat t2))), (kI 2), (kR ftr)])) _
    rw [Int32.zero_add]
    exact k))
  obtain ⟨T102, h102, L102, X102, e102, N102, W102q, st102⟩ := iasW X100 hx hZ e100 W96 N96 (i := 11) (a := ftr) rfl (j := (2 : Int32)) (x := (Int32.ofNat t2)) (k := 2) (by decide) (by decide) (by decide) (g := K101.g) rfl rfl (hD 192 rfl)
  have K103 : Rc K0 T102 (mkF m 372 #[sR r, sR b, sR no, sI (-1), sI 0, sI 0, sI 2, sI 0, sI 0, sI 0, sI 0, sI 0, sI 0, sI 1, sI 2] [(kR b)]) := fun t k => K101 t (st102 t (XS.aloadN X102.here hx rfl (hD 193 rfl) rfl rfl k))
  obtain ⟨T104, X104, e104, st104⟩ := getR X102 hx hZ hown (hw _ (mi 114 rfl)) e102 (W102q.fld (i := 1) rfl (j := 5) rfl rfl) (g := K103.g) rfl rfl (hD 194 rfl)
  have K105 : Rc K0 T104 (mkF m 377 #[sR r, sR b, sR no, sI (-1), sI 0, sI 0, sI 2, sI 0, sI 0, sI 0, sI 0, sI 0, sI 0, sI 1, sI 2] [(kR r), (kI 0), (kR ac)]) := fun t k => K103 t (st104 t (by
    refine XS.iconst X104.here hx rfl (hD 195 rfl) ?_
    refine XS.aloadN X104.here hx rfl (hD 196 rfl) rfl rfl ?_
    exact k))
  obtain ⟨T106, X106, e106, st106⟩ := getF X104 hx hZ hown (host := "") (Or.inl (hw _ (mi 34 rfl))) Via.refl e104 (W102q.fld (i := 0) rfl (j := 10) rfl rfl) (g := K105.g) rfl rfl (hD 197 rfl)
  have K107 : Rc K0 T106 (mkF m 383 #[sR r, sR b, sR no, sI (-1), sI 0, sI 0, sI 2, sI 0, sI 0, sI 0, sI 0, sI 0, sI 0, sI 1, sI 2] [(kR b), (kI 0), (kR acs), (kI 0), (kR ac)]) := fun t k => K105 t (st106 t (by
    refine XS.iload X106.here hx rfl (hD 198 rfl) rfl ?_
    refine XS.aloadN X106.here hx rfl (hD 199 rfl) rfl rfl ?_
    exact k))
  obtain ⟨T108, X108, e108, st108⟩ := getR X106 hx hZ hown (hw _ (mi 108 rfl)) e106 (W102q.fld (i := 1) rfl (j := 12) rfl rfl) (g := K107.g) rfl rfl (hD 200 rfl)
  obtain ⟨T109, h109, L109, X109, e109, N109, W109q, st109⟩ := cpW X108 hx hZ hown (hw _ (mi 115 rfl)) (hw _ (mi 118 rfl)) (hw _ (mi 116 rfl)) (hw _ (mi 117 rfl)) e108 W102q N102 (i := 19) (j := 12) rfl rfl rfl (sp := (0 : Int32)) (dp := (0 : Int32)) (nn := (0 : Int32)) (s' := 0) (d' := 0) (k' := 0) (by decide) (by decide) (by decide) (by decide) (by decide) (by decide) (by decide) (by decide) (g := (mkF m 386 #[sR r, sR b, sR no, sI (-1), sI 0, sI 0, sI 2, sI 0, sI 0, sI 0, sI 0, sI 0, sI 0, sI 1, sI 2] [(kI 0), (kI 0), (kR acs), (kI 0), (kR ac)])) rfl (by rw [hml]; rfl) (rest := []) rfl (hD 201 rfl) (by decide) (W0 := 0) (by show 2 * 0 + _ ≤ _; exact Nat.le_of_eq rfl) (by decide)
  have K110 : Rc K0 T109 (mkF m 390 #[sR r, sR b, sR no, sI (-1), sI 0, sI 0, sI 2, sI 0, sI 0, sI 0, sI 0, sI 0, sI 0, sI 1, sI 2] [(kR b)]) := fun t k => K107 t (st108 t (st109 t (XS.aloadN X109.here hx rfl (hD 202 rfl) rfl rfl k)))
  obtain ⟨T111, X111, e111, st111⟩ := getR X109 hx hZ hown (hw _ (mi 119 rfl)) e109 (W109q.fld (i := 1) rfl (j := 7) rfl rfl) (g := K110.g) rfl rfl (hD 203 rfl)
  have K112 : Rc K0 T111 (mkF m 395 #[sR r, sR b, sR no, sI (-1), sI 0, sI 0, sI 2, sI 0, sI 0, sI 0, sI 0, sI 0, sI 0, sI 1, sI 2] [(kR r), (kI 0), (kR cm)]) := fun t k => K110 t (st111 t (by
    refine XS.iconst X111.here hx rfl (hD 204 rfl) ?_
    refine XS.aloadN X111.here hx rfl (hD 205 rfl) rfl rfl ?_
    exact k))
  obtain ⟨T113, X113, e113, st113⟩ := getF X111 hx hZ hown (host := "") (Or.inl (hw _ (mi 36 rfl))) Via.refl e111 (W109q.fld (i := 0) rfl (j := 11) rfl rfl) (g := K112.g) rfl rfl (hD 206 rfl)
  have K114 : Rc K0 T113 (mkF m 401 #[sR r, sR b, sR no, sI (-1), sI 0, sI 0, sI 2, sI 0, sI 0, sI 0, sI 0, sI 0, sI 0, sI 1, sI 2] [(kR b), (kI 0), (kR cms), (kI 0), (kR cm)]) := fun t k => K112 t (st113 t (by
    refine XS.iload X113.here hx rfl (hD 207 rfl) rfl ?_
    refine XS.aloadN X113.here hx rfl (hD 208 rfl) rfl rfl ?_
    exact k))
  obtain ⟨T115, X115, e115, st115⟩ := getR X113 hx hZ hown (hw _ (mi 109 rfl)) e113 (W109q.fld (i := 1) rfl (j := 13) rfl rfl) (g := K114.g) rfl rfl (hD 209 rfl)
  obtain ⟨T116, h116, L116, X116, e116, N116, W116q, st116⟩ := cpW X115 hx hZ hown (hw _ (mi 115 rfl)) (hw _ (mi 118 rfl)) (hw _ (mi 116 rfl)) (hw _ (mi 117 rfl)) e115 W109q N109 (i := 20) (j := 13) rfl rfl rfl (sp := (0 : Int32)) (dp := (0 : Int32)) (nn := (0 : Int32)) (s' := 0) (d' := 0) (k' := 0) (by decide) (by decide) (by decide) (by decide) (by decide) (by decide) (by decide) (by decide) (g := (mkF m 404 #[sR r, sR b, sR no, sI (-1), sI 0, sI 0, sI 2, sI 0, sI 0, sI 0, sI 0, sI 0, sI 0, sI 1, sI 2] [(kI 0), (kI 0), (kR cms), (kI 0), (kR cm)])) rfl (by rw [hml]; rfl) (rest := []) rfl (hD 210 rfl) (by decide) (W0 := 0) (by show 2 * 0 + _ ≤ _; exact Nat.le_of_eq rfl) (by decide)
  have K117 : Rc K0 T116 (mkF m 408 #[sR r, sR b, sR no, sI (-1), sI 0, sI 0, sI 2, sI 0, sI 0, sI 0, sI 0, sI 0, sI 0, sI 1, sI 2] [(kR b)]) := fun t k => K114 t (st115 t (st116 t (XS.aloadN X116.here hx rfl (hD 211 rfl) rfl rfl k)))
  obtain ⟨T118, X118, e118, st118⟩ := getR X116 hx hZ hown (hw _ (mi 120 rfl)) e116 (W116q.fld (i := 1) rfl (j := 9) rfl rfl) (g := K117.g) rfl rfl (hD 212 rfl)
  have K119 : Rc K0 T118 (mkF m 413 #[sR r, sR b, sR no, sI (-1), sI 0, sI 0, sI 2, sI 0, sI 0, sI 0, sI 0, sI 0, sI 0, sI 1, sI 2] [(kR r), (kI 0), (kR su)]) := fun t k => K117 t (st118 t (by
    refine XS.iconst X118.here hx rfl (hD 213 rfl) ?_
    refine XS.aloadN X118.here hx rfl (hD 214 rfl) rfl rfl ?_
    exact k))
  obtain ⟨T120, X120, e120, st120⟩ := getF X118 hx hZ hown (host := "") (Or.inl (hw _ (mi 38 rfl))) Via.refl e118 (W116q.fld (i := 0) rfl (j := 12) rfl rfl) (g := K119.g) rfl rfl (hD 215 rfl)
  have K121 : Rc K0 T120 (mkF m 419 #[sR r, sR b, sR no, sI (-1), sI 0, sI 0, sI 2, sI 0, sI 0, sI 0, sI 0, sI 0, sI 0, sI 1, sI 2] [(kR b), (kI 0), (kR sus), (kI 0), (kR su)]) := fun t k => K119 t (st120 t (by
    refine XS.iload X120.here hx rfl (hD 216 rfl) rfl ?_
    refine XS.aloadN X120.here hx rfl (hD 217 rfl) rfl rfl ?_
    exact k))
  obtain ⟨T122, X122, e122, st122⟩ := getR X120 hx hZ hown (hw _ (mi 110 rfl)) e120 (W116q.fld (i := 1) rfl (j := 14) rfl rfl) (g := K121.g) rfl rfl (hD 218 rfl)
  obtain ⟨T123, h123, L123, X123, e123, N123, W123q, st123⟩ := cpW X122 hx hZ hown (hw _ (mi 115 rfl)) (hw _ (mi 118 rfl)) (hw _ (mi 116 rfl)) (hw _ (mi 117 rfl)) e122 W116q N116 (i := 21) (j := 14) rfl rfl rfl (sp := (0 : Int32)) (dp := (0 : Int32)) (nn := (Int32.ofNat t2)) (s' := 0) (d' := 0) (k' := t2) (by decide) (by decide) (own_nn (by omega)) (by decide) (by decide) (own_tn (by omega)) (by omega) (by omega) (g := (mkF m 422 #[sR r, sR b, sR no, sI (-1), sI 0, sI 0, sI 2, sI 0, sI 0, sI 0, sI 0, sI 0, sI 0, sI 1, sI 2] [(kI (Int32.ofNat t2)), (kI 0), (kR sus), (kI 0), (kR su)])) rfl (by rw [hml]; rfl) (rest := []) rfl (hD 219 rfl) (by decide) (W0 := 0) (by show 2 * 0 + _ ≤ _; exact Nat.le_of_eq rfl) (by decide)
  have W123 : Wo n0 h123 ((r, oR Z [(kR ks), (kR rgs), (kR ns), (kR fch), (kR fk), (kR kl), (kR frg), (kR fac), (kR fcm), (kR ftr), (kR acs), (kR cms), (kR sus), (kR prb), (kI 0), .null, (kI 0), .null, .null, .null, .null, .null, .null, (kI 0), (kI 0)]) :: (b, oB Z [.null, (kI 0), (kR vv), (kI (Int32.ofNat u)), (kR fa), (kR ac), (kR fc), (kR cm), (kR ft), (kR su), (kR pr), (kI 2), (kI 0), (kI 0), (kI (Int32.ofNat t2)), .null]) :: (ks, Ar Z .int 0 g_ks) :: (rgs, Ar Z .int 0 g_rgs) :: (ns, Ar Z .int 16 g_ns) :: (fch, Ar Z .int 17 g_fch) :: (fk, Ar Z .int 17 g_fk) :: (kl, Ar Z .int 16 g_kl) :: (frg, Ar Z .int 17 g_frg) :: (fac, Ar Z .int 17 (upd (upd (upd g_fac 0 (kI 0)) 1 (kI 0)) 2 (kI 0))) :: (fcm, Ar Z .int 17 (upd (upd (upd g_fcm 0 (kI 0)) 1 (kI 0)) 2 (kI 0))) :: (ftr, Ar Z .int 17 (upd (upd (upd g_ftr 0 (kI 0)) 1 (kI (Int32.ofNat t1))) 2 (kI (Int32.ofNat t2)))) :: (acs, Ar Z .int 16 (cpy f4 g_acs 0 0 0)) :: (cms, Ar Z .int 16 (cpy f5 g_cms 0 0 0)) :: (sus, Ar Z .int 64 (cpy f6 g_sus 0 0 t2)) :: (prb, Ar Z .double 64 g_prb) :: (fa, Ar Z .int 2 f1) :: (fc, Ar Z .int 2 f2) :: (ft, Ar Z .int 2 f3) :: (ac, Ar Z .int 2 f4) :: (cm, Ar Z .int 2 f5) :: (su, Ar Z .int 4 f6) :: (pr, Ar Z .double 4 f7) :: (no, Ar Z .int 0 f8) :: (vv, Ar Z .double 3 g_vv) :: Rr) := W123q
  have K124 : Rc K0 T123 (mkF m 426 #[sR r, sR b, sR no, sI (-1), sI 0, sI 0, sI 2, sI 0, sI 0, sI 0, sI 0, sI 0, sI 0, sI 1, sI 2] [(kR b)]) := fun t k => K121 t (st122 t (st123 t (XS.aloadN X123.here hx rfl (hD 220 rfl) rfl rfl k)))
  obtain ⟨T125, X125, e125, st125⟩ := getR X123 hx hZ hown (hw _ (mi 104 rfl)) e123 (W123.fld (i := 1) rfl (j := 0) rfl rfl) (g := K124.g) rfl rfl (hD 221 rfl)
  have K126 : Rc K0 T125 (mkF m 454 #[sR r, sR b, sR no, sI (-1), sI 0, sI 0, sI 2, sI 0, sI 0, sI 0, sI 0, sI 0, sI 0, sI 1, sI 2] [(kR r), (kI 0), (kR no)]) := fun t k => K124 t (st125 t (by
    refine XS.ifnullYes X125.here hx rfl (pc0 := 429) (pc' := 451) rfl (hD 222 rfl) rfl (by decide) (by decide) ?_
    refine XS.aloadN X125.here hx rfl (hD 223 rfl) rfl rfl ?_
    refine XS.iconst X125.here hx rfl (hD 224 rfl) ?_
    refine XS.aloadN X125.here hx rfl (hD 225 rfl) rfl rfl ?_
    exact k))
  obtain ⟨T127, X127, e127, st127⟩ := getF X125 hx hZ hown (host := "") (Or.inl (hw _ (mi 16 rfl))) Via.refl e125 (W123.fld (i := 0) rfl (j := 1) rfl rfl) (g := K126.g) rfl rfl (hD 226 rfl)
  have K128 : Rc K0 T127 (mkF m 461 #[sR r, sR b, sR no, sI (-1), sI 0, sI 0, sI 2, sI 0, sI 0, sI 0, sI 0, sI 0, sI 0, sI 1, sI 2] [(kI 0), (kI 0), (kR rgs), (kI 0), (kR no)]) := fun t k => K126 t (st127 t (by
    refine XS.iload X127.here hx rfl (hD 227 rfl) rfl ?_
    refine XS.aloadN X127.here hx rfl (hD 228 rfl) rfl rfl ?_
    refine lenW X127 hx hZ e127 W123 (i := 23) rfl (fun _ q => q) (z := (0 : Int32)) (by decide) (g := (mkF m 460 #[sR r, sR b, sR no, sI (-1), sI 0, sI 0, sI 2, sI 0, sI 0, sI 0, sI 0, sI 0, sI 0, sI 1, sI 2] [(kR no), (kI 0), (kR rgs), (kI 0), (kR no)])) rfl rfl (hD 229 rfl) _ ?_
    exact k))
  obtain ⟨T129, h129, L129, X129, e129, N129, W129q, st129⟩ := cpW X127 hx hZ hown (hw _ (mi 115 rfl)) (hw _ (mi 118 rfl)) (hw _ (mi 116 rfl)) (hw _ (mi 117 rfl)) e127 W123 N123 (i := 23) (j := 3) rfl rfl rfl (sp := (0 : Int32)) (dp := (0 : Int32)) (nn := (0 : Int32)) (s' := 0) (d' := 0) (k' := 0) (by decide) (by decide) (by decide) (by decide) (by decide) (by decide) (by decide) (by decide) (g := K128.g) rfl (by rw [hml]; rfl) (rest := []) rfl (hD 230 rfl) (by decide) (W0 := 0) (by show 2 * 0 + _ ≤ _; exact Nat.le_of_eq rfl) (by decide)
  have K130 : Rc K0 T129 (mkF m 465 #[sR r, sR b, sR no, sI (-1), sI 0, sI 0, sI 2, sI 0, sI 0, sI 0, sI 0, sI 0, sI 0, sI 1, sI 2] [(kR r)]) := fun t k => K128 t (st129 t (XS.aloadN X129.here hx rfl (hD 231 rfl) rfl rfl k))
  obtain ⟨T131, X131, e131, st131⟩ := getF X129 hx hZ hown (host := "") (Or.inl (hw _ (mi 18 rfl))) Via.refl e129 (W129q.fld (i := 0) rfl (j := 2) rfl rfl) (g := K130.g) rfl rfl (hD 232 rfl)
  have K132 : Rc K0 T131 (mkF m 471 #[sR r, sR b, sR no, sI (-1), sI 0, sI 0, sI 2, sI 0, sI 0, sI 0, sI 0, sI 0, sI 0, sI 1, sI 2] [(kI (-1)), (kI 0), (kR ns)]) := fun t k => K130 t (st131 t (by
    refine XS.iload X131.here hx rfl (hD 233 rfl) rfl ?_
    refine XS.iloadN X131.here hx rfl (hD 234 rfl) rfl ?_
    exact k))
  obtain ⟨T133, h133, L133, X133, e133, N133, W133q, st133⟩ := iasW X131 hx hZ e131 W129q N129 (i := 4) (a := ns) rfl (j := (0 : Int32)) (x := (-1 : Int32)) (k := 0) (by decide) (by decide) (by decide) (g := K132.g) rfl rfl (hD 235 rfl)
  have K134 : Rc K0 T133 (mkF m 473 #[sR r, sR b, sR no, sI (-1), sI 0, sI 0, sI 2, sI 0, sI 0, sI 0, sI 0, sI 0, sI 0, sI 1, sI 2] [(kR r)]) := fun t k => K132 t (st133 t (XS.aloadN X133.here hx rfl (hD 236 rfl) rfl rfl k))
  obtain ⟨T135, X135, e135, st135⟩ := getF X133 hx hZ hown (host := "") (Or.inl (hw _ (mi 24 rfl))) Via.refl e133 (W133q.fld (i := 0) rfl (j := 5) rfl rfl) (g := K134.g) rfl rfl (hD 237 rfl)
  have K136 : Rc K0 T135 (mkF m 479 #[sR r, sR b, sR no, sI (-1), sI 0, sI 0, sI 2, sI 0, sI 0, sI 0, sI 0, sI 0, sI 0, sI 1, sI 2] [(kR b), (kI 0), (kR kl)]) := fun t k => K134 t (st135 t (by
    refine XS.iload X135.here hx rfl (hD 238 rfl) rfl ?_
    refine XS.aloadN X135.here hx rfl (hD 239 rfl) rfl rfl ?_
    exact k))
  obtain ⟨T137, X137, e137, st137⟩ := getR X135 hx hZ hown (hw _ (mi 104 rfl)) e135 (W133q.fld (i := 1) rfl (j := 0) rfl rfl) (g := K136.g) rfl rfl (hD 240 rfl)
  have K138 : Rc K0 T137 (mkF m 494 #[sR r, sR b, sR no, sI (-1), sI 0, sI 0, sI 2, sI 0, sI 0, sI 0, sI 0, sI 0, sI 0, sI 1, sI 2] [(kI (-1)), (kI 0), (kR kl)]) := fun t k => K136 t (st137 t (by
    refine XS.ifnonnullNo X137.here hx rfl (hD 241 rfl) rfl ?_
    refine XS.iconst X137.here hx rfl (hD 242 rfl) ?_
    refine XS.goto X137.here hx rfl (pc0 := 486) (pc' := 494) rfl (hD 243 rfl) (by decide) (by decide) ?_
    exact k))
  obtain ⟨T139, h139, L139, X139, e139, N139, W139q, st139⟩ := iasW X137 hx hZ e137 W133q N133 (i := 7) (a := kl) rfl (j := (0 : Int32)) (x := (-1 : Int32)) (k := 0) (by decide) (by decide) (by decide) (g := K138.g) rfl rfl (hD 244 rfl)
  have K140 : Rc K0 T139 (mkF m 496 #[sR r, sR b, sR no, sI (-1), sI 0, sI 0, sI 2, sI 0, sI 0, sI 0, sI 0, sI 0, sI 0, sI 1, sI 2] [(kR r)]) := fun t k => K138 t (st139 t (XS.aloadN X139.here hx rfl (hD 245 rfl) rfl rfl k))
  obtain ⟨T141, X141, e141, st141⟩ := getF X139 hx hZ hown (host := "") (Or.inl (hw _ (mi 20 rfl))) Via.refl e139 (W139q.fld (i := 0) rfl (j := 3) rfl rfl) (g := K140.g) rfl rfl (hD 246 rfl)
  have K142 : Rc K0 T141 (mkF m 508 #[sR r, sR b, sR no, sI (-1), sI 0, sI 0, sI 2, sI 0, sI 0, sI 0, sI 0, sI 0, sI 0, sI 1, sI 2] [(kI 2), (kI 1), (kR fch)]) := fun t k => K140 t (st141 t (by
    refine XS.iload X141.here hx rfl (hD 247 rfl) rfl ?_
    refine XS.iconst X141.here hx rfl (hD 248 rfl) ?_
    refine XS.iadd X141.here hx rfl (hD 249 rfl) rfl ?_
    refine XS.iload X141.here hx rfl (hD 250 rfl) rfl ?_
    refine XS.iload X141.here hx rfl (hD 251 rfl) rfl ?_
    refine XS.iadd X141.here hx rfl (hD 252 rfl) rfl ?_
    exact k))
  obtain ⟨T143, h143, L143, X143, e143, N143, W143q, st143⟩ := iasW X141 hx hZ e141 W139q N139 (i := 5) (a := fch) rfl (j := (1 : Int32)) (x := (2 : Int32)) (k := 1) (by decide) (by decide) (by decide) (g := K142.g) rfl rfl (hD 253 rfl)
  have W143 : Wo n0 h143 ((r, oR Z [(kR ks), (kR rgs), (kR ns), (kR fch), (kR fk), (kR kl), (kR frg), (kR fac), (kR fcm), (kR ftr), (kR acs), (kR cms), (kR sus), (kR prb), (kI 0), .null, (kI 0), .null, .null, .null, .null, .null, .null, (kI 0), (kI 0)]) :: (b, oB Z [.null, (kI 0), (kR vv), (kI (Int32.ofNat u)), (kR fa), (kR ac), (kR fc), (kR cm), (kR ft), (kR su), (kR pr), (kI 2), (kI 0), (kI 0), (kI (Int32.ofNat t2)), .null]) :: (ks, Ar Z .int 0 g_ks) :: (rgs, Ar Z .int 0 (cpy f8 g_rgs 0 0 0)) :: (ns, Ar Z .int 16 (upd g_ns 0 (kI (-1)))) :: (fch, Ar Z .int 17 (upd g_fch 1 (kI 2))) :: (fk, Ar Z .int 17 g_fk) :: (kl, Ar Z .int 16 (upd g_kl 0 (kI (-1)))) :: (frg, Ar Z .int 17 g_frg) :: (fac, Ar Z .int 17 (upd (upd (upd g_fac 0 (kI 0)) 1 (kI 0)) 2 (kI 0))) :: (fcm, Ar Z .int 17 (upd (upd (upd g_fcm 0 (kI 0)) 1 (kI 0)) 2 (kI 0))) :: (ftr, Ar Z .int 17 (upd (upd (upd g_ftr 0 (kI 0)) 1 (kI (Int32.ofNat t1))) 2 (kI (Int32.ofNat t2)))) :: (acs, Ar Z .int 16 (cpy f4 g_acs 0 0 0)) :: (cms, Ar Z .int 16 (cpy f5 g_cms 0 0 0)) :: (sus, Ar Z .int 64 (cpy f6 g_sus 0 0 t2)) :: (prb, Ar Z .double 64 g_prb) :: (fa, Ar Z .int 2 f1) :: (fc, Ar Z .int 2 f2) :: (ft, Ar Z .int 2 f3) :: (ac, Ar Z .int 2 f4) :: (cm, Ar Z .int 2 f5) :: (su, Ar Z .int 4 f6) :: (pr, Ar Z .double 4 f7) :: (no, Ar Z .int 0 f8) :: (vv, Ar Z .double 3 g_vv) :: Rr) := W143q
  have K144 : Rc K0 T143 (mkF m 510 #[sR r, sR b, sR no, sI (-1), sI 0, sI 0, sI 2, sI 0, sI 0, sI 0, sI 0, sI 0, sI 0, sI 1, sI 2] [(kR r)]) := fun t k => K142 t (st143 t (XS.aloadN X143.here hx rfl (hD 254 rfl) rfl rfl k))
  obtain ⟨T145, X145, e145, st145⟩ := getF X143 hx hZ hown (host := "") (Or.inl (hw _ (mi 22 rfl))) Via.refl e143 (W143.fld (i := 0) rfl (j := 4) rfl rfl) (g := K144.g) rfl rfl (hD 255 rfl)
  have K146 : Rc K0 T145 (mkF m 519 #[sR r, sR b, sR no, sI (-1), sI 0, sI 0, sI 2, sI 0, sI 0, sI 0, sI 0, sI 0, sI 0, sI 1, sI 2] [(kI 0), (kI 1), (kR fk)]) := fun t k => K144 t (st145 t (by
    refine XS.iload X145.here hx rfl (hD 256 rfl) rfl ?_
    refine XS.iconst X145.here hx rfl (hD 257 rfl) ?_
    refine XS.iadd X145.here hx rfl (hD 258 rfl) rfl ?_
    refine XS.iload X145.here hx rfl (hD 259 rfl) rfl ?_
    exact k))
  obtain ⟨T147, h147, L147, X147, e147, N147, W147q, st147⟩ := iasW X145 hx hZ e145 W143 N143 (i := 6) (a := fk) rfl (j := (1 : Int32)) (x := (0 : Int32)) (k := 1) (by decide) (by decide) (by decide) (g := K146.g) rfl rfl (hD 260 rfl)
  have K148 : Rc K0 T147 (mkF m 521 #[sR r, sR b, sR no, sI (-1), sI 0, sI 0, sI 2, sI 0, sI 0, sI 0, sI 0, sI 0, sI 0, sI 1, sI 2] [(kR r)]) := fun t k => K146 t (st147 t (XS.aloadN X147.here hx rfl (hD 261 rfl) rfl rfl k))
  obtain ⟨T149, X149, e149, st149⟩ := getF X147 hx hZ hown (host := "") (Or.inl (hw _ (mi 26 rfl))) Via.refl e147 (W147q.fld (i := 0) rfl (j := 6) rfl rfl) (g := K148.g) rfl rfl (hD 262 rfl)
  have K150 : Rc K0 T149 (mkF m 533 #[sR r, sR b, sR no, sI (-1), sI 0, sI 0, sI 2, sI 0, sI 0, sI 0, sI 0, sI 0, sI 0, sI 1, sI 2] [(kI 0), (kI 1), (kR frg)]) := fun t k => K148 t (st149 t (by
    refine XS.iload X149.here hx rfl (hD 263 rfl) rfl ?_
    refine XS.iconst X149.here hx rfl (hD 264 rfl) ?_
    refine XS.iadd X149.here hx rfl (hD 265 rfl) rfl ?_
    refine XS.iload X149.here hx rfl (hD 266 rfl) rfl ?_
    refine XS.aloadN X149.here hx rfl (hD 267 rfl) rfl rfl ?_
    refine lenW X149 hx hZ e149 W147q (i := 23) rfl (fun _ q => q) (z := (0 : Int32)) (by decide) (g := (mkF m 531 #[sR r, sR b, sR no, sI (-1), sI 0, sI 0, sI 2, sI 0, sI 0, sI 0, sI 0, sI 0, sI 0, sI 1, sI 2] [(kR no), (kI 0), (kI 1), (kR frg)])) rfl rfl (hD 268 rfl) _ ?_
    refine XS.iadd X149.here hx rfl (hD 269 rfl) rfl ?_
    exact k))
  obtain ⟨T151, h151, L151, X151, e151, N151, W151q, st151⟩ := iasW X149 hx hZ e149 W147q N147 (i := 8) (a := frg) rfl (j := (1 : Int32)) (x := (0 : Int32)) (k := 1) (by decide) (by decide) (by decide) (g := K150.g) rfl rfl (hD 270 rfl)
  have K152 : Rc K0 T151 (mkF m 536 #[sR r, sR b, sR no, sI (-1), sI 0, sI 0, sI 2, sI 0, sI 0, sI 0, sI 0, sI 0, sI 0, sI 1, sI 2] [(kR r), (kR r)]) := fun t k => K150 t (st151 t (by
    refine XS.aloadN X151.here hx rfl (hD 271 rfl) rfl rfl ?_
    refine XS.dup X151.here hx rfl (hD 272 rfl) rfl rfl ?_
    exact k))
  obtain ⟨T153, X153, e153, st153⟩ := getF X151 hx hZ hown (host := "") (Or.inl (hw _ (mi 101 rfl))) Via.refl e151 (W151q.fld (i := 0) rfl (j := 14) rfl rfl) (g := K152.g) rfl rfl (hD 273 rfl)
  have K154 : Rc K0 T153 (mkF m 541 #[sR r, sR b, sR no, sI (-1), sI 0, sI 0, sI 2, sI 0, sI 0, sI 0, sI 0, sI 0, sI 0, sI 1, sI 2] [(kI 1), (kR r)]) := fun t k => K152 t (st153 t (by
    refine XS.iconst X153.here hx rfl (hD 274 rfl) ?_
    refine XS.iadd X153.here hx rfl (hD 275 rfl) rfl ?_
    exact k))
  obtain ⟨T155, h155, L155, X155, e155, N155, W155q, st155⟩ := putW X153 hx hZ hown (host := "") (Or.inl (hw _ (mi 101 rfl))) e153 W151q N151 (own_dR hw) (Or.inl (hw _ (mi 102 rfl))) (hw _ (mi 6 rfl)) (ty := .int) (by decide +kernel) (i := 0) (a := r) rfl (j := 14) rfl rfl (v := (.int (1 : Int32))) rfl rfl (g := K154.g) rfl rfl (hD 276 rfl)
  have K156 : Rc K0 T155 (mkF m 550 #[sR r, sR b, sR no, sI (-1), sI 0, sI 0, sI 2, sI 0, sI 0, sI 0, sI 0, sI 0, sI 0, sI 1, sI 2] [(kR b)]) := fun t k => K154 t (st155 t (by
    refine XS.iload X155.here hx rfl (hD 277 rfl) rfl ?_
    refine XS.ifNo X155.here hx rfl (hD 278 rfl) rfl (by decide) ?_
    refine XS.aloadN X155.here hx rfl (hD 279 rfl) rfl rfl ?_
    exact k))
  obtain ⟨T157, X157, e157, st157⟩ := getR X155 hx hZ hown (hw _ (mi 121 rfl)) e155 (W155q.fld (i := 1) rfl (j := 10) rfl rfl) (g := K156.g) rfl rfl (hD 280 rfl)
  have K158 : Rc K0 T157 (mkF m 555 #[sR r, sR b, sR no, sI (-1), sI 0, sI 0, sI 2, sI 0, sI 0, sI 0, sI 0, sI 0, sI 0, sI 1, sI 2] [(kR r), (kI 0), (kR pr)]) := fun t k => K156 t (st157 t (by
    refine XS.iconst X157.here hx rfl (hD 281 rfl) ?_
    refine XS.aloadN X157.here hx rfl (hD 282 rfl) rfl rfl ?_
    exact k))
  obtain ⟨T159, X159, e159, st159⟩ := getF X157 hx hZ hown (host := "") (Or.inl (hw _ (mi 40 rfl))) Via.refl e157 (W155q.fld (i := 0) rfl (j := 13) rfl rfl) (g := K158.g) rfl rfl (hD 283 rfl)
  have K160 : Rc K0 T159 (mkF m 561 #[sR r, sR b, sR no, sI (-1), sI 0, sI 0, sI 2, sI 0, sI 0, sI 0, sI 0, sI 0, sI 0, sI 1, sI 2] [(kR b), (kI 0), (kR prb), (kI 0), (kR pr)]) := fun t k => K158 t (st159 t (by
    refine XS.iload X159.here hx rfl (hD 284 rfl) rfl ?_
    refine XS.aloadN X159.here hx rfl (hD 285 rfl) rfl rfl ?_
    exact k))
  obtain ⟨T161, X161, e161, st161⟩ := getR X159 hx hZ hown (hw _ (mi 110 rfl)) e159 (W155q.fld (i := 1) rfl (j := 14) rfl rfl) (g := K160.g) rfl rfl (hD 286 rfl)
  obtain ⟨T162, h162, L162, X162, e162, N162, W162q, st162⟩ := cpW X161 hx hZ hown (hw _ (mi 115 rfl)) (hw _ (mi 118 rfl)) (hw _ (mi 116 rfl)) (hw _ (mi 117 rfl)) e161 W155q N155 (i := 22) (j := 15) rfl rfl rfl (sp := (0 : Int32)) (dp := (0 : Int32)) (nn := (Int32.ofNat t2)) (s' := 0) (d' := 0) (k' := t2) (by decide) (by decide) (own_nn (by omega)) (by decide) (by decide) (own_tn (by omega)) (by omega) (by omega) (g := (mkF m 564 #[sR r, sR b, sR no, sI (-1), sI 0, sI 0, sI 2, sI 0, sI 0, sI 0, sI 0, sI 0, sI 0, sI 1, sI 2] [(kI (Int32.ofNat t2)), (kI 0), (kR prb), (kI 0), (kR pr)])) rfl (by rw [hml]; rfl) (rest := []) rfl (hD 287 rfl) (by decide) (W0 := 0) (by show 2 * 0 + _ ≤ _; exact Nat.le_of_eq rfl) (by decide)
  have W162 : Wo n0 h162 ((r, oR Z [(kR ks), (kR rgs), (kR ns), (kR fch), (kR fk), (kR kl), (kR frg), (kR fac), (kR fcm), (kR ftr), (kR acs), (kR cms), (kR sus), (kR prb), (kI 1), .null, (kI 0), .null, .null, .null, .null, .null, .null, (kI 0), (kI 0)]) :: (b, oB Z [.null, (kI 0), (kR vv), (kI (Int32.ofNat u)), (kR fa), (kR ac), (kR fc), (kR cm), (kR ft), (kR su), (kR pr), (kI 2), (kI 0), (kI 0), (kI (Int32.ofNat t2)), .null]) :: (ks, Ar Z .int 0 g_ks) :: (rgs, Ar Z .int 0 (cpy f8 g_rgs 0 0 0)) :: (ns, Ar Z .int 16 (upd g_ns 0 (kI (-1)))) :: (fch, Ar Z .int 17 (upd g_fch 1 (kI 2))) :: (fk, Ar Z .int 17 (upd g_fk 1 (kI 0))) :: (kl, Ar Z .int 16 (upd g_kl 0 (kI (-1)))) :: (frg, Ar Z .int 17 (upd g_frg 1 (kI 0))) :: (fac, Ar Z .int 17 (upd (upd (upd g_fac 0 (kI 0)) 1 (kI 0)) 2 (kI 0))) :: (fcm, Ar Z .int 17 (upd (upd (upd g_fcm 0 (kI 0)) 1 (kI 0)) 2 (kI 0))) :: (ftr, Ar Z .int 17 (upd (upd (upd g_ftr 0 (kI 0)) 1 (kI (Int32.ofNat t1))) 2 (kI (Int32.ofNat t2)))) :: (acs, Ar Z .int 16 (cpy f4 g_acs 0 0 0)) :: (cms, Ar Z .int 16 (cpy f5 g_cms 0 0 0)) :: (sus, Ar Z .int 64 (cpy f6 g_sus 0 0 t2)) :: (prb, Ar Z .double 64 (cpy f7 g_prb 0 0 t2)) :: (fa, Ar Z .int 2 f1) :: (fc, Ar Z .int 2 f2) :: (ft, Ar Z .int 2 f3) :: (ac, Ar Z .int 2 f4) :: (cm, Ar Z .int 2 f5) :: (su, Ar Z .int 4 f6) :: (pr, Ar Z .double 4 f7) :: (no, Ar Z .int 0 f8) :: (vv, Ar Z .double 3 g_vv) :: Rr) := W162q
  have K163 : Rc K0 T162 (mkF m 569 #[sR r, sR b, sR no, sI (-1), sI 0, sI 0, sI 2, sI 0, sI 0, sI 0, sI 0, sI 0, sI 0, sI 1, sI 2] [(kR r), (kR r)]) := fun t k => K160 t (st161 t (st162 t (by
    refine XS.aloadN X162.here hx rfl (hD 288 rfl) rfl rfl ?_
    refine XS.dup X162.here hx rfl (hD 289 rfl) rfl rfl ?_
    exact k)))
  obtain ⟨T164, X164, e164, st164⟩ := getF X162 hx hZ hown (host := "") (Or.inl (hw _ (mi 122 rfl))) Via.refl e162 (W162.fld (i := 0) rfl (j := 16) rfl rfl) (g := K163.g) rfl rfl (hD 290 rfl)
  have K165 : Rc K0 T164 (mkF m 575 #[sR r, sR b, sR no, sI (-1), sI 0, sI 0, sI 2, sI 0, sI 0, sI 0, sI 0, sI 0, sI 0, sI 1, sI 2] [(kI 1), (kR r), (kI 0)]) := fun t k => K163 t (st164 t (by
    refine XS.dupX1 X164.here hx rfl (hD 291 rfl) rfl rfl rfl ?_
    refine XS.iconst X164.here hx rfl (hD 292 rfl) ?_
    refine XS.iadd X164.here hx rfl (hD 293 rfl) rfl ?_
    exact k))
  obtain ⟨T166, h166, L166, X166, e166, N166, W166q, st166⟩ := putW X164 hx hZ hown (host := "") (Or.inl (hw _ (mi 122 rfl))) e164 W162 N162 (own_dR hw) (Or.inl (hw _ (mi 123 rfl))) (hw _ (mi 6 rfl)) (ty := .int) (by decide +kernel) (i := 0) (a := r) rfl (j := 16) rfl rfl (v := (.int (1 : Int32))) rfl rfl (g := K165.g) rfl rfl (hD 294 rfl)
  have K167 : Rc K0 T166 (mkF m 639 #[sR r, sR b, sR no, sI (-1), sI 0, sI 0, sI 2, sI 0, sI 0, sI 0, sI 0, sI 0, sI 0, sI 1, sI 0] [(kI 0)]) := fun t k => K165 t (st166 t (by
    refine XS.istore X166.here hx rfl (hD 295 rfl) rfl (l' := #[sR r, sR b, sR no, sI (-1), sI 0, sI 0, sI 2, sI 0, sI 0, sI 0, sI 0, sI 0, sI 0, sI 1, sI 0]) rfl ?_
    refine XS.goto X166.here hx rfl (pc0 := 580) (pc' := 637) rfl (hD 296 rfl) (by decide) (by decide) ?_
    refine XS.iload X166.here hx rfl (hD 324 rfl) rfl ?_
    exact k))
  obtain ⟨fs, hr, hrun, hended, hWm, hsame⟩ := X166.leave (v := some (.int (0 : Int32))) (fun h => by rw [Bd.returns] at h; cases h)
  refine ⟨_, _, pre0 _ (K167 _ (retI X166 hx Bd.returns (hD 325 rfl) hr)), hrun, hended, _, _, rfl, ?_, ⟨_, rfl⟩, hWm, hsame.mono (by decide) (by decide)⟩
  show QrmADF Z r ks rgs ns fch fk kl frg fac fcm ftr acs cms sus prb b fa ac fc cm ft su pr no vv u t1 t2 g_ks g_rgs g_ns g_fch g_fk g_kl g_frg g_fac g_fcm g_ftr g_acs g_cms g_sus g_prb f1 f2 f3 f4 f5 f6 f7 f8 g_vv Rr n0 _ T166.heap _
  rw [e166]
  exact ⟨rfl, N166, W166q⟩
theorem ef_rmADV (m : MethodId) (r ks rgs ns fch fk kl frg fac fcm ftr acs cms sus prb : Addr) (b fa ac fc cm ft su pr : Addr) (no vv : Addr) (u t1 t2 : Nat) (g_ks g_rgs g_ns g_fch g_fk g_kl g_frg g_fac g_fcm g_ftr g_acs g_cms g_sus g_prb : Nat → Value) (f1 f2 f3 f4 f5 f6 f7 f8 g_vv : Nat → Value) : entryFrame m #[(.ref r), (.ref b), (.ref no), (.int (-1 : Int32))] 15 = mkF m 0 #[.val (.ref r), .val (.ref b), .val (.ref no), .val (.int (-1 : Int32)), .unset, .unset, .unset, .unset, .unset, .unset, .unset, .unset, .unset, .unset, .unset] [] := by first | (simp [entryFrame, mkF, argsToLocals, Value.category]; done) | rfl
def QrmADV (Z : State) (r ks rgs ns fch fk kl frg fac fcm ftr acs cms sus prb : Addr) (b fa ac fc cm ft su pr : Addr) (no vv : Addr) (u t1 t2 : Nat) (g_ks g_rgs g_ns g_fch g_fk g_kl g_frg g_fac g_fcm g_ftr g_acs g_cms g_sus g_prb : Nat → Value) (f1 f2 f3 f4 f5 f6 f7 f8 g_vv : Nat → Value) (Rr : List (Addr × (Cell → Prop))) (n0 : Nat) (v : Option Value) (h : Heap) (L : List Loc) : Prop := ∃ a26_156 a36_156 a6_156 a9_156 a12_156 a15_156 a18_156 a21_156, v = some (.int (0 : Int32)) ∧ Fr n0 L ∧ Wo n0 h ((r, oR Z [(kR ks), (kR rgs), (kR ns), (kR fch), (kR fk), (kR kl), (kR frg), (kR fac), (kR fcm), (kR ftr), (kR acs), (kR cms), (kR sus), (kR prb), (kI 1), (kR a6_156), (kI 1), (kR a9_156), (kR a12_156), (kR a15_156), (kR a18_156), (kR a21_156), (kR a26_156), (kI 2), (kI (Int32.ofNat (u + t2)))]) :: (ftr, Ar Z .int 17 (upd (upd (upd g_ftr 0 (kI 0)) 1 (kI (Int32.ofNat t1))) 2 (kI (Int32.ofNat t2)))) :: (fch, Ar Z .int 17 (upd g_fch 1 (kI 2))) :: (a26_156, Pg Z .double 4 (upd (upd zN 0 (kR prb)) 1 (kR a36_156))) :: (a36_156, Ar Z .double 64 (cpy f7 (cpy g_vv zD 0 0 u) 0 u t2)) :: (a6_156, Ar Z .int 4 (upd (upd zI 0 (kI (-1))) 0 (kI 0))) :: (a9_156, Ar Z .int 4 (upd zI 0 (kI 0))) :: (a12_156, Ar Z .int 4 (upd zI 0 (kI (-1)))) :: (a15_156, Ar Z .int 4 (upd zI 0 (kI 1))) :: (a18_156, Ar Z .int 4 (upd zI 0 (kI (Int32.ofNat u)))) :: (a21_156, Ar Z .int 4 (upd zI 0 (kI (Int32.ofNat u)))) :: (vv, Ar Z .double 3 g_vv) :: (pr, Ar Z .double 4 f7) :: (prb, Ar Z .double 64 g_prb) :: (b, oB Z [.null, (kI 0), (kR vv), (kI (Int32.ofNat u)), (kR fa), (kR ac), (kR fc), (kR cm), (kR ft), (kR su), (kR pr), (kI 2), (kI 0), (kI 0), (kI (Int32.ofNat t2)), .null]) :: (ks, Ar Z .int 0 g_ks) :: (rgs, Ar Z .int 0 (cpy f8 g_rgs 0 0 0)) :: (ns, Ar Z .int 16 (upd g_ns 0 (kI (-1)))) :: (fk, Ar Z .int 17 (upd g_fk 1 (kI 0))) :: (kl, Ar Z .int 16 (upd g_kl 0 (kI (-1)))) :: (frg, Ar Z .int 17 (upd g_frg 1 (kI 0))) :: (fac, Ar Z .int 17 (upd (upd (upd g_fac 0 (kI 0)) 1 (kI 0)) 2 (kI 0))) :: (fcm, Ar Z .int 17 (upd (upd (upd g_fcm 0 (kI 0)) 1 (kI 0)) 2 (kI 0))) :: (acs, Ar Z .int 16 (cpy f4 g_acs 0 0 0)) :: (cms, Ar Z .int 16 (cpy f5 g_cms 0 0 0)) :: (sus, Ar Z .int 64 (cpy f6 g_sus 0 0 t2)) :: (fa, Ar Z .int 2 f1) :: (fc, Ar Z .int 2 f2) :: (ft, Ar Z .int 2 f3) :: (ac, Ar Z .int 2 f4) :: (cm, Ar Z .int 2 f5) :: (su, Ar Z .int 4 f6) :: (no, Ar Z .int 0 f8) :: Rr)
set_option maxRecDepth 65536 in
set_option maxHeartbeats 40000000 in
theorem rmADV (l : Launch) (Z : State) (a0 : Array Value) (hw : ∀ d ∈ tables_1, d.before a0 Z = true) (ws : List Jvm.Cond) (r ks rgs ns fch fk kl frg fac fcm ftr acs cms sus prb : Addr) (b fa ac fc cm ft su pr : Addr) (no vv : Addr) (u t1 t2 : Nat) (g_ks g_rgs g_ns g_fch g_fk g_kl g_frg g_fac g_fcm g_ftr g_acs g_cms g_sus g_prb : Nat → Value) (f1 f2 f3 f4 f5 f6 f7 f8 g_vv : Nat → Value) (Rr : List (Addr × (Cell → Prop))) (h0 : Heap) (n0 : Nat) (W0 : Wo n0 h0 ((r, oR Z [(kR ks), (kR rgs), (kR ns), (kR fch), (kR fk), (kR kl), (kR frg), (kR fac), (kR fcm), (kR ftr), (kR acs), (kR cms), (kR sus), (kR prb), (kI 0), .null, (kI 0), .null, .null, .null, .null, .null, .null, (kI 0), (kI 0)]) :: (b, oB Z [.null, (kI 0), (kR vv), (kI (Int32.ofNat u)), (kR fa), (kR ac), (kR fc), (kR cm), (kR ft), (kR su), (kR pr), (kI 2), (kI 0), (kI 0), (kI (Int32.ofNat t2)), .null]) :: (ks, Ar Z .int 0 g_ks) :: (rgs, Ar Z .int 0 g_rgs) :: (ns, Ar Z .int 16 g_ns) :: (fch, Ar Z .int 17 g_fch) :: (fk, Ar Z .int 17 g_fk) :: (kl, Ar Z .int 16 g_kl) :: (frg, Ar Z .int 17 g_frg) :: (fac, Ar Z .int 17 g_fac) :: (fcm, Ar Z .int 17 g_fcm) :: (ftr, Ar Z .int 17 g_ftr) :: (acs, Ar Z .int 16 g_acs) :: (cms, Ar Z .int 16 g_cms) :: (sus, Ar Z .int 64 g_sus) :: (prb, Ar Z .double 64 g_prb) :: (fa, Ar Z .int 2 f1) :: (fc, Ar Z .int 2 f2) :: (ft, Ar Z .int 2 f3) :: (ac, Ar Z .int 2 f4) :: (cm, Ar Z .int 2 f5) :: (su, Ar Z .int 4 f6) :: (pr, Ar Z .double 4 f7) :: (no, Ar Z .int 0 f8) :: (vv, Ar Z .double 3 g_vv) :: Rr)) (hu1 : 1 ≤ u) (hu3 : u ≤ 3) (ht3 : t2 ≤ 3) (h_fch : g_fch 0 = (.int (0 : Int32))) (h_fk : g_fk 0 = (.int (0 : Int32))) (h_frg : g_frg 0 = (.int (0 : Int32))) (h_fac : g_fac 0 = (.int (0 : Int32))) (h_fcm : g_fcm 0 = (.int (0 : Int32))) (h_ftr : g_ftr 0 = (.int (0 : Int32))) (h_f10 : f1 0 = (.int (0 : Int32))) (h_f11 : f1 1 = (.int (0 : Int32))) (h_f20 : f2 0 = (.int (0 : Int32))) (h_f21 : f2 1 = (.int (0 : Int32))) (h_f30 : f3 0 = (.int (0 : Int32))) (h_f31 : f3 1 = (.int (Int32.ofNat t1))) :
    MetFree l y_add (head1 (Jvm.Cond.code y_add prog_87_method_2_code 15 (some .int) :: ws) ({ frames := 5, cells := 8, slots := 92, locals := 74 } : Room)) (fun aa U => aa = #[(.ref r), (.ref b), (.ref no), (.int (-1 : Int32))] ∧ Z.Warmed39 U.vm ∧ U.heap = h0) (fun _ _ _ _ _ => True) (fun _ U ou U' => ∃ v L, ou = .returned v ∧ QrmADV Z r ks rgs ns fch fk kl frg fac fcm ftr acs cms sus prb b fa ac fc cm ft su pr no vv u t1 t2 g_ks g_rgs g_ns g_fch g_fk g_kl g_frg g_fac g_fcm g_ftr g_acs g_cms g_sus g_prb f1 f2 f3 f4 f5 f6 f7 f8 g_vv Rr n0 v U'.heap L ∧ FrameEnd U ou U' L ({ frames := 5, cells := 8, slots := 92, locals := 74 } : Room).cells ({ frames := 5, cells := 8, slots := 92, locals := 74 } : Room).slots) := by
  refine MetFree.of_bodySF (plainFor_of_name pn_Rows) hisR ?_
  intro p e s m args below meth c s₁ Bd hml0 hP hK
  obtain ⟨rfl, hZ, hh⟩ := hP
  have hx := Bd.exec
  have hby := Bd.bytes
  have hml : c.maxLocals = 15 := hml0
  have hD : ∀ (k : Nat) {pc : Nat} {i : Instr} {n : Nat}, Ld_add[k]? = some (pc, i, n) → decode c.code pc = .ok (i, n) := by intro k pc i n h; exact hb hby (d_add (pc, i, n) (mi k h))
  have hown : s.vm.findClass "com/example/sambre/sambre/engine/Rows" = some m.cls := findClass_of_methodNamed Bd.named
  have hnm := (name_of_methodNamed Bd.named Bd.method).1
  have X0 : Stand p l e ({ frames := 5, cells := 8, slots := 92, locals := 74 } : Room) s m #[(.ref r), (.ref b), (.ref no), (.int (-1 : Int32))] below meth c s₁ [] 0 0 := Stand.of_body Bd
  have e0 : s₁.heap = h0 := by rw [← hh, Bd.state]; rfl
  have N0 := Fr.nil n0
  obtain ⟨F0, hF0⟩ : ∃ F, F = mkF m 0 #[.val (.ref r), .val (.ref b), .val (.ref no), .val (.int (-1 : Int32)), .unset, .unset, .unset, .unset, .unset, .unset, .unset, .unset, .unset, .unset, .unset] [] := ⟨_, rfl⟩
  have pre0 : ∀ t, Steps p.tables e below (s₁.setTop F0) t → Steps p.tables e below (s₁.setTop (entryFrame m #[(.ref r), (.ref b), (.ref no), (.int (-1 : Int32))] 15)) t := fun t k => castTop ((ef_rmADV m r ks rgs ns fch fk kl frg fac fcm ftr acs cms sus prb b fa ac fc cm ft su pr no vv u t1 t2 g_ks g_rgs g_ns g_fch g_fk g_kl g_frg g_fac g_fcm g_ftr g_acs g_cms g_sus g_prb f1 f2 f3 f4 f5 f6 f7 f8 g_vv).trans hF0.symm) k
  have K0 : Rch p e below s₁ F0 s₁ (mkF m 0 #[.val (.ref r), .val (.ref b), .val (.ref no), .val (.int (-1 : Int32)), .unset, .unset, .unset, .unset, .unset, .unset, .unset, .unset, .unset, .unset, .unset] []) := fun t k => castTop hF0 k
  have K1 : Rc K0 s₁ (mkF m 1 #[sR r, sR b, sR no, sI (-1), sU, sU, sU, sU, sU, sU, sU, sU, sU, sU, sU] [(kR r)]) := fun t k => K0 t (XS.aloadN X0.here hx rfl (hD 0 rfl) rfl rfl k)
  obtain ⟨T2, X2, e2, st2⟩ := getF X0 hx hZ hown (host := "") (Or.inl (hw _ (mi 101 rfl))) Via.refl e0 (W0.fld (i := 0) rfl (j := 14) rfl rfl) (g := K1.g) rfl rfl (hD 1 rfl)
  have K3 : Rc K0 T2 (mkF m 7 #[sR r, sR b, sR no, sI (-1), sI 0, sU, sU, sU, sU, sU, sU, sU, sU, sU, sU] [(kR r)]) := fun t k => K1 t (st2 t (by
    refine XS.istore X2.here hx rfl (hD 2 rfl) rfl (l' := #[sR r, sR b, sR no, sI (-1), sI 0, sU, sU, sU, sU, sU, sU, sU, sU, sU, sU]) rfl ?_
    refine XS.aloadN X2.here hx rfl (hD 3 rfl) rfl rfl ?_
    exact k))
  obtain ⟨T4, X4, e4, st4⟩ := getF X2 hx hZ hown (host := "") (Or.inl (hw _ (mi 20 rfl))) Via.refl e2 (W0.fld (i := 0) rfl (j := 3) rfl rfl) (g := K3.g) rfl rfl (hD 4 rfl)
  have K5 : Rc K0 T4 (mkF m 16 #[sR r, sR b, sR no, sI (-1), sI 0, sI 0, sU, sU, sU, sU, sU, sU, sU, sU, sU] [(kR b)]) := fun t k => K3 t (st4 t (by
    refine XS.iload X4.here hx rfl (hD 5 rfl) rfl ?_
    refine ialW X4 hx hZ e4 W0 (i := 5) rfl (j := (0 : Int32)) (k := 0) (by decide) (by decide) (by decide) (v := (.int (0 : Int32))) h_fch (g := (mkF m 12 #[sR r, sR b, sR no, sI (-1), sI 0, sU, sU, sU, sU, sU, sU, sU, sU, sU, sU] [(kI 0), (kR fch)])) rfl rfl (hD 6 rfl) _ ?_
    refine XS.istore X4.here hx rfl (hD 7 rfl) rfl (l' := #[sR r, sR b, sR no, sI (-1), sI 0, sI 0, sU, sU, sU, sU, sU, sU, sU, sU, sU]) rfl ?_
    refine XS.aloadN X4.here hx rfl (hD 8 rfl) rfl rfl ?_
    exact k))
  obtain ⟨T6, X6, e6, st6⟩ := getR X4 hx hZ hown (hw _ (mi 103 rfl)) e4 (W0.fld (i := 1) rfl (j := 11) rfl rfl) (g := K5.g) rfl rfl (hD 9 rfl)
  have K7 : Rc K0 T6 (mkF m 22 #[sR r, sR b, sR no, sI (-1), sI 0, sI 0, sI 2, sU, sU, sU, sU, sU, sU, sU, sU] [(kR r)]) := fun t k => K5 t (st6 t (by
    refine XS.istore X6.here hx rfl (hD 10 rfl) rfl (l' := #[sR r, sR b, sR no, sI (-1), sI 0, sI 0, sI 2, sU, sU, sU, sU, sU, sU, sU, sU]) rfl ?_
    refine XS.aloadN X6.here hx rfl (hD 11 rfl) rfl rfl ?_
    exact k))
  obtain ⟨T8, X8, e8, st8⟩ := getF X6 hx hZ hown (host := "") (Or.inl (hw _ (mi 28 rfl))) Via.refl e6 (W0.fld (i := 0) rfl (j := 7) rfl rfl) (g := K7.g) rfl rfl (hD 12 rfl)
  have K9 : Rc K0 T8 (mkF m 31 #[sR r, sR b, sR no, sI (-1), sI 0, sI 0, sI 2, sI 0, sU, sU, sU, sU, sU, sU, sU] [(kR r)]) := fun t k => K7 t (st8 t (by
    refine XS.iload X8.here hx rfl (hD 13 rfl) rfl ?_
    refine ialW X8 hx hZ e8 W0 (i := 9) rfl (j := (0 : Int32)) (k := 0) (by decide) (by decide) (by decide) (v := (.int (0 : Int32))) h_fac (g := (mkF m 27 #[sR r, sR b, sR no, sI (-1), sI 0, sI 0, sI 2, sU, sU, sU, sU, sU, sU, sU, sU] [(kI 0), (kR fac)])) rfl rfl (hD 14 rfl) _ ?_
    refine XS.istore X8.here hx rfl (hD 15 rfl) rfl (l' := #[sR r, sR b, sR no, sI (-1), sI 0, sI 0, sI 2, sI 0, sU, sU, sU, sU, sU, sU, sU]) rfl ?_
    refine XS.aloadN X8.here hx rfl (hD 16 rfl) rfl rfl ?_
    exact k))
  obtain ⟨T10, X10, e10, st10⟩ := getF X8 hx hZ hown (host := "") (Or.inl (hw _ (mi 30 rfl))) Via.refl e8 (W0.fld (i := 0) rfl (j := 8) rfl rfl) (g := K9.g) rfl rfl (hD 17 rfl)
  have K11 : Rc K0 T10 (mkF m 40 #[sR r, sR b, sR no, sI (-1), sI 0, sI 0, sI 2, sI 0, sI 0, sU, sU, sU, sU, sU, sU] [(kR r)]) := fun t k => K9 t (st10 t (by
    refine XS.iload X10.here hx rfl (hD 18 rfl) rfl ?_
    refine ialW X10 hx hZ e10 W0 (i := 10) rfl (j := (0 : Int32)) (k := 0) (by decide) (by decide) (by decide) (v := (.int (0 : Int32))) h_fcm (g := (mkF m 36 #[sR r, sR b, sR no, sI (-1), sI 0, sI 0, sI 2, sI 0, sU, sU, sU, sU, sU, sU, sU] [(kI 0), (kR fcm)])) rfl rfl (hD 19 rfl) _ ?_
    refine XS.istore X10.here hx rfl (hD 20 rfl) rfl (l' := #[sR r, sR b, sR no, sI (-1), sI 0, sI 0, sI 2, sI 0, sI 0, sU, sU, sU, sU, sU, sU]) rfl ?_
    refine XS.aloadN X10.here hx rfl (hD 21 rfl) rfl rfl ?_
    exact k))
  obtain ⟨T12, X12, e12, st12⟩ := getF X10 hx hZ hown (host := "") (Or.inl (hw _ (mi 32 rfl))) Via.refl e10 (W0.fld (i := 0) rfl (j := 9) rfl rfl) (g := K11.g) rfl rfl (hD 22 rfl)
  have K13 : Rc K0 T12 (mkF m 49 #[sR r, sR b, sR no, sI (-1), sI 0, sI 0, sI 2, sI 0, sI 0, sI 0, sU, sU, sU, sU, sU] [(kR r)]) := fun t k => K11 t (st12 t (by
    refine XS.iload X12.here hx rfl (hD 23 rfl) rfl ?_
    refine ialW X12 hx hZ e12 W0 (i := 11) rfl (j := (0 : Int32)) (k := 0) (by decide) (by decide) (by decide) (v := (.int (0 : Int32))) h_ftr (g := (mkF m 45 #[sR r, sR b, sR no, sI (-1), sI 0, sI 0, sI 2, sI 0, sI 0, sU, sU, sU, sU, sU, sU] [(kI 0), (kR ftr)])) rfl rfl (hD 24 rfl) _ ?_
    refine XS.istore X12.here hx rfl (hD 25 rfl) rfl (l' := #[sR r, sR b, sR no, sI (-1), sI 0, sI 0, sI 2, sI 0, sI 0, sI 0, sU, sU, sU, sU, sU]) rfl ?_
    refine XS.aloadN X12.here hx rfl (hD 26 rfl) rfl rfl ?_
    exact k))
  obtain ⟨T14, X14, e14, st14⟩ := getF X12 hx hZ hown (host := "") (Or.inl (hw _ (mi 22 rfl))) Via.refl e12 (W0.fld (i := 0) rfl (j := 4) rfl rfl) (g := K13.g) rfl rfl (hD 27 rfl)
  have K15 : Rc K0 T14 (mkF m 60 #[sR r, sR b, sR no, sI (-1), sI 0, sI 0, sI 2, sI 0, sI 0, sI 0, sI 0, sU, sU, sU, sU] [(kR b), (kI 0)]) := fun t k => K13 t (st14 t (by
    refine XS.iload X14.here hx rfl (hD 28 rfl) rfl ?_
    refine ialW X14 hx hZ e14 W0 (i := 6) rfl (j := (0 : Int32)) (k := 0) (by decide) (by decide) (by decide) (v := (.int (0 : Int32))) h_fk (g := (mkF m 54 #[sR r, sR b, sR no, sI (-1), sI 0, sI 0, sI 2, sI 0, sI 0, sI 0, sU, sU, sU, sU, sU] [(kI 0), (kR fk)])) rfl rfl (hD 29 rfl) _ ?_
    refine XS.istore X14.here hx rfl (hD 30 rfl) rfl (l' := #[sR r, sR b, sR no, sI (-1), sI 0, sI 0, sI 2, sI 0, sI 0, sI 0, sI 0, sU, sU, sU, sU]) rfl ?_
    refine XS.iload X14.here hx rfl (hD 31 rfl) rfl ?_
    refine XS.aloadN X14.here hx rfl (hD 32 rfl) rfl rfl ?_
    exact k))
  obtain ⟨T16, X16, e16, st16⟩ := getR X14 hx hZ hown (hw _ (mi 104 rfl)) e14 (W0.fld (i := 1) rfl (j := 0) rfl rfl) (g := K15.g) rfl rfl (hD 33 rfl)
  have K17 : Rc K0 T16 (mkF m 78 #[sR r, sR b, sR no, sI (-1), sI 0, sI 0, sI 2, sI 0, sI 0, sI 0, sI 0, sI 0, sU, sU, sU] [(kR r)]) := fun t k => K15 t (st16 t (by
    refine XS.ifnonnullNo X16.here hx rfl (hD 34 rfl) rfl ?_
    refine XS.iconst X16.here hx rfl (hD 35 rfl) ?_
    refine XS.goto X16.here hx rfl (pc0 := 67) (pc' := 74) rfl (hD 36 rfl) (by decide) (by decide) ?_
    refine XS.iadd X16.here hx rfl (hD 37 rfl) rfl ?_
    refine XS.istore X16.here hx rfl (hD 38 rfl) rfl (l' := #[sR r, sR b, sR no, sI (-1), sI 0, sI 0, sI 2, sI 0, sI 0, sI 0, sI 0, sI 0, sU, sU, sU]) rfl ?_
    refine XS.aloadN X16.here hx rfl (hD 39 rfl) rfl rfl ?_
    exact k))
  obtain ⟨T18, X18, e18, st18⟩ := getF X16 hx hZ hown (host := "") (Or.inl (hw _ (mi 26 rfl))) Via.refl e16 (W0.fld (i := 0) rfl (j := 6) rfl rfl) (g := K17.g) rfl rfl (hD 40 rfl)
  have K19 : Rc K0 T18 (mkF m 87 #[sR r, sR b, sR no, sI (-1), sI 0, sI 0, sI 2, sI 0, sI 0, sI 0, sI 0, sI 0, sI 0, sU, sU] [(kR r)]) := fun t k => K17 t (st18 t (by
    refine XS.iload X18.here hx rfl (hD 41 rfl) rfl ?_
    refine ialW X18 hx hZ e18 W0 (i := 8) rfl (j := (0 : Int32)) (k := 0) (by decide) (by decide) (by decide) (v := (.int (0 : Int32))) h_frg (g := (mkF m 83 #[sR r, sR b, sR no, sI (-1), sI 0, sI 0, sI 2, sI 0, sI 0, sI 0, sI 0, sI 0, sU, sU, sU] [(kI 0), (kR frg)])) rfl rfl (hD 42 rfl) _ ?_
    refine XS.istore X18.here hx rfl (hD 43 rfl) rfl (l' := #[sR r, sR b, sR no, sI (-1), sI 0, sI 0, sI 2, sI 0, sI 0, sI 0, sI 0, sI 0, sI 0, sU, sU]) rfl ?_
    refine XS.aloadN X18.here hx rfl (hD 44 rfl) rfl rfl ?_
    exact k))
  obtain ⟨T20, X20, e20, st20⟩ := getF X18 hx hZ hown (host := "") (Or.inl (hw _ (mi 105 rfl))) Via.refl e18 (W0.fld (i := 0) rfl (j := 15) rfl rfl) (g := K19.g) rfl rfl (hD 45 rfl)
  have K21 : Rc K0 T20 (mkF m 94 #[sR r, sR b, sR no, sI (-1), sI 0, sI 0, sI 2, sI 0, sI 0, sI 0, sI 0, sI 0, sI 0, sU, sU] [(kR b)]) := fun t k => K19 t (st20 t (by
    refine XS.ifnonnullNo X20.here hx rfl (hD 46 rfl) rfl ?_
    refine XS.aloadN X20.here hx rfl (hD 47 rfl) rfl rfl ?_
    exact k))
  obtain ⟨T22, X22, e22, st22⟩ := getR X20 hx hZ hown (hw _ (mi 107 rfl)) e20 (W0.fld (i := 1) rfl (j := 3) rfl rfl) (g := K21.g) rfl rfl (hD 48 rfl)
  have K23 : Rc K0 T22 (mkF m 110 #[sR r, sR b, sR no, sI (-1), sI 0, sI 0, sI 2, sI 0, sI 0, sI 0, sI 0, sI 0, sI 0, sI 0, sU] [(kR r), (kI 0)]) := fun t k => K21 t (st22 t (by
    refine XS.ifYes X22.here hx rfl (pc0 := 97) (pc' := 104) rfl (hD 49 rfl) rfl ((if0 _ _).trans (feq (own_ne (a := u) (b := 0) (by omega) (by omega) (by omega))).2) (by decide) (by decide) ?_
    refine XS.iconst X22.here hx rfl (hD 52 rfl) ?_
    refine XS.istore X22.here hx rfl (hD 53 rfl) rfl (l' := #[sR r, sR b, sR no, sI (-1), sI 0, sI 0, sI 2, sI 0, sI 0, sI 0, sI 0, sI 0, sI 0, sI 0, sU]) rfl ?_
    refine XS.iload X22.here hx rfl (hD 54 rfl) rfl ?_
    refine XS.aloadN X22.here hx rfl (hD 55 rfl) rfl rfl ?_
    exact k))
  obtain ⟨T24, X24, e24, st24⟩ := getF X22 hx hZ hown (host := "") (Or.inl (hw _ (mi 18 rfl))) Via.refl e22 (W0.fld (i := 0) rfl (j := 2) rfl rfl) (g := K23.g) rfl rfl (hD 56 rfl)
  have K25 : Rc K0 T24 (mkF m 122 #[sR r, sR b, sR no, sI (-1), sI 0, sI 0, sI 2, sI 0, sI 0, sI 0, sI 0, sI 0, sI 0, sI 0, sU] [(kR r), (kI 1)]) := fun t k => K23 t (st24 t (by
    refine lenW X24 hx hZ e24 W0 (i := 4) rfl (fun _ q => q) (z := (16 : Int32)) (by decide) (g := (mkF m 113 #[sR r, sR b, sR no, sI (-1), sI 0, sI 0, sI 2, sI 0, sI 0, sI 0, sI 0, sI 0, sI 0, sI 0, sU] [(kR ns), (kI 0)])) rfl rfl (hD 57 rfl) _ ?_
    refine XS.icmpNo X24.here hx rfl (hD 58 rfl) rfl (by decide) ?_
    refine XS.iload X24.here hx rfl (hD 59 rfl) rfl ?_
    refine XS.iconst X24.here hx rfl (hD 60 rfl) ?_
    refine XS.iadd X24.here hx rfl (hD 61 rfl) rfl ?_
    refine XS.aloadN X24.here hx rfl (hD 62 rfl) rfl rfl ?_
    exact k))
  obtain ⟨T26, X26, e26, st26⟩ := getF X24 hx hZ hown (host := "") (Or.inl (hw _ (mi 20 rfl))) Via.refl e24 (W0.fld (i := 0) rfl (j := 3) rfl rfl) (g := K25.g) rfl rfl (hD 63 rfl)
  have K27 : Rc K0 T26 (mkF m 135 #[sR r, sR b, sR no, sI (-1), sI 0, sI 0, sI 2, sI 0, sI 0, sI 0, sI 0, sI 0, sI 0, sI 0, sU] [(kR r), (kI 2)]) := fun t k => K25 t (st26 t (by
    refine lenW X26 hx hZ e26 W0 (i := 5) rfl (fun _ q => q) (z := (17 : Int32)) (by decide) (g := (mkF m 125 #[sR r, sR b, sR no, sI (-1), sI 0, sI 0, sI 2, sI 0, sI 0, sI 0, sI 0, sI 0, sI 0, sI 0, sU] [(kR fch), (kI 1)])) rfl rfl (hD 64 rfl) _ ?_
    refine XS.icmpNo X26.here hx rfl (hD 65 rfl) rfl (by decide) ?_
    refine XS.iload X26.here hx rfl (hD 66 rfl) rfl ?_
    refine XS.iload X26.here hx rfl (hD 67 rfl) rfl ?_
    refine XS.iadd X26.here hx rfl (hD 68 rfl) rfl ?_
    refine XS.aloadN X26.here hx rfl (hD 69 rfl) rfl rfl ?_
    exact k))
  obtain ⟨T28, X28, e28, st28⟩ := getF X26 hx hZ hown (host := "") (Or.inl (hw _ (mi 28 rfl))) Via.refl e26 (W0.fld (i := 0) rfl (j := 7) rfl rfl) (g := K27.g) rfl rfl (hD 70 rfl)
  have K29 : Rc K0 T28 (mkF m 145 #[sR r, sR b, sR no, sI (-1), sI 0, sI 0, sI 2, sI 0, sI 0, sI 0, sI 0, sI 0, sI 0, sI 0, sU] [(kR b), (kI 0)]) := fun t k => K27 t (st28 t (by
    refine lenW X28 hx hZ e28 W0 (i := 9) rfl (fun _ q => q) (z := (17 : Int32)) (by decide) (g := (mkF m 138 #[sR r, sR b, sR no, sI (-1), sI 0, sI 0, sI 2, sI 0, sI 0, sI 0, sI 0, sI 0, sI 0, sI 0, sU] [(kR fac), (kI 2)])) rfl rfl (hD 71 rfl) _ ?_
    refine XS.icmpNo X28.here hx rfl (hD 72 rfl) rfl (by decide) ?_
    refine XS.iload X28.here hx rfl (hD 73 rfl) rfl ?_
    refine XS.aloadN X28.here hx rfl (hD 74 rfl) rfl rfl ?_
    exact k))
  obtain ⟨T30, X30, e30, st30⟩ := getR X28 hx hZ hown (hw _ (mi 108 rfl)) e28 (W0.fld (i := 1) rfl (j := 12) rfl rfl) (g := K29.g) rfl rfl (hD 75 rfl)
  have K31 : Rc K0 T30 (mkF m 150 #[sR r, sR b, sR no, sI (-1), sI 0, sI 0, sI 2, sI 0, sI 0, sI 0, sI 0, sI 0, sI 0, sI 0, sU] [(kR r), (kI 0)]) := fun t k => K29 t (st30 t (by
    refine XS.iadd X30.here hx rfl (hD 76 rfl) rfl ?_
    refine XS.aloadN X30.here hx rfl (hD 77 rfl) rfl rfl ?_
    exact k))
  obtain ⟨T32, X32, e32, st32⟩ := getF X30 hx hZ hown (host := "") (Or.inl (hw _ (mi 34 rfl))) Via.refl e30 (W0.fld (i := 0) rfl (j := 10) rfl rfl) (g := K31.g) rfl rfl (hD 78 rfl)
  have K33 : Rc K0 T32 (mkF m 160 #[sR r, sR b, sR no, sI (-1), sI 0, sI 0, sI 2, sI 0, sI 0, sI 0, sI 0, sI 0, sI 0, sI 0, sU] [(kR b), (kI 0)]) := fun t k => K31 t (st32 t (by
    refine lenW X32 hx hZ e32 W0 (i := 12) rfl (fun _ q => q) (z := (16 : Int32)) (by decide) (g := (mkF m 153 #[sR r, sR b, sR no, sI (-1), sI 0, sI 0, sI 2, sI 0, sI 0, sI 0, sI 0, sI 0, sI 0, sI 0, sU] [(kR acs), (kI 0)])) rfl rfl (hD 79 rfl) _ ?_
    refine XS.icmpNo X32.here hx rfl (hD 80 rfl) rfl (by decide) ?_
    refine XS.iload X32.here hx rfl (hD 81 rfl) rfl ?_
    refine XS.aloadN X32.here hx rfl (hD 82 rfl) rfl rfl ?_
    exact k))
  obtain ⟨T34, X34, e34, st34⟩ := getR X32 hx hZ hown (hw _ (mi 109 rfl)) e32 (W0.fld (i := 1) rfl (j := 13) rfl rfl) (g := K33.g) rfl rfl (hD 83 rfl)
  have K35 : Rc K0 T34 (mkF m 165 #[sR r, sR b, sR no, sI (-1), sI 0, sI 0, sI 2, sI 0, sI 0, sI 0, sI 0, sI 0, sI 0, sI 0, sU] [(kR r), (kI 0)]) := fun t k => K33 t (st34 t (by
    refine XS.iadd X34.here hx rfl (hD 84 rfl) rfl ?_
    refine XS.aloadN X34.here hx rfl (hD 85 rfl) rfl rfl ?_
    exact k))
  obtain ⟨T36, X36, e36, st36⟩ := getF X34 hx hZ hown (host := "") (Or.inl (hw _ (mi 36 rfl))) Via.refl e34 (W0.fld (i := 0) rfl (j := 11) rfl rfl) (g := K35.g) rfl rfl (hD 86 rfl)
  have K37 : Rc K0 T36 (mkF m 175 #[sR r, sR b, sR no, sI (-1), sI 0, sI 0, sI 2, sI 0, sI 0, sI 0, sI 0, sI 0, sI 0, sI 0, sU] [(kR b), (kI 0)]) := fun t k => K35 t (st36 t (by
    refine lenW X36 hx hZ e36 W0 (i := 13) rfl (fun _ q => q) (z := (16 : Int32)) (by decide) (g := (mkF m 168 #[sR r, sR b, sR no, sI (-1), sI 0, sI 0, sI 2, sI 0, sI 0, sI 0, sI 0, sI 0, sI 0, sI 0, sU] [(kR cms), (kI 0)])) rfl rfl (hD 87 rfl) _ ?_
    refine XS.icmpNo X36.here hx rfl (hD 88 rfl) rfl (by decide) ?_
    refine XS.iload X36.here hx rfl (hD 89 rfl) rfl ?_
    refine XS.aloadN X36.here hx rfl (hD 90 rfl) rfl rfl ?_
    exact k))
  obtain ⟨T38, X38, e38, st38⟩ := getR X36 hx hZ hown (hw _ (mi 110 rfl)) e36 (W0.fld (i := 1) rfl (j := 14) rfl rfl) (g := K37.g) rfl rfl (hD 91 rfl)
  have K39 : Rc K0 T38 (mkF m 180 #[sR r, sR b, sR no, sI (-1), sI 0, sI 0, sI 2, sI 0, sI 0, sI 0, sI 0, sI 0, sI 0, sI 0, sU] [(kR r), (kI (Int32.ofNat t2))]) := fun t k => K37 t (st38 t (by
    refine XS.iadd X38.here hx rfl (hD 92 rfl) rfl ?_
    show Steps p.tables e below (T38.setTop (mkF m 179 #[sR r, sR b, sR no, sI (-1), sI 0, sI 0, sI 2, sI 0, sI 0, sI 0, sI 0, sI 0, sI 0, sI 0, sU] [(kI ((0 : Int32) + (Int32.ofNat t2)))])) _
    rw [Int32.zero_add]
    show Steps p.tables e below (T38.setTop (mkF m 179 #[sR r, sR b, sR no, sI (-1), sI 0, sI 0, sI 2, sI 0, sI 0, sI 0, sI 0, sI 0, sI 0, sI 0, sU] [(kI (Int32.ofNat t2))])) _
    refine XS.aloadN X38.here hx rfl (hD 93 rfl) rfl rfl ?_
    exact k))
  obtain ⟨T40, X40, e40, st40⟩ := getF X38 hx hZ hown (host := "") (Or.inl (hw _ (mi 38 rfl))) Via.refl e38 (W0.fld (i := 0) rfl (j := 12) rfl rfl) (g := K39.g) rfl rfl (hD 94 rfl)
  have K41 : Rc K0 T40 (mkF m 210 #[sR r, sR b, sR no, sI (-1), sI 0, sI 0, sI 2, sI 0, sI 0, sI 0, sI 0, sI 0, sI 0, sI 0, sU] [(kR r), (kI 0)]) := fun t k => K39 t (st40 t (by
    refine lenW X40 hx hZ e40 W0 (i := 14) rfl (fun _ q => q) (z := (64 : Int32)) (by decide) (g := (mkF m 183 #[sR r, sR b, sR no, sI (-1), sI 0, sI 0, sI 2, sI 0, sI 0, sI 0, sI 0, sI 0, sI 0, sI 0, sU] [(kR sus), (kI (Int32.ofNat t2))])) rfl rfl (hD 95 rfl) _ ?_
    refine XS.icmpNo X40.here hx rfl (hD 96 rfl) rfl (flt (own_nlt (a := 64) (b := t2) (by omega) (by decide))).2.2.1 ?_
    refine XS.iload X40.here hx rfl (hD 97 rfl) rfl ?_
    refine XS.ifYes X40.here hx rfl (pc0 := 189) (pc' := 207) rfl (hD 98 rfl) rfl (by decide) (by decide) (by decide) ?_
    refine XS.iload X40.here hx rfl (hD 107 rfl) rfl ?_
    refine XS.aloadN X40.here hx rfl (hD 108 rfl) rfl rfl ?_
    exact k))
  obtain ⟨T42, X42, e42, st42⟩ := getF X40 hx hZ hown (host := "") (Or.inl (hw _ (mi 14 rfl))) Via.refl e40 (W0.fld (i := 0) rfl (j := 0) rfl rfl) (g := K41.g) rfl rfl (hD 109 rfl)
  have K43 : Rc K0 T42 (mkF m 223 #[sR r, sR b, sR no, sI (-1), sI 0, sI 0, sI 2, sI 0, sI 0, sI 0, sI 0, sI 0, sI 0, sI 0, sU] [(kR r), (kI 0)]) := fun t k => K41 t (st42 t (by
    refine lenW X42 hx hZ e42 W0 (i := 2) rfl (fun _ q => q) (z := (0 : Int32)) (by decide) (g := (mkF m 213 #[sR r, sR b, sR no, sI (-1), sI 0, sI 0, sI 2, sI 0, sI 0, sI 0, sI 0, sI 0, sI 0, sI 0, sU] [(kR ks), (kI 0)])) rfl rfl (hD 110 rfl) _ ?_
    refine XS.icmpNo X42.here hx rfl (hD 111 rfl) rfl (by decide) ?_
    refine XS.iload X42.here hx rfl (hD 112 rfl) rfl ?_
    refine XS.aloadN X42.here hx rfl (hD 113 rfl) rfl rfl ?_
    refine lenW X42 hx hZ e42 W0 (i := 23) rfl (fun _ q => q) (z := (0 : Int32)) (by decide) (g := (mkF m 220 #[sR r, sR b, sR no, sI (-1), sI 0, sI 0, sI 2, sI 0, sI 0, sI 0, sI 0, sI 0, sI 0, sI 0, sU] [(kR no), (kI 0)])) rfl rfl (hD 114 rfl) _ ?_
    refine XS.iadd X42.here hx rfl (hD 115 rfl) rfl ?_
    refine XS.aloadN X42.here hx rfl (hD 116 rfl) rfl rfl ?_
    exact k))
  obtain ⟨T44, X44, e44, st44⟩ := getF X42 hx hZ hown (host := "") (Or.inl (hw _ (mi 16 rfl))) Via.refl e42 (W0.fld (i := 0) rfl (j := 1) rfl rfl) (g := K43.g) rfl rfl (hD 117 rfl)
  have K45 : Rc K0 T44 (mkF m 255 #[sR r, sR b, sR no, sI (-1), sI 0, sI 0, sI 2, sI 0, sI 0, sI 0, sI 0, sI 0, sI 0, sI 0, sI 0] [(kR r)]) := fun t k => K43 t (st44 t (by
    refine lenW X44 hx hZ e44 W0 (i := 3) rfl (fun _ q => q) (z := (0 : Int32)) (by decide) (g := (mkF m 226 #[sR r, sR b, sR no, sI (-1), sI 0, sI 0, sI 2, sI 0, sI 0, sI 0, sI 0, sI 0, sI 0, sI 0, sU] [(kR rgs), (kI 0)])) rfl rfl (hD 118 rfl) _ ?_
    refine XS.icmpYes X44.here hx rfl (pc0 := 227) (pc' := 244) rfl (hD 119 rfl) rfl (by decide) (by decide) (by decide) ?_
    refine XS.iconst X44.here hx rfl (hD 120 rfl) ?_
    refine XS.istore X44.here hx rfl (hD 121 rfl) rfl (l' := #[sR r, sR b, sR no, sI (-1), sI 0, sI 0, sI 2, sI 0, sI 0, sI 0, sI 0, sI 0, sI 0, sI 0, sI 0]) rfl ?_
    refine XS.iload X44.here hx rfl (hD 122 rfl) rfl ?_
    refine XS.iload X44.here hx rfl (hD 123 rfl) rfl ?_
    refine XS.icmpNo X44.here hx rfl (hD 124 rfl) rfl (by decide) ?_
    refine XS.aloadN X44.here hx rfl (hD 125 rfl) rfl rfl ?_
    exact k))
  obtain ⟨T46, X46, e46, st46⟩ := getF X44 hx hZ hown (host := "") (Or.inl (hw _ (mi 28 rfl))) Via.refl e44 (W0.fld (i := 0) rfl (j := 7) rfl rfl) (g := K45.g) rfl rfl (hD 126 rfl)
  have K47 : Rc K0 T46 (mkF m 266 #[sR r, sR b, sR no, sI (-1), sI 0, sI 0, sI 2, sI 0, sI 0, sI 0, sI 0, sI 0, sI 0, sI 0, sI 0] [(kR b), (kI 0), (kI 0), (kR fac)]) := fun t k => K45 t (st46 t (by
    refine XS.iload X46.here hx rfl (hD 127 rfl) rfl ?_
    refine XS.iload X46.here hx rfl (hD 128 rfl) rfl ?_
    refine XS.iadd X46.here hx rfl (hD 129 rfl) rfl ?_
    refine XS.iload X46.here hx rfl (hD 130 rfl) rfl ?_
    refine XS.aloadN X46.here hx rfl (hD 131 rfl) rfl rfl ?_
    exact k))
  obtain ⟨T48, X48, e48, st48⟩ := getR X46 hx hZ hown (hw _ (mi 111 rfl)) e46 (W0.fld (i := 1) rfl (j := 4) rfl rfl) (g := K47.g) rfl rfl (hD 132 rfl)
  have K49 : Rc K0 T48 (mkF m 273 #[sR r, sR b, sR no, sI (-1), sI 0, sI 0, sI 2, sI 0, sI 0, sI 0, sI 0, sI 0, sI 0, sI 0, sI 0] [(kI 0), (kI 0), (kR fac)]) := fun t k => K47 t (st48 t (by
    refine XS.iload X48.here hx rfl (hD 133 rfl) rfl ?_
    refine ialW X48 hx hZ e48 W0 (i := 16) rfl (j := (0 : Int32)) (k := 0) (by decide) (by decide) (by decide) (v := (.int (0 : Int32))) h_f10 (g := (mkF m 271 #[sR r, sR b, sR no, sI (-1), sI 0, sI 0, sI 2, sI 0, sI 0, sI 0, sI 0, sI 0, sI 0, sI 0, sI 0] [(kI 0), (kR fa), (kI 0), (kI 0), (kR fac)])) rfl rfl (hD 134 rfl) _ ?_
    refine XS.iadd X48.here hx rfl (hD 135 rfl) rfl ?_
    exact k))
  obtain ⟨T50, h50, L50, X50, e50, N50, W50q, st50⟩ := iasW X48 hx hZ e48 W0 N0 (i := 9) (a := fac) rfl (j := (0 : Int32)) (x := (0 : Int32)) (k := 0) (by decide) (by decide) (by decide) (g := K49.g) rfl rfl (hD 136 rfl)
  have K51 : Rc K0 T50 (mkF m 275 #[sR r, sR b, sR no, sI (-1), sI 0, sI 0, sI 2, sI 0, sI 0, sI 0, sI 0, sI 0, sI 0, sI 0, sI 0] [(kR r)]) := fun t k => K49 t (st50 t (XS.aloadN X50.here hx rfl (hD 137 rfl) rfl rfl k))
  obtain ⟨T52, X52, e52, st52⟩ := getF X50 hx hZ hown (host := "") (Or.inl (hw _ (mi 30 rfl))) Via.refl e50 (W50q.fld (i := 0) rfl (j := 8) rfl rfl) (g := K51.g) rfl rfl (hD 138 rfl)
  have K53 : Rc K0 T52 (mkF m 286 #[sR r, sR b, sR no, sI (-1), sI 0, sI 0, sI 2, sI 0, sI 0, sI 0, sI 0, sI 0, sI 0, sI 0, sI 0] [(kR b), (kI 0), (kI 0), (kR fcm)]) := fun t k => K51 t (st52 t (by
    refine XS.iload X52.here hx rfl (hD 139 rfl) rfl ?_
    refine XS.iload X52.here hx rfl (hD 140 rfl) rfl ?_
    refine XS.iadd X52.here hx rfl (hD 141 rfl) rfl ?_
    refine XS.iload X52.here hx rfl (hD 142 rfl) rfl ?_
    refine XS.aloadN X52.here hx rfl (hD 143 rfl) rfl rfl ?_
    exact k))
  obtain ⟨T54, X54, e54, st54⟩ := getR X52 hx hZ hown (hw _ (mi 112 rfl)) e52 (W50q.fld (i := 1) rfl (j := 6) rfl rfl) (g := K53.g) rfl rfl (hD 144 rfl)
  have K55 : Rc K0 T54 (mkF m 293 #[sR r, sR b, sR no, sI (-1), sI 0, sI 0, sI 2, sI 0, sI 0, sI 0, sI 0, sI 0, sI 0, sI 0, sI 0] [(kI 0), (kI 0), (kR fcm)]) := fun t k => K53 t (st54 t (by
    refine XS.iload X54.here hx rfl (hD 145 rfl) rfl ?_
    refine ialW X54 hx hZ e54 W50q (i := 17) rfl (j := (0 : Int32)) (k := 0) (by decide) (by decide) (by decide) (v := (.int (0 : Int32))) h_f20 (g := (mkF m 291 #[sR r, sR b, sR no, sI (-1), sI 0, sI 0, sI 2, sI 0, sI 0, sI 0, sI 0, sI 0, sI 0, sI 0, sI 0] [(kI 0), (kR fc), (kI 0), (kI 0), (kR fcm)])) rfl rfl (hD 146 rfl) _ ?_
    refine XS.iadd X54.here hx rfl (hD 147 rfl) rfl ?_
    exact k))
  obtain ⟨T56, h56, L56, X56, e56, N56, W56q, st56⟩ := iasW X54 hx hZ e54 W50q N50 (i := 10) (a := fcm) rfl (j := (0 : Int32)) (x := (0 : Int32)) (k := 0) (by decide) (by decide) (by decide) (g := K55.g) rfl rfl (hD 148 rfl)
  have K57 : Rc K0 T56 (mkF m 295 #[sR r, sR b, sR no, sI (-1), sI 0, sI 0, sI 2, sI 0, sI 0, sI 0, sI 0, sI 0, sI 0, sI 0, sI 0] [(kR r)]) := fun t k => K55 t (st56 t (XS.aloadN X56.here hx rfl (hD 149 rfl) rfl rfl k))
  obtain ⟨T58, X58, e58, st58⟩ := getF X56 hx hZ hown (host := "") (Or.inl (hw _ (mi 32 rfl))) Via.refl e56 (W56q.fld (i := 0) rfl (j := 9) rfl rfl) (g := K57.g) rfl rfl (hD 150 rfl)
  have K59 : Rc K0 T58 (mkF m 306 #[sR r, sR b, sR no, sI (-1), sI 0, sI 0, sI 2, sI 0, sI 0, sI 0, sI 0, sI 0, sI 0, sI 0, sI 0] [(kR b), (kI 0), (kI 0), (kR ftr)]) := fun t k => K57 t (st58 t (by
    refine XS.iload X58.here hx rfl (hD 151 rfl) rfl ?_
    refine XS.iload X58.here hx rfl (hD 152 rfl) rfl ?_
    refine XS.iadd X58.here hx rfl (hD 153 rfl) rfl ?_
    refine XS.iload X58.here hx rfl (hD 154 rfl) rfl ?_
    refine XS.aloadN X58.here hx rfl (hD 155 rfl) rfl rfl ?_
    exact k))
  obtain ⟨T60, X60, e60, st60⟩ := getR X58 hx hZ hown (hw _ (mi 113 rfl)) e58 (W56q.fld (i := 1) rfl (j := 8) rfl rfl) (g := K59.g) rfl rfl (hD 156 rfl)
  have K61 : Rc K0 T60 (mkF m 313 #[sR r, sR b, sR no, sI (-1), sI 0, sI 0, sI 2, sI 0, sI 0, sI 0, sI 0, sI 0, sI 0, sI 0, sI 0] [(kI 0), (kI 0), (kR ftr)]) := fun t k => K59 t (st60 t (by
    refine XS.iload X60.here hx rfl (hD 157 rfl) rfl ?_
    refine ialW X60 hx hZ e60 W56q (i := 18) rfl (j := (0 : Int32)) (k := 0) (by decide) (by decide) (by decide) (v := (.int (0 : Int32))) h_f30 (g := (mkF m 311 #[sR r, sR b, sR no, sI (-1), sI 0, sI 0, sI 2, sI 0, sI 0, sI 0, sI 0, sI 0, sI 0, sI 0, sI 0] [(kI 0), (kR ft), (kI 0), (kI 0), (kR ftr)])) rfl rfl (hD 158 rfl) _ ?_
    refine XS.iadd X60.here hx rfl (hD 159 rfl) rfl ?_
    exact k))
  obtain ⟨T62, h62, L62, X62, e62, N62, W62q, st62⟩ := iasW X60 hx hZ e60 W56q N56 (i := 11) (a := ftr) rfl (j := (0 : Int32)) (x := (0 : Int32)) (k := 0) (by decide) (by decide) (by decide) (g := K61.g) rfl rfl (hD 160 rfl)
  have K63 : Rc K0 T62 (mkF m 255 #[sR r, sR b, sR no, sI (-1), sI 0, sI 0, sI 2, sI 0, sI 0, sI 0, sI 0, sI 0, sI 0, sI 0, sI 1] [(kR r)]) := fun t k => K61 t (st62 t (by
    refine XS.iinc X62.here hx rfl (hD 161 rfl) rfl (l' := #[sR r, sR b, sR no, sI (-1), sI 0, sI 0, sI 2, sI 0, sI 0, sI 0, sI 0, sI 0, sI 0, sI 0, sI 1]) rfl ?_
    refine XS.goto X62.here hx rfl (pc0 := 317) (pc' := 247) rfl (hD 162 rfl) (by decide) (by decide) ?_
    refine XS.iload X62.here hx rfl (hD 122 rfl) rfl ?_
    refine XS.iload X62.here hx rfl (hD 123 rfl) rfl ?_
    refine XS.icmpNo X62.here hx rfl (hD 124 rfl) rfl (by decide) ?_
    refine XS.aloadN X62.here hx rfl (hD 125 rfl) rfl rfl ?_
    exact k))
  obtain ⟨T64, X64, e64, st64⟩ := getF X62 hx hZ hown (host := "") (Or.inl (hw _ (mi 28 rfl))) Via.refl e62 (W62q.fld (i := 0) rfl (j := 7) rfl rfl) (g := K63.g) rfl rfl (hD 126 rfl)
  have K65 : Rc K0 T64 (mkF m 266 #[sR r, sR b, sR no, sI (-1), sI 0, sI 0, sI 2, sI 0, sI 0, sI 0, sI 0, sI 0, sI 0, sI 0, sI 1] [(kR b), (kI 0), (kI 1), (kR fac)]) := fun t k => K63 t (st64 t (by
    refine XS.iload X64.here hx rfl (hD 127 rfl) rfl ?_
    refine XS.iload X64.here hx rfl (hD 128 rfl) rfl ?_
    refine XS.iadd X64.here hx rfl (hD 129 rfl) rfl ?_
    refine XS.iload X64.here hx rfl (hD 130 rfl) rfl ?_
    refine XS.aloadN X64.here hx rfl (hD 131 rfl) rfl rfl ?_
    exact k))
  obtain ⟨T66, X66, e66, st66⟩ := getR X64 hx hZ hown (hw _ (mi 111 rfl)) e64 (W62q.fld (i := 1) rfl (j := 4) rfl rfl) (g := K65.g) rfl rfl (hD 132 rfl)
  have K67 : Rc K0 T66 (mkF m 273 #[sR r, sR b, sR no, sI (-1), sI 0, sI 0, sI 2, sI 0, sI 0, sI 0, sI 0, sI 0, sI 0, sI 0, sI 1] [(kI 0), (kI 1), (kR fac)]) := fun t k => K65 t (st66 t (by
    refine XS.iload X66.here hx rfl (hD 133 rfl) rfl ?_
    refine ialW X66 hx hZ e66 W62q (i := 16) rfl (j := (1 : Int32)) (k := 1) (by decide) (by decide) (by decide) (v := (.int (0 : Int32))) h_f11 (g := (mkF m 271 #[sR r, sR b, sR no, sI (-1), sI 0, sI 0, sI 2, sI 0, sI 0, sI 0, sI 0, sI 0, sI 0, sI 0, sI 1] [(kI 1), (kR fa), (kI 0), (kI 1), (kR fac)])) rfl rfl (hD 134 rfl) _ ?_
    refine XS.iadd X66.here hx rfl (hD 135 rfl) rfl ?_
    exact k))
  obtain ⟨T68, h68, L68, X68, e68, N68, W68q, st68⟩ := iasW X66 hx hZ e66 W62q N62 (i := 9) (a := fac) rfl (j := (1 : Int32)) (x := (0 : Int32)) (k := 1) (by decide) (by decide) (by decide) (g := K67.g) rfl rfl (hD 136 rfl)
  have W68 : Wo n0 h68 ((r, oR Z [(kR ks), (kR rgs), (kR ns), (kR fch), (kR fk), (kR kl), (kR frg), (kR fac), (kR fcm), (kR ftr), (kR acs), (kR cms), (kR sus), (kR prb), (kI 0), .null, (kI 0), .null, .null, .null, .null, .null, .null, (kI 0), (kI 0)]) :: (b, oB Z [.null, (kI 0), (kR vv), (kI (Int32.ofNat u)), (kR fa), (kR ac), (kR fc), (kR cm), (kR ft), (kR su), (kR pr), (kI 2), (kI 0), (kI 0), (kI (Int32.ofNat t2)), .null]) :: (ks, Ar Z .int 0 g_ks) :: (rgs, Ar Z .int 0 g_rgs) :: (ns, Ar Z .int 16 g_ns) :: (fch, Ar Z .int 17 g_fch) :: (fk, Ar Z .int 17 g_fk) :: (kl, Ar Z .int 16 g_kl) :: (frg, Ar Z .int 17 g_frg) :: (fac, Ar Z .int 17 (upd (upd g_fac 0 (kI 0)) 1 (kI 0))) :: (fcm, Ar Z .int 17 (upd g_fcm 0 (kI 0))) :: (ftr, Ar Z .int 17 (upd g_ftr 0 (kI 0))) :: (acs, Ar Z .int 16 g_acs) :: (cms, Ar Z .int 16 g_cms) :: (sus, Ar Z .int 64 g_sus) :: (prb, Ar Z .double 64 g_prb) :: (fa, Ar Z .int 2 f1) :: (fc, Ar Z .int 2 f2) :: (ft, Ar Z .int 2 f3) :: (ac, Ar Z .int 2 f4) :: (cm, Ar Z .int 2 f5) :: (su, Ar Z .int 4 f6) :: (pr, Ar Z .double 4 f7) :: (no, Ar Z .int 0 f8) :: (vv, Ar Z .double 3 g_vv) :: Rr) := W68q
  have K69 : Rc K0 T68 (mkF m 275 #[sR r, sR b, sR no, sI (-1), sI 0, sI 0, sI 2, sI 0, sI 0, sI 0, sI 0, sI 0, sI 0, sI 0, sI 1] [(kR r)]) := fun t k => K67 t (st68 t (XS.aloadN X68.here hx rfl (hD 137 rfl) rfl rfl k))
  obtain ⟨T70, X70, e70, st70⟩ := getF X68 hx hZ hown (host := "") (Or.inl (hw _ (mi 30 rfl))) Via.refl e68 (W68.fld (i := 0) rfl (j := 8) rfl rfl) (g := K69.g) rfl rfl (hD 138 rfl)
  have K71 : Rc K0 T70 (mkF m 286 #[sR r, sR b, sR no, sI (-1), sI 0, sI 0, sI 2, sI 0, sI 0, sI 0, sI 0, sI 0, sI 0, sI 0, sI 1] [(kR b), (kI 0), (kI 1), (kR fcm)]) := fun t k => K69 t (st70 t (by
    refine XS.iload X70.here hx rfl (hD 139 rfl) rfl ?_
    refine XS.iload X70.here hx rfl (hD 140 rfl) rfl ?_
    refine XS.iadd X70.here hx rfl (hD 141 rfl) rfl ?_
    refine XS.iload X70.here hx rfl (hD 142 rfl) rfl ?_
    refine XS.aloadN X70.here hx rfl (hD 143 rfl) rfl rfl ?_
    exact k))
  obtain ⟨T72, X72, e72, st72⟩ := getR X70 hx hZ hown (hw _ (mi 112 rfl)) e70 (W68.fld (i := 1) rfl (j := 6) rfl rfl) (g := K71.g) rfl rfl (hD 144 rfl)
  have K73 : Rc K0 T72 (mkF m 293 #[sR r, sR b, sR no, sI (-1), sI 0, sI 0, sI 2, sI 0, sI 0, sI 0, sI 0, sI 0, sI 0, sI 0, sI 1] [(kI 0), (kI 1), (kR fcm)]) := fun t k => K71 t (st72 t (by
    refine XS.iload X72.here hx rfl (hD 145 rfl) rfl ?_
    refine ialW X72 hx hZ e72 W68 (i := 17) rfl (j := (1 : Int32)) (k := 1) (by decide) (by decide) (by decide) (v := (.int (0 : Int32))) h_f21 (g := (mkF m 291 #[sR r, sR b, sR no, sI (-1), sI 0, sI 0, sI 2, sI 0, sI 0, sI 0, sI 0, sI 0, sI 0, sI 0, sI 1] [(kI 1), (kR fc), (kI 0), (kI 1), (kR fcm)])) rfl rfl (hD 146 rfl) _ ?_
    refine XS.iadd X72.here hx rfl (hD 147 rfl) rfl ?_
    exact k))
  obtain ⟨T74, h74, L74, X74, e74, N74, W74q, st74⟩ := iasW X72 hx hZ e72 W68 N68 (i := 10) (a := fcm) rfl (j := (1 : Int32)) (x := (0 : Int32)) (k := 1) (by decide) (by decide) (by decide) (g := K73.g) rfl rfl (hD 148 rfl)
  have K75 : Rc K0 T74 (mkF m 295 #[sR r, sR b, sR no, sI (-1), sI 0, sI 0, sI 2, sI 0, sI 0, sI 0, sI 0, sI 0, sI 0, sI 0, sI 1] [(kR r)]) := fun t k => K73 t (st74 t (XS.aloadN X74.here hx rfl (hD 149 rfl) rfl rfl k))
  obtain ⟨T76, X76, e76, st76⟩ := getF X74 hx hZ hown (host := "") (Or.inl (hw _ (mi 32 rfl))) Via.refl e74 (W74q.fld (i := 0) rfl (j := 9) rfl rfl) (g := K75.g) rfl rfl (hD 150 rfl)
  have K77 : Rc K0 T76 (mkF m 306 #[sR r, sR b, sR no, sI (-1), sI 0, sI 0, sI 2, sI 0, sI 0, sI 0, sI 0, sI 0, sI 0, sI 0, sI 1] [(kR b), (kI 0), (kI 1), (kR ftr)]) := fun t k => K75 t (st76 t (by
    refine XS.iload X76.here hx rfl (hD 151 rfl) rfl ?_
    refine XS.iload X76.here hx rfl (hD 152 rfl) rfl ?_
    refine XS.iadd X76.here hx rfl (hD 153 rfl) rfl ?_
    refine XS.iload X76.here hx rfl (hD 154 rfl) rfl ?_
    refine XS.aloadN X76.here hx rfl (hD 155 rfl) rfl rfl ?_
    exact k))
  obtain ⟨T78, X78, e78, st78⟩ := getR X76 hx hZ hown (hw _ (mi 113 rfl)) e76 (W74q.fld (i := 1) rfl (j := 8) rfl rfl) (g := K77.g) rfl rfl (hD 156 rfl)
  have K79 : Rc K0 T78 (mkF m 313 #[sR r, sR b, sR no, sI (-1), sI 0, sI 0, sI 2, sI 0, sI 0, sI 0, sI 0, sI 0, sI 0, sI 0, sI 1] [(kI (Int32.ofNat t1)), (kI 1), (kR ftr)]) := fun t k => K77 t (st78 t (by
    refine XS.iload X78.here hx rfl (hD 157 rfl) rfl ?_
    refine ialW X78 hx hZ e78 W74q (i := 18) rfl (j := (1 : Int32)) (k := 1) (by decide) (by decide) (by decide) (v := (.int (Int32.ofNat t1))) h_f31 (g := (mkF m 311 #[sR r, sR b, sR no, sI (-1), sI 0, sI 0, sI 2, sI 0, sI 0, sI 0, sI 0, sI 0, sI 0, sI 0, sI 1] [(kI 1), (kR ft), (kI 0), (kI 1), (kR ftr)])) rfl rfl (hD 158 rfl) _ ?_
    refine XS.iadd X78.here hx rfl (hD 159 rfl) rfl ?_
    show Steps p.tables e below (T78.setTop (mkF m 313 #[sR r, sR b, sR no, sI (-1), sI 0, sI 0, sI 2, sI 0, sI 0, sI 0, sI 0, sI 0, sI 0, sI 0, sI 1] [(kI ((0 : Int32) + (Int32.ofNat t1))), (kI 1), (kR ftr)])) _
    rw [Int32.zero_add]
    exact k))
  obtain ⟨T80, h80, L80, X80, e80, N80, W80q, st80⟩ := iasW X78 hx hZ e78 W74q N74 (i := 11) (a := ftr) rfl (j := (1 : Int32)) (x := (Int32.ofNat t1)) (k := 1) (by decide) (by decide) (by decide) (g := K79.g) rfl rfl (hD 160 rfl)
  have K81 : Rc K0 T80 (mkF m 321 #[sR r, sR b, sR no, sI (-1), sI 0, sI 0, sI 2, sI 0, sI 0, sI 0, sI 0, sI 0, sI 0, sI 0, sI 2] [(kR r)]) := fun t k => K79 t (st80 t (by
    refine XS.iinc X80.here hx rfl (hD 161 rfl) rfl (l' := #[sR r, sR b, sR no, sI (-1), sI 0, sI 0, sI 2, sI 0, sI 0, sI 0, sI 0, sI 0, sI 0, sI 0, sI 2]) rfl ?_
    refine XS.goto X80.here hx rfl (pc0 := 317) (pc' := 247) rfl (hD 162 rfl) (by decide) (by decide) ?_
    refine XS.iload X80.here hx rfl (hD 122 rfl) rfl ?_
    refine XS.iload X80.here hx rfl (hD 123 rfl) rfl ?_
    refine XS.icmpYes X80.here hx rfl (pc0 := 251) (pc' := 320) rfl (hD 124 rfl) rfl (by decide) (by decide) (by decide) ?_
    refine XS.aloadN X80.here hx rfl (hD 163 rfl) rfl rfl ?_
    exact k))
  obtain ⟨T82, X82, e82, st82⟩ := getF X80 hx hZ hown (host := "") (Or.inl (hw _ (mi 28 rfl))) Via.refl e80 (W80q.fld (i := 0) rfl (j := 7) rfl rfl) (g := K81.g) rfl rfl (hD 164 rfl)
  have K83 : Rc K0 T82 (mkF m 332 #[sR r, sR b, sR no, sI (-1), sI 0, sI 0, sI 2, sI 0, sI 0, sI 0, sI 0, sI 0, sI 0, sI 0, sI 2] [(kR b), (kI 0), (kI 2), (kR fac)]) := fun t k => K81 t (st82 t (by
    refine XS.iload X82.here hx rfl (hD 165 rfl) rfl ?_
    refine XS.iload X82.here hx rfl (hD 166 rfl) rfl ?_
    refine XS.iadd X82.here hx rfl (hD 167 rfl) rfl ?_
    refine XS.iload X82.here hx rfl (hD 168 rfl) rfl ?_
    refine XS.aloadN X82.here hx rfl (hD 169 rfl) rfl rfl ?_
    exact k))
  obtain ⟨T84, X84, e84, st84⟩ := getR X82 hx hZ hown (hw _ (mi 108 rfl)) e82 (W80q.fld (i := 1) rfl (j := 12) rfl rfl) (g := K83.g) rfl rfl (hD 170 rfl)
  have K85 : Rc K0 T84 (mkF m 336 #[sR r, sR b, sR no, sI (-1), sI 0, sI 0, sI 2, sI 0, sI 0, sI 0, sI 0, sI 0, sI 0, sI 0, sI 2] [(kI 0), (kI 2), (kR fac)]) := fun t k => K83 t (st84 t (XS.iadd X84.here hx rfl (hD 171 rfl) rfl k))
  obtain ⟨T86, h86, L86, X86, e86, N86, W86q, st86⟩ := iasW X84 hx hZ e84 W80q N80 (i := 9) (a := fac) rfl (j := (2 : Int32)) (x := (0 : Int32)) (k := 2) (by decide) (by decide) (by decide) (g := K85.g) rfl rfl (hD 172 rfl)
  have K87 : Rc K0 T86 (mkF m 338 #[sR r, sR b, sR no, sI (-1), sI 0, sI 0, sI 2, sI 0, sI 0, sI 0, sI 0, sI 0, sI 0, sI 0, sI 2] [(kR r)]) := fun t k => K85 t (st86 t (XS.aloadN X86.here hx rfl (hD 173 rfl) rfl rfl k))
  obtain ⟨T88, X88, e88, st88⟩ := getF X86 hx hZ hown (host := "") (Or.inl (hw _ (mi 30 rfl))) Via.refl e86 (W86q.fld (i := 0) rfl (j := 8) rfl rfl) (g := K87.g) rfl rfl (hD 174 rfl)
  have K89 : Rc K0 T88 (mkF m 349 #[sR r, sR b, sR no, sI (-1), sI 0, sI 0, sI 2, sI 0, sI 0, sI 0, sI 0, sI 0, sI 0, sI 0, sI 2] [(kR b), (kI 0), (kI 2), (kR fcm)]) := fun t k => K87 t (st88 t (by
    refine XS.iload X88.here hx rfl (hD 175 rfl) rfl ?_
    refine XS.iload X88.here hx rfl (hD 176 rfl) rfl ?_
    refine XS.iadd X88.here hx rfl (hD 177 rfl) rfl ?_
    refine XS.iload X88.here hx rfl (hD 178 rfl) rfl ?_
    refine XS.aloadN X88.here hx rfl (hD 179 rfl) rfl rfl ?_
    exact k))
  obtain ⟨T90, X90, e90, st90⟩ := getR X88 hx hZ hown (hw _ (mi 109 rfl)) e88 (W86q.fld (i := 1) rfl (j := 13) rfl rfl) (g := K89.g) rfl rfl (hD 180 rfl)
  have K91 : Rc K0 T90 (mkF m 353 #[sR r, sR b, sR no, sI (-1), sI 0, sI 0, sI 2, sI 0, sI 0, sI 0, sI 0, sI 0, sI 0, sI 0, sI 2] [(kI 0), (kI 2), (kR fcm)]) := fun t k => K89 t (st90 t (XS.iadd X90.here hx rfl (hD 181 rfl) rfl k))
  obtain ⟨T92, h92, L92, X92, e92, N92, W92q, st92⟩ := iasW X90 hx hZ e90 W86q N86 (i := 10) (a := fcm) rfl (j := (2 : Int32)) (x := (0 : Int32)) (k := 2) (by decide) (by decide) (by decide) (g := K91.g) rfl rfl (hD 182 rfl)
  have W92 : Wo n0 h92 ((r, oR Z [(kR ks), (kR rgs), (kR ns), (kR fch), (kR fk), (kR kl), (kR frg), (kR fac), (kR fcm), (kR ftr), (kR acs), (kR cms), (kR sus), (kR prb), (kI 0), .null, (kI 0), .null, .null, .null, .null, .null, .null, (kI 0), (kI 0)]) :: (b, oB Z [.null, (kI 0), (kR vv), (kI (Int32.ofNat u)), (kR fa), (kR ac), (kR fc), (kR cm), (kR ft), (kR su), (kR pr), (kI 2), (kI 0), (kI 0), (kI (Int32.ofNat t2)), .null]) :: (ks, Ar Z .int 0 g_ks) :: (rgs, Ar Z .int 0 g_rgs) :: (ns, Ar Z .int 16 g_ns) :: (fch, Ar Z .int 17 g_fch) :: (fk, Ar Z .int 17 g_fk) :: (kl, Ar Z .int 16 g_kl) :: (frg, Ar Z .int 17 g_frg) :: (fac, Ar Z .int 17 (upd (upd (upd g_fac 0 (kI 0)) 1 (kI 0)) 2 (kI 0))) :: (fcm, Ar Z .int 17 (upd (upd (upd g_fcm 0 (kI 0)) 1 (kI 0)) 2 (kI 0))) :: (ftr, Ar Z .int 17 (upd (upd g_ftr 0 (kI 0)) 1 (kI (Int32.ofNat t1)))) :: (acs, Ar Z .int 16 g_acs) :: (cms, Ar Z .int 16 g_cms) :: (sus, Ar Z .int 64 g_sus) :: (prb, Ar Z .double 64 g_prb) :: (fa, Ar Z .int 2 f1) :: (fc, Ar Z .int 2 f2) :: (ft, Ar Z .int 2 f3) :: (ac, Ar Z .int 2 f4) :: (cm, Ar Z .int 2 f5) :: (su, Ar Z .int 4 f6) :: (pr, Ar Z .double 4 f7) :: (no, Ar Z .int 0 f8) :: (vv, Ar Z .double 3 g_vv) :: Rr) := W92q
  have K93 : Rc K0 T92 (mkF m 355 #[sR r, sR b, sR no, sI (-1), sI 0, sI 0, sI 2, sI 0, sI 0, sI 0, sI 0, sI 0, sI 0, sI 0, sI 2] [(kR r)]) := fun t k => K91 t (st92 t (XS.aloadN X92.here hx rfl (hD 183 rfl) rfl rfl k))
  obtain ⟨T94, X94, e94, st94⟩ := getF X92 hx hZ hown (host := "") (Or.inl (hw _ (mi 32 rfl))) Via.refl e92 (W92.fld (i := 0) rfl (j := 9) rfl rfl) (g := K93.g) rfl rfl (hD 184 rfl)
  have K95 : Rc K0 T94 (mkF m 366 #[sR r, sR b, sR no, sI (-1), sI 0, sI 0, sI 2, sI 0, sI 0, sI 0, sI 0, sI 0, sI 0, sI 0, sI 2] [(kR b), (kI 0), (kI 2), (kR ftr)]) := fun t k => K93 t (st94 t (by
    refine XS.iload X94.here hx rfl (hD 185 rfl) rfl ?_
    refine XS.iload X94.here hx rfl (hD 186 rfl) rfl ?_
    refine XS.iadd X94.here hx rfl (hD 187 rfl) rfl ?_
    refine XS.iload X94.here hx rfl (hD 188 rfl) rfl ?_
    refine XS.aloadN X94.here hx rfl (hD 189 rfl) rfl rfl ?_
    exact k))
  obtain ⟨T96, X96, e96, st96⟩ := getR X94 hx hZ hown (hw _ (mi 110 rfl)) e94 (W92.fld (i := 1) rfl (j := 14) rfl rfl) (g := K95.g) rfl rfl (hD 190 rfl)
  have K97 : Rc K0 T96 (mkF m 370 #[sR r, sR b, sR no, sI (-1), sI 0, sI 0, sI 2, sI 0, sI 0, sI 0, sI 0, sI 0, sI 0, sI 0, sI 2] [(kI (Int32.ofNat t2)), (kI 2), (kR ftr)]) := fun t k => K95 t (st96 t (by
    refine XS.iadd X96.here hx rfl (hD 191 rfl) rfl ?_
    show Steps p.tables e below (T96.setTop (mkF m 370 #[sR r, sR b, sR no, sI (-1), sI 0, sI 0, sI 2, sI 0, sI 0, sI 0, sI 0, sI 0, sI 0, sI 0, sI 2] [(kI ((0 : Int32) + (Int32.ofNat t2))), (kI 2), (kR ftr)])) _
    rw [Int32.zero_add]
    exact k))
  obtain ⟨T98, h98, L98, X98, e98, N98, W98q, st98⟩ := iasW X96 hx hZ e96 W92 N92 (i := 11) (a := ftr) rfl (j := (2 : Int32)) (x := (Int32.ofNat t2)) (k := 2) (by decide) (by decide) (by decide) (g := K97.g) rfl rfl (hD 192 rfl)
  have K99 : Rc K0 T98 (mkF m 372 #[sR r, sR b, sR no, sI (-1), sI 0, sI 0, sI 2, sI 0, sI 0, sI 0, sI 0, sI 0, sI 0, sI 0, sI 2] [(kR b)]) := fun t k => K97 t (st98 t (XS.aloadN X98.here hx rfl (hD 193 rfl) rfl rfl k))
  obtain ⟨T100, X100, e100, st100⟩ := getR X98 hx hZ hown (hw _ (mi 114 rfl)) e98 (W98q.fld (i := 1) rfl (j := 5) rfl rfl) (g := K99.g) rfl rfl (hD 194 rfl)
  have K101 : Rc K0 T100 (mkF m 377 #[sR r, sR b, sR no, sI (-1), sI 0, sI 0, sI 2, sI 0, sI 0, sI 0, sI 0, sI 0, sI 0, sI 0, sI 2] [(kR r), (kI 0), (kR ac)]) := fun t k => K99 t (st100 t (by
    refine XS.iconst X100.here hx rfl (hD 195 rfl) ?_
    refine XS.aloadN X100.here hx rfl (hD 196 rfl) rfl rfl ?_
    exact k))
  obtain ⟨T102, X102, e102, st102⟩ := getF X100 hx hZ hown (host := "") (Or.inl (hw _ (mi 34 rfl))) Via.refl e100 (W98q.fld (i := 0) rfl (j := 10) rfl rfl) (g := K101.g) rfl rfl (hD 197 rfl)
  have K103 : Rc K0 T102 (mkF m 383 #[sR r, sR b, sR no, sI (-1), sI 0, sI 0, sI 2, sI 0, sI 0, sI 0, sI 0, sI 0, sI 0, sI 0, sI 2] [(kR b), (kI 0), (kR acs), (kI 0), (kR ac)]) := fun t k => K101 t (st102 t (by
    refine XS.iload X102.here hx rfl (hD 198 rfl) rfl ?_
    refine XS.aloadN X102.here hx rfl (hD 199 rfl) rfl rfl ?_
    exact k))
  obtain ⟨T104, X104, e104, st104⟩ := getR X102 hx hZ hown (hw _ (mi 108 rfl)) e102 (W98q.fld (i := 1) rfl (j := 12) rfl rfl) (g := K103.g) rfl rfl (hD 200 rfl)
  obtain ⟨T105, h105, L105, X105, e105, N105, W105q, st105⟩ := cpW X104 hx hZ hown (hw _ (mi 115 rfl)) (hw _ (mi 118 rfl)) (hw _ (mi 116 rfl)) (hw _ (mi 117 rfl)) e104 W98q N98 (i := 19) (j := 12) rfl rfl rfl (sp := (0 : Int32)) (dp := (0 : Int32)) (nn := (0 : Int32)) (s' := 0) (d' := 0) (k' := 0) (by decide) (by decide) (by decide) (by decide) (by decide) (by decide) (by decide) (by decide) (g := (mkF m 386 #[sR r, sR b, sR no, sI (-1), sI 0, sI 0, sI 2, sI 0, sI 0, sI 0, sI 0, sI 0, sI 0, sI 0, sI 2] [(kI 0), (kI 0), (kR acs), (kI 0), (kR ac)])) rfl (by rw [hml]; rfl) (rest := []) rfl (hD 201 rfl) (by decide) (W0 := 0) (by show 2 * 0 + _ ≤ _; exact Nat.le_of_eq rfl) (by decide)
  have K106 : Rc K0 T105 (mkF m 390 #[sR r, sR b, sR no, sI (-1), sI 0, sI 0, sI 2, sI 0, sI 0, sI 0, sI 0, sI 0, sI 0, sI 0, sI 2] [(kR b)]) := fun t k => K103 t (st104 t (st105 t (XS.aloadN X105.here hx rfl (hD 202 rfl) rfl rfl k)))
  obtain ⟨T107, X107, e107, st107⟩ := getR X105 hx hZ hown (hw _ (mi 119 rfl)) e105 (W105q.fld (i := 1) rfl (j := 7) rfl rfl) (g := K106.g) rfl rfl (hD 203 rfl)
  have K108 : Rc K0 T107 (mkF m 395 #[sR r, sR b, sR no, sI (-1), sI 0, sI 0, sI 2, sI 0, sI 0, sI 0, sI 0, sI 0, sI 0, sI 0, sI 2] [(kR r), (kI 0), (kR cm)]) := fun t k => K106 t (st107 t (by
    refine XS.iconst X107.here hx rfl (hD 204 rfl) ?_
    refine XS.aloadN X107.here hx rfl (hD 205 rfl) rfl rfl ?_
    exact k))
  obtain ⟨T109, X109, e109, st109⟩ := getF X107 hx hZ hown (host := "") (Or.inl (hw _ (mi 36 rfl))) Via.refl e107 (W105q.fld (i := 0) rfl (j := 11) rfl rfl) (g := K108.g) rfl rfl (hD 206 rfl)
  have K110 : Rc K0 T109 (mkF m 401 #[sR r, sR b, sR no, sI (-1), sI 0, sI 0, sI 2, sI 0, sI 0, sI 0, sI 0, sI 0, sI 0, sI 0, sI 2] [(kR b), (kI 0), (kR cms), (kI 0), (kR cm)]) := fun t k => K108 t (st109 t (by
    refine XS.iload X109.here hx rfl (hD 207 rfl) rfl ?_
    refine XS.aloadN X109.here hx rfl (hD 208 rfl) rfl rfl ?_
    exact k))
  obtain ⟨T111, X111, e111, st111⟩ := getR X109 hx hZ hown (hw _ (mi 109 rfl)) e109 (W105q.fld (i := 1) rfl (j := 13) rfl rfl) (g := K110.g) rfl rfl (hD 209 rfl)
  obtain ⟨T112, h112, L112, X112, e112, N112, W112q, st112⟩ := cpW X111 hx hZ hown (hw _ (mi 115 rfl)) (hw _ (mi 118 rfl)) (hw _ (mi 116 rfl)) (hw _ (mi 117 rfl)) e111 W105q N105 (i := 20) (j := 13) rfl rfl rfl (sp := (0 : Int32)) (dp := (0 : Int32)) (nn := (0 : Int32)) (s' := 0) (d' := 0) (k' := 0) (by decide) (by decide) (by decide) (by decide) (by decide) (by decide) (by decide) (by decide) (g := (mkF m 404 #[sR r, sR b, sR no, sI (-1), sI 0, sI 0, sI 2, sI 0, sI 0, sI 0, sI 0, sI 0, sI 0, sI 0, sI 2] [(kI 0), (kI 0), (kR cms), (kI 0), (kR cm)])) rfl (by rw [hml]; rfl) (rest := []) rfl (hD 210 rfl) (by decide) (W0 := 0) (by show 2 * 0 + _ ≤ _; exact Nat.le_of_eq rfl) (by decide)
  have K113 : Rc K0 T112 (mkF m 408 #[sR r, sR b, sR no, sI (-1), sI 0, sI 0, sI 2, sI 0, sI 0, sI 0, sI 0, sI 0, sI 0, sI 0, sI 2] [(kR b)]) := fun t k => K110 t (st111 t (st112 t (XS.aloadN X112.here hx rfl (hD 211 rfl) rfl rfl k)))
  obtain ⟨T114, X114, e114, st114⟩ := getR X112 hx hZ hown (hw _ (mi 120 rfl)) e112 (W112q.fld (i := 1) rfl (j := 9) rfl rfl) (g := K113.g) rfl rfl (hD 212 rfl)
  have K115 : Rc K0 T114 (mkF m 413 #[sR r, sR b, sR no, sI (-1), sI 0, sI 0, sI 2, sI 0, sI 0, sI 0, sI 0, sI 0, sI 0, sI 0, sI 2] [(kR r), (kI 0), (kR su)]) := fun t k => K113 t (st114 t (by
    refine XS.iconst X114.here hx rfl (hD 213 rfl) ?_
    refine XS.aloadN X114.here hx rfl (hD 214 rfl) rfl rfl ?_
    exact k))
  obtain ⟨T116, X116, e116, st116⟩ := getF X114 hx hZ hown (host := "") (Or.inl (hw _ (mi 38 rfl))) Via.refl e114 (W112q.fld (i := 0) rfl (j := 12) rfl rfl) (g := K115.g) rfl rfl (hD 215 rfl)
  have K117 : Rc K0 T116 (mkF m 419 #[sR r, sR b, sR no, sI (-1), sI 0, sI 0, sI 2, sI 0, sI 0, sI 0, sI 0, sI 0, sI 0, sI 0, sI 2] [(kR b), (kI 0), (kR sus), (kI 0), (kR su)]) := fun t k => K115 t (st116 t (by
    refine XS.iload X116.here hx rfl (hD 216 rfl) rfl ?_
    refine XS.aloadN X116.here hx rfl (hD 217 rfl) rfl rfl ?_
    exact k))
  obtain ⟨T118, X118, e118, st118⟩ := getR X116 hx hZ hown (hw _ (mi 110 rfl)) e116 (W112q.fld (i := 1) rfl (j := 14) rfl rfl) (g := K117.g) rfl rfl (hD 218 rfl)
  obtain ⟨T119, h119, L119, X119, e119, N119, W119q, st119⟩ := cpW X118 hx hZ hown (hw _ (mi 115 rfl)) (hw _ (mi 118 rfl)) (hw _ (mi 116 rfl)) (hw _ (mi 117 rfl)) e118 W112q N112 (i := 21) (j := 14) rfl rfl rfl (sp := (0 : Int32)) (dp := (0 : Int32)) (nn := (Int32.ofNat t2)) (s' := 0) (d' := 0) (k' := t2) (by decide) (by decide) (own_nn (by omega)) (by decide) (by decide) (own_tn (by omega)) (by omega) (by omega) (g := (mkF m 422 #[sR r, sR b, sR no, sI (-1), sI 0, sI 0, sI 2, sI 0, sI 0, sI 0, sI 0, sI 0, sI 0, sI 0, sI 2] [(kI (Int32.ofNat t2)), (kI 0), (kR sus), (kI 0), (kR su)])) rfl (by rw [hml]; rfl) (rest := []) rfl (hD 219 rfl) (by decide) (W0 := 0) (by show 2 * 0 + _ ≤ _; exact Nat.le_of_eq rfl) (by decide)
  have W119 : Wo n0 h119 ((r, oR Z [(kR ks), (kR rgs), (kR ns), (kR fch), (kR fk), (kR kl), (kR frg), (kR fac), (kR fcm), (kR ftr), (kR acs), (kR cms), (kR sus), (kR prb), (kI 0), .null, (kI 0), .null, .null, .null, .null, .null, .null, (kI 0), (kI 0)]) :: (b, oB Z [.null, (kI 0), (kR vv), (kI (Int32.ofNat u)), (kR fa), (kR ac), (kR fc), (kR cm), (kR ft), (kR su), (kR pr), (kI 2), (kI 0), (kI 0), (kI (Int32.ofNat t2)), .null]) :: (ks, Ar Z .int 0 g_ks) :: (rgs, Ar Z .int 0 g_rgs) :: (ns, Ar Z .int 16 g_ns) :: (fch, Ar Z .int 17 g_fch) :: (fk, Ar Z .int 17 g_fk) :: (kl, Ar Z .int 16 g_kl) :: (frg, Ar Z .int 17 g_frg) :: (fac, Ar Z .int 17 (upd (upd (upd g_fac 0 (kI 0)) 1 (kI 0)) 2 (kI 0))) :: (fcm, Ar Z .int 17 (upd (upd (upd g_fcm 0 (kI 0)) 1 (kI 0)) 2 (kI 0))) :: (ftr, Ar Z .int 17 (upd (upd (upd g_ftr 0 (kI 0)) 1 (kI (Int32.ofNat t1))) 2 (kI (Int32.ofNat t2)))) :: (acs, Ar Z .int 16 (cpy f4 g_acs 0 0 0)) :: (cms, Ar Z .int 16 (cpy f5 g_cms 0 0 0)) :: (sus, Ar Z .int 64 (cpy f6 g_sus 0 0 t2)) :: (prb, Ar Z .double 64 g_prb) :: (fa, Ar Z .int 2 f1) :: (fc, Ar Z .int 2 f2) :: (ft, Ar Z .int 2 f3) :: (ac, Ar Z .int 2 f4) :: (cm, Ar Z .int 2 f5) :: (su, Ar Z .int 4 f6) :: (pr, Ar Z .double 4 f7) :: (no, Ar Z .int 0 f8) :: (vv, Ar Z .double 3 g_vv) :: Rr) := W119q
  have K120 : Rc K0 T119 (mkF m 426 #[sR r, sR b, sR no, sI (-1), sI 0, sI 0, sI 2, sI 0, sI 0, sI 0, sI 0, sI 0, sI 0, sI 0, sI 2] [(kR b)]) := fun t k => K117 t (st118 t (st119 t (XS.aloadN X119.here hx rfl (hD 220 rfl) rfl rfl k)))
  obtain ⟨T121, X121, e121, st121⟩ := getR X119 hx hZ hown (hw _ (mi 104 rfl)) e119 (W119.fld (i := 1) rfl (j := 0) rfl rfl) (g := K120.g) rfl rfl (hD 221 rfl)
  have K122 : Rc K0 T121 (mkF m 454 #[sR r, sR b, sR no, sI (-1), sI 0, sI 0, sI 2, sI 0, sI 0, sI 0, sI 0, sI 0, sI 0, sI 0, sI 2] [(kR r), (kI 0), (kR no)]) := fun t k => K120 t (st121 t (by
    refine XS.ifnullYes X121.here hx rfl (pc0 := 429) (pc' := 451) rfl (hD 222 rfl) rfl (by decide) (by decide) ?_
    refine XS.aloadN X121.here hx rfl (hD 223 rfl) rfl rfl ?_
    refine XS.iconst X121.here hx rfl (hD 224 rfl) ?_
    refine XS.aloadN X121.here hx rfl (hD 225 rfl) rfl rfl ?_
    exact k))
  obtain ⟨T123, X123, e123, st123⟩ := getF X121 hx hZ hown (host := "") (Or.inl (hw _ (mi 16 rfl))) Via.refl e121 (W119.fld (i := 0) rfl (j := 1) rfl rfl) (g := K122.g) rfl rfl (hD 226 rfl)
  have K124 : Rc K0 T123 (mkF m 461 #[sR r, sR b, sR no, sI (-1), sI 0, sI 0, sI 2, sI 0, sI 0, sI 0, sI 0, sI 0, sI 0, sI 0, sI 2] [(kI 0), (kI 0), (kR rgs), (kI 0), (kR no)]) := fun t k => K122 t (st123 t (by
    refine XS.iload X123.here hx rfl (hD 227 rfl) rfl ?_
    refine XS.aloadN X123.here hx rfl (hD 228 rfl) rfl rfl ?_
    refine lenW X123 hx hZ e123 W119 (i := 23) rfl (fun _ q => q) (z := (0 : Int32)) (by decide) (g := (mkF m 460 #[sR r, sR b, sR no, sI (-1), sI 0, sI 0, sI 2, sI 0, sI 0, sI 0, sI 0, sI 0, sI 0, sI 0, sI 2] [(kR no), (kI 0), (kR rgs), (kI 0), (kR no)])) rfl rfl (hD 229 rfl) _ ?_
    exact k))
  obtain ⟨T125, h125, L125, X125, e125, N125, W125q, st125⟩ := cpW X123 hx hZ hown (hw _ (mi 115 rfl)) (hw _ (mi 118 rfl)) (hw _ (mi 116 rfl)) (hw _ (mi 117 rfl)) e123 W119 N119 (i := 23) (j := 3) rfl rfl rfl (sp := (0 : Int32)) (dp := (0 : Int32)) (nn := (0 : Int32)) (s' := 0) (d' := 0) (k' := 0) (by decide) (by decide) (by decide) (by decide) (by decide) (by decide) (by decide) (by decide) (g := K124.g) rfl (by rw [hml]; rfl) (rest := []) rfl (hD 230 rfl) (by decide) (W0 := 0) (by show 2 * 0 + _ ≤ _; exact Nat.le_of_eq rfl) (by decide)
  have K126 : Rc K0 T125 (mkF m 465 #[sR r, sR b, sR no, sI (-1), sI 0, sI 0, sI 2, sI 0, sI 0, sI 0, sI 0, sI 0, sI 0, sI 0, sI 2] [(kR r)]) := fun t k => K124 t (st125 t (XS.aloadN X125.here hx rfl (hD 231 rfl) rfl rfl k))
  obtain ⟨T127, X127, e127, st127⟩ := getF X125 hx hZ hown (host := "") (Or.inl (hw _ (mi 18 rfl))) Via.refl e125 (W125q.fld (i := 0) rfl (j := 2) rfl rfl) (g := K126.g) rfl rfl (hD 232 rfl)
  have K128 : Rc K0 T127 (mkF m 471 #[sR r, sR b, sR no, sI (-1), sI 0, sI 0, sI 2, sI 0, sI 0, sI 0, sI 0, sI 0, sI 0, sI 0, sI 2] [(kI (-1)), (kI 0), (kR ns)]) := fun t k => K126 t (st127 t (by
    refine XS.iload X127.here hx rfl (hD 233 rfl) rfl ?_
    refine XS.iloadN X127.here hx rfl (hD 234 rfl) rfl ?_
    exact k))
  obtain ⟨T129, h129, L129, X129, e129, N129, W129q, st129⟩ := iasW X127 hx hZ e127 W125q N125 (i := 4) (a := ns) rfl (j := (0 : Int32)) (x := (-1 : Int32)) (k := 0) (by decide) (by decide) (by decide) (g := K128.g) rfl rfl (hD 235 rfl)
  have K130 : Rc K0 T129 (mkF m 473 #[sR r, sR b, sR no, sI (-1), sI 0, sI 0, sI 2, sI 0, sI 0, sI 0, sI 0, sI 0, sI 0, sI 0, sI 2] [(kR r)]) := fun t k => K128 t (st129 t (XS.aloadN X129.here hx rfl (hD 236 rfl) rfl rfl k))
  obtain ⟨T131, X131, e131, st131⟩ := getF X129 hx hZ hown (host := "") (Or.inl (hw _ (mi 24 rfl))) Via.refl e129 (W129q.fld (i := 0) rfl (j := 5) rfl rfl) (g := K130.g) rfl rfl (hD 237 rfl)
  have K132 : Rc K0 T131 (mkF m 479 #[sR r, sR b, sR no, sI (-1), sI 0, sI 0, sI 2, sI 0, sI 0, sI 0, sI 0, sI 0, sI 0, sI 0, sI 2] [(kR b), (kI 0), (kR kl)]) := fun t k => K130 t (st131 t (by
    refine XS.iload X131.here hx rfl (hD 238 rfl) rfl ?_
    refine XS.aloadN X131.here hx rfl (hD 239 rfl) rfl rfl ?_
    exact k))
  obtain ⟨T133, X133, e133, st133⟩ := getR X131 hx hZ hown (hw _ (mi 104 rfl)) e131 (W129q.fld (i := 1) rfl (j := 0) rfl rfl) (g := K132.g) rfl rfl (hD 240 rfl)
  have K134 : Rc K0 T133 (mkF m 494 #[sR r, sR b, sR no, sI (-1), sI 0, sI 0, sI 2, sI 0, sI 0, sI 0, sI 0, sI 0, sI 0, sI 0, sI 2] [(kI (-1)), (kI 0), (kR kl)]) := fun t k => K132 t (st133 t (by
    refine XS.ifnonnullNo X133.here hx rfl (hD 241 rfl) rfl ?_
    refine XS.iconst X133.here hx rfl (hD 242 rfl) ?_
    refine XS.goto X133.here hx rfl (pc0 := 486) (pc' := 494) rfl (hD 243 rfl) (by decide) (by decide) ?_
    exact k))
  obtain ⟨T135, h135, L135, X135, e135, N135, W135q, st135⟩ := iasW X133 hx hZ e133 W129q N129 (i := 7) (a := kl) rfl (j := (0 : Int32)) (x := (-1 : Int32)) (k := 0) (by decide) (by decide) (by decide) (g := K134.g) rfl rfl (hD 244 rfl)
  have K136 : Rc K0 T135 (mkF m 496 #[sR r, sR b, sR no, sI (-1), sI 0, sI 0, sI 2, sI 0, sI 0, sI 0, sI 0, sI 0, sI 0, sI 0, sI 2] [(kR r)]) := fun t k => K134 t (st135 t (XS.aloadN X135.here hx rfl (hD 245 rfl) rfl rfl k))
  obtain ⟨T137, X137, e137, st137⟩ := getF X135 hx hZ hown (host := "") (Or.inl (hw _ (mi 20 rfl))) Via.refl e135 (W135q.fld (i := 0) rfl (j := 3) rfl rfl) (g := K136.g) rfl rfl (hD 246 rfl)
  have K138 : Rc K0 T137 (mkF m 508 #[sR r, sR b, sR no, sI (-1), sI 0, sI 0, sI 2, sI 0, sI 0, sI 0, sI 0, sI 0, sI 0, sI 0, sI 2] [(kI 2), (kI 1), (kR fch)]) := fun t k => K136 t (st137 t (by
    refine XS.iload X137.here hx rfl (hD 247 rfl) rfl ?_
    refine XS.iconst X137.here hx rfl (hD 248 rfl) ?_
    refine XS.iadd X137.here hx rfl (hD 249 rfl) rfl ?_
    refine XS.iload X137.here hx rfl (hD 250 rfl) rfl ?_
    refine XS.iload X137.here hx rfl (hD 251 rfl) rfl ?_
    refine XS.iadd X137.here hx rfl (hD 252 rfl) rfl ?_
    exact k))
  obtain ⟨T139, h139, L139, X139, e139, N139, W139q, st139⟩ := iasW X137 hx hZ e137 W135q N135 (i := 5) (a := fch) rfl (j := (1 : Int32)) (x := (2 : Int32)) (k := 1) (by decide) (by decide) (by decide) (g := K138.g) rfl rfl (hD 253 rfl)
  have W139 : Wo n0 h139 ((r, oR Z [(kR ks), (kR rgs), (kR ns), (kR fch), (kR fk), (kR kl), (kR frg), (kR fac), (kR fcm), (kR ftr), (kR acs), (kR cms), (kR sus), (kR prb), (kI 0), .null, (kI 0), .null, .null, .null, .null, .null, .null, (kI 0), (kI 0)]) :: (b, oB Z [.null, (kI 0), (kR vv), (kI (Int32.ofNat u)), (kR fa), (kR ac), (kR fc), (kR cm), (kR ft), (kR su), (kR pr), (kI 2), (kI 0), (kI 0), (kI (Int32.ofNat t2)), .null]) :: (ks, Ar Z .int 0 g_ks) :: (rgs, Ar Z .int 0 (cpy f8 g_rgs 0 0 0)) :: (ns, Ar Z .int 16 (upd g_ns 0 (kI (-1)))) :: (fch, Ar Z .int 17 (upd g_fch 1 (kI 2))) :: (fk, Ar Z .int 17 g_fk) :: (kl, Ar Z .int 16 (upd g_kl 0 (kI (-1)))) :: (frg, Ar Z .int 17 g_frg) :: (fac, Ar Z .int 17 (upd (upd (upd g_fac 0 (kI 0)) 1 (kI 0)) 2 (kI 0))) :: (fcm, Ar Z .int 17 (upd (upd (upd g_fcm 0 (kI 0)) 1 (kI 0)) 2 (kI 0))) :: (ftr, Ar Z .int 17 (upd (upd (upd g_ftr 0 (kI 0)) 1 (kI (Int32.ofNat t1))) 2 (kI (Int32.ofNat t2)))) :: (acs, Ar Z .int 16 (cpy f4 g_acs 0 0 0)) :: (cms, Ar Z .int 16 (cpy f5 g_cms 0 0 0)) :: (sus, Ar Z .int 64 (cpy f6 g_sus 0 0 t2)) :: (prb, Ar Z .double 64 g_prb) :: (fa, Ar Z .int 2 f1) :: (fc, Ar Z .int 2 f2) :: (ft, Ar Z .int 2 f3) :: (ac, Ar Z .int 2 f4) :: (cm, Ar Z .int 2 f5) :: (su, Ar Z .int 4 f6) :: (pr, Ar Z .double 4 f7) :: (no, Ar Z .int 0 f8) :: (vv, Ar Z .double 3 g_vv) :: Rr) := W139q
  have K140 : Rc K0 T139 (mkF m 510 #[sR r, sR b, sR no, sI (-1), sI 0, sI 0, sI 2, sI 0, sI 0, sI 0, sI 0, sI 0, sI 0, sI 0, sI 2] [(kR r)]) := fun t k => K138 t (st139 t (XS.aloadN X139.here hx rfl (hD 254 rfl) rfl rfl k))
  obtain ⟨T141, X141, e141, st141⟩ := getF X139 hx hZ hown (host := "") (Or.inl (hw _ (mi 22 rfl))) Via.refl e139 (W139.fld (i := 0) rfl (j := 4) rfl rfl) (g := K140.g) rfl rfl (hD 255 rfl)
  have K142 : Rc K0 T141 (mkF m 519 #[sR r, sR b, sR no, sI (-1), sI 0, sI 0, sI 2, sI 0, sI 0, sI 0, sI 0, sI 0, sI 0, sI 0, sI 2] [(kI 0), (kI 1), (kR fk)]) := fun t k => K140 t (st141 t (by
    refine XS.iload X141.here hx rfl (hD 256 rfl) rfl ?_
    refine XS.iconst X141.here hx rfl (hD 257 rfl) ?_
    refine XS.iadd X141.here hx rfl (hD 258 rfl) rfl ?_
    refine XS.iload X141.here hx rfl (hD 259 rfl) rfl ?_
    exact k))
  obtain ⟨T143, h143, L143, X143, e143, N143, W143q, st143⟩ := iasW X141 hx hZ e141 W139 N139 (i := 6) (a := fk) rfl (j := (1 : Int32)) (x := (0 : Int32)) (k := 1) (by decide) (by decide) (by decide) (g := K142.g) rfl rfl (hD 260 rfl)
  have K144 : Rc K0 T143 (mkF m 521 #[sR r, sR b, sR no, sI (-1), sI 0, sI 0, sI 2, sI 0, sI 0, sI 0, sI 0, sI 0, sI 0, sI 0, sI 2] [(kR r)]) := fun t k => K142 t (st143 t (XS.aloadN X143.here hx rfl (hD 261 rfl) rfl rfl k))
  obtain ⟨T145, X145, e145, st145⟩ := getF X143 hx hZ hown (host := "") (Or.inl (hw _ (mi 26 rfl))) Via.refl e143 (W143q.fld (i := 0) rfl (j := 6) rfl rfl) (g := K144.g) rfl rfl (hD 262 rfl)
  have K146 : Rc K0 T145 (mkF m 533 #[sR r, sR b, sR no, sI (-1), sI 0, sI 0, sI 2, sI 0, sI 0, sI 0, sI 0, sI 0, sI 0, sI 0, sI 2] [(kI 0), (kI 1), (kR frg)]) := fun t k => K144 t (st145 t (by
    refine XS.iload X145.here hx rfl (hD 263 rfl) rfl ?_
    refine XS.iconst X145.here hx rfl (hD 264 rfl) ?_
    refine XS.iadd X145.here hx rfl (hD 265 rfl) rfl ?_
    refine XS.iload X145.here hx rfl (hD 266 rfl) rfl ?_
    refine XS.aloadN X145.here hx rfl (hD 267 rfl) rfl rfl ?_
    refine lenW X145 hx hZ e145 W143q (i := 23) rfl (fun _ q => q) (z := (0 : Int32)) (by decide) (g := (mkF m 531 #[sR r, sR b, sR no, sI (-1), sI 0, sI 0, sI 2, sI 0, sI 0, sI 0, sI 0, sI 0, sI 0, sI 0, sI 2] [(kR no), (kI 0), (kI 1), (kR frg)])) rfl rfl (hD 268 rfl) _ ?_
    refine XS.iadd X145.here hx rfl (hD 269 rfl) rfl ?_
    exact k))
  obtain ⟨T147, h147, L147, X147, e147, N147, W147q, st147⟩ := iasW X145 hx hZ e145 W143q N143 (i := 8) (a := frg) rfl (j := (1 : Int32)) (x := (0 : Int32)) (k := 1) (by decide) (by decide) (by decide) (g := K146.g) rfl rfl (hD 270 rfl)
  have K148 : Rc K0 T147 (mkF m 536 #[sR r, sR b, sR no, sI (-1), sI 0, sI 0, sI 2, sI 0, sI 0, sI 0, sI 0, sI 0, sI 0, sI 0, sI 2] [(kR r), (kR r)]) := fun t k => K146 t (st147 t (by
    refine XS.aloadN X147.here hx rfl (hD 271 rfl) rfl rfl ?_
    refine XS.dup X147.here hx rfl (hD 272 rfl) rfl rfl ?_
    exact k))
  obtain ⟨T149, X149, e149, st149⟩ := getF X147 hx hZ hown (host := "") (Or.inl (hw _ (mi 101 rfl))) Via.refl e147 (W147q.fld (i := 0) rfl (j := 14) rfl rfl) (g := K148.g) rfl rfl (hD 273 rfl)
  have K150 : Rc K0 T149 (mkF m 541 #[sR r, sR b, sR no, sI (-1), sI 0, sI 0, sI 2, sI 0, sI 0, sI 0, sI 0, sI 0, sI 0, sI 0, sI 2] [(kI 1), (kR r)]) := fun t k => K148 t (st149 t (by
    refine XS.iconst X149.here hx rfl (hD 274 rfl) ?_
    refine XS.iadd X149.here hx rfl (hD 275 rfl) rfl ?_
    exact k))
  obtain ⟨T151, h151, L151, X151, e151, N151, W151q, st151⟩ := putW X149 hx hZ hown (host := "") (Or.inl (hw _ (mi 101 rfl))) e149 W147q N147 (own_dR hw) (Or.inl (hw _ (mi 102 rfl))) (hw _ (mi 6 rfl)) (ty := .int) (by decide +kernel) (i := 0) (a := r) rfl (j := 14) rfl rfl (v := (.int (1 : Int32))) rfl rfl (g := K150.g) rfl rfl (hD 276 rfl)
  have K152 : Rc K0 T151 (mkF m 584 #[sR r, sR b, sR no, sI (-1), sI 0, sI 0, sI 2, sI 0, sI 0, sI 0, sI 0, sI 0, sI 0, sI 0, sI 2] [(kR r)]) := fun t k => K150 t (st151 t (by
    refine XS.iload X151.here hx rfl (hD 277 rfl) rfl ?_
    refine XS.ifYes X151.here hx rfl (pc0 := 546) (pc' := 583) rfl (hD 278 rfl) rfl (by decide) (by decide) (by decide) ?_
    refine XS.aloadN X151.here hx rfl (hD 297 rfl) rfl rfl ?_
    exact k))
  obtain ⟨T153, X153, e153, st153⟩ := getF X151 hx hZ hown (host := "") (Or.inl (hw _ (mi 105 rfl))) Via.refl e151 (W151q.fld (i := 0) rfl (j := 15) rfl rfl) (g := K152.g) rfl rfl (hD 298 rfl)
  have K154 : Rc K0 T153 (mkF m 591 #[sR r, sR b, sR no, sI (-1), sI 0, sI 0, sI 2, sI 0, sI 0, sI 0, sI 0, sI 0, sI 0, sI 0, sI 2] [(kR r)]) := fun t k => K152 t (st153 t (by
    refine XS.ifnonnullNo X153.here hx rfl (hD 299 rfl) rfl ?_
    refine XS.aloadN X153.here hx rfl (hD 300 rfl) rfl rfl ?_
    exact k))
  have W155 : Wo n0 h151 ((r, oR Z [(kR ks), (kR rgs), (kR ns), (kR fch), (kR fk), (kR kl), (kR frg), (kR fac), (kR fcm), (kR ftr), (kR acs), (kR cms), (kR sus), (kR prb), (kI 1), .null, (kI 0), .null, .null, .null, .null, .null, .null, (kI 0), (kI 0)]) :: (prb, Ar Z .double 64 g_prb) :: (b, oB Z [.null, (kI 0), (kR vv), (kI (Int32.ofNat u)), (kR fa), (kR ac), (kR fc), (kR cm), (kR ft), (kR su), (kR pr), (kI 2), (kI 0), (kI 0), (kI (Int32.ofNat t2)), .null]) :: (ks, Ar Z .int 0 g_ks) :: (rgs, Ar Z .int 0 (cpy f8 g_rgs 0 0 0)) :: (ns, Ar Z .int 16 (upd g_ns 0 (kI (-1)))) :: (fch, Ar Z .int 17 (upd g_fch 1 (kI 2))) :: (fk, Ar Z .int 17 (upd g_fk 1 (kI 0))) :: (kl, Ar Z .int 16 (upd g_kl 0 (kI (-1)))) :: (frg, Ar Z .int 17 (upd g_frg 1 (kI 0))) :: (fac, Ar Z .int 17 (upd (upd (upd g_fac 0 (kI 0)) 1 (kI 0)) 2 (kI 0))) :: (fcm, Ar Z .int 17 (upd (upd (upd g_fcm 0 (kI 0)) 1 (kI 0)) 2 (kI 0))) :: (ftr, Ar Z .int 17 (upd (upd (upd g_ftr 0 (kI 0)) 1 (kI (Int32.ofNat t1))) 2 (kI (Int32.ofNat t2)))) :: (acs, Ar Z .int 16 (cpy f4 g_acs 0 0 0)) :: (cms, Ar Z .int 16 (cpy f5 g_cms 0 0 0)) :: (sus, Ar Z .int 64 (cpy f6 g_sus 0 0 t2)) :: (fa, Ar Z .int 2 f1) :: (fc, Ar Z .int 2 f2) :: (ft, Ar Z .int 2 f3) :: (ac, Ar Z .int 2 f4) :: (cm, Ar Z .int 2 f5) :: (su, Ar Z .int 4 f6) :: (pr, Ar Z .double 4 f7) :: (no, Ar Z .int 0 f8) :: (vv, Ar Z .double 3 g_vv) :: Rr) := Wo.pick W151q [0, 15, 1, 2, 3, 4, 5, 6, 7, 8, 9, 10, 11, 12, 13, 14, 16, 17, 18, 19, 20, 21, 22, 23, 24] 25 (by decide +kernel) rfl
  obtain ⟨cq156, q156, q156'⟩ := (W155.exa (i := 0) rfl).cell
  obtain ⟨_, _, ⟨T156, L156, k156, n156⟩, -, X156, ⟨Lc156, hQ156, l156, y156, z156⟩, st156⟩ := Jvm.OwnKit.privB X153 hx (y := y_sr) hown (mvT hZ (hw _ (mi 131 rfl))) (mvT hZ (hw _ (mi 132 rfl))) (mvT hZ (hw _ (mi 6 rfl))) (Cond.privateMethod_at (mvP hZ (hw _ (mi 133 rfl)) (args := #[]))) (mvT hZ (hw _ (mi 134 rfl))) (by decide) (backOf (W := 0) (rmSR0 l Z a0 hw [] r ks rgs ns fch fk kl frg fac fcm ftr acs cms sus prb (1 : Int32) g_prb ((b, oB Z [.null, (kI 0), (kR vv), (kI (Int32.ofNat u)), (kR fa), (kR ac), (kR fc), (kR cm), (kR ft), (kR su), (kR pr), (kI 2), (kI 0), (kI 0), (kI (Int32.ofNat t2)), .null]) :: (ks, Ar Z .int 0 g_ks) :: (rgs, Ar Z .int 0 (cpy f8 g_rgs 0 0 0)) :: (ns, Ar Z .int 16 (upd g_ns 0 (kI (-1)))) :: (fch, Ar Z .int 17 (upd g_fch 1 (kI 2))) :: (fk, Ar Z .int 17 (upd g_fk 1 (kI 0))) :: (kl, Ar Z .int 16 (upd g_kl 0 (kI (-1)))) :: (frg, Ar Z .int 17 (upd g_frg 1 (kI 0))) :: (fac, Ar Z .int 17 (upd (upd (upd g_fac 0 (kI 0)) 1 (kI 0)) 2 (kI 0))) :: (fcm, Ar Z .int 17 (upd (upd (upd g_fcm 0 (kI 0)) 1 (kI 0)) 2 (kI 0))) :: (ftr, Ar Z .int 17 (upd (upd (upd g_ftr 0 (kI 0)) 1 (kI (Int32.ofNat t1))) 2 (kI (Int32.ofNat t2)))) :: (acs, Ar Z .int 16 (cpy f4 g_acs 0 0 0)) :: (cms, Ar Z .int 16 (cpy f5 g_cms 0 0 0)) :: (sus, Ar Z .int 64 (cpy f6 g_sus 0 0 t2)) :: (fa, Ar Z .int 2 f1) :: (fc, Ar Z .int 2 f2) :: (ft, Ar Z .int 2 f3) :: (ac, Ar Z .int 2 f4) :: (cm, Ar Z .int 2 f5) :: (su, Ar Z .int 4 f6) :: (pr, Ar Z .double 4 f7) :: (no, Ar Z .int 0 f8) :: (vv, Ar Z .double 3 g_vv) :: Rr) h151 n0 W155) hZ (hw _ (mi 134 rfl)) (hw _ (mi 7 rfl)) (by decide) (by decide)) (g := K154.g) rfl (by rw [hml]; rfl) (Steps.refl _) (a := r) (by rw [e153]; exact q156) q156' (argsL := []) (rest := []) (lenOf pd_sr rfl) rfl (by show 2 * 0 + _ ≤ _; exact Nat.le_of_eq rfl) (hD 301 rfl) (fun _ _ => ⟨rfl, e153, (by decide : 0 + 8 ≤ _), (by decide : 0 + 92 ≤ _)⟩)
  dsimp only [Pt.U, Pt.locs, Pt.cells, Pt.slots] at X156 l156 y156 z156 st156 hQ156
  subst l156 y156 z156
  obtain ⟨a36_156, a26_156, a21_156, a18_156, a15_156, a12_156, a9_156, a6_156, rfl, N156q, W156⟩ := hQ156
  have N156 := Fr.app N151 N156q
  have K157 : Rc K0 T156 (mkF m 596 #[sR r, sR b, sR no, sI (-1), sI 0, sI 0, sI 2, sI 0, sI 0, sI 0, sI 0, sI 0, sI 0, sI 0, sI 2] [(kR r), (kR r)]) := fun t k => K154 t (st156.trans (by
    refine XS.aloadN X156.here hx rfl (hD 302 rfl) rfl rfl ?_
    refine XS.aloadN X156.here hx rfl (hD 303 rfl) rfl rfl ?_
    exact k))
  obtain ⟨T158, X158, e158, st158⟩ := getF X156 hx hZ hown (host := "") (Or.inl (hw _ (mi 105 rfl))) Via.refl (rfl : T156.heap = T156.heap) (W156.fld (i := 8) rfl (j := 15) rfl rfl) (g := K157.g) rfl rfl (hD 304 rfl)
  have K159 : Rc K0 T158 (mkF m 600 #[sR r, sR b, sR no, sI (-1), sI 0, sI 0, sI 2, sI 0, sI 0, sI 0, sI 0, sI 0, sI 0, sI 0, sI 2] [(kR r), (kR a6_156), (kR r)]) := fun t k => K157 t (st158 t (XS.aloadN X158.here hx rfl (hD 305 rfl) rfl rfl k))
  obtain ⟨T160, X160, e160, st160⟩ := getF X158 hx hZ hown (host := "") (Or.inl (hw _ (mi 101 rfl))) Via.refl e158 (W156.fld (i := 8) rfl (j := 14) rfl rfl) (g := K159.g) rfl rfl (hD 306 rfl)
  have W161 : Wo n0 T156.heap ((a6_156, Ar Z .int 4 zI) :: (a36_156, Ar Z .double 64 zD) :: (a26_156, Pg Z .double 4 (upd (upd zN 0 (kR prb)) 1 (kR a36_156))) :: (a21_156, Ar Z .int 4 zI) :: (a18_156, Ar Z .int 4 zI) :: (a15_156, Ar Z .int 4 zI) :: (a12_156, Ar Z .int 4 zI) :: (a9_156, Ar Z .int 4 zI) :: (r, oR Z [(kR ks), (kR rgs), (kR ns), (kR fch), (kR fk), (kR kl), (kR frg), (kR fac), (kR fcm), (kR ftr), (kR acs), (kR cms), (kR sus), (kR prb), (kI 1), (kR a6_156), (kI 0), (kR a9_156), (kR a12_156), (kR a15_156), (kR a18_156), (kR a21_156), (kR a26_156), (kI 2), (kI 0)]) :: (prb, Ar Z .double 64 g_prb) :: (b, oB Z [.null, (kI 0), (kR vv), (kI (Int32.ofNat u)), (kR fa), (kR ac), (kR fc), (kR cm), (kR ft), (kR su), (kR pr), (kI 2), (kI 0), (kI 0), (kI (Int32.ofNat t2)), .null]) :: (ks, Ar Z .int 0 g_ks) :: (rgs, Ar Z .int 0 (cpy f8 g_rgs 0 0 0)) :: (ns, Ar Z .int 16 (upd g_ns 0 (kI (-1)))) :: (fch, Ar Z .int 17 (upd g_fch 1 (kI 2))) :: (fk, Ar Z .int 17 (upd g_fk 1 (kI 0))) :: (kl, Ar Z .int 16 (upd g_kl 0 (kI (-1)))) :: (frg, Ar Z .int 17 (upd g_frg 1 (kI 0))) :: (fac, Ar Z .int 17 (upd (upd (upd g_fac 0 (kI 0)) 1 (kI 0)) 2 (kI 0))) :: (fcm, Ar Z .int 17 (upd (upd (upd g_fcm 0 (kI 0)) 1 (kI 0)) 2 (kI 0))) :: (ftr, Ar Z .int 17 (upd (upd (upd g_ftr 0 (kI 0)) 1 (kI (Int32.ofNat t1))) 2 (kI (Int32.ofNat t2)))) :: (acs, Ar Z .int 16 (cpy f4 g_acs 0 0 0)) :: (cms, Ar Z .int 16 (cpy f5 g_cms 0 0 0)) :: (sus, Ar Z .int 64 (cpy f6 g_sus 0 0 t2)) :: (fa, Ar Z .int 2 f1) :: (fc, Ar Z .int 2 f2) :: (ft, Ar Z .int 2 f3) :: (ac, Ar Z .int 2 f4) :: (cm, Ar Z .int 2 f5) :: (su, Ar Z .int 4 f6) :: (pr, Ar Z .double 4 f7) :: (no, Ar Z .int 0 f8) :: (vv, Ar Z .double 3 g_vv) :: Rr) := Wo.pick W156 [7, 0, 1, 2, 3, 4, 5, 6, 8, 9, 10, 11, 12, 13, 14, 15, 16, 17, 18, 19, 20, 21, 22, 23, 24, 25, 26, 27, 28, 29, 30, 31, 32] 33 (by decide +kernel) rfl
  obtain ⟨_, _, ⟨T162, L162, k162, n162⟩, -, X162, ⟨Lc162, hQ162, l162, y162, z162⟩, st162⟩ := Jvm.LawKit.callS X160 hx (y := y_rm) hown (mvT hZ (hw _ (mi 176 rfl))) (mvT hZ (hw _ (mi 177 rfl))) (mvT hZ (hw _ (mi 7 rfl))) (mvT hZ (hw _ (mi 178 rfl))) (by decide) (backOf (W := 1) (rmRM1 l Z a0 hw [] a6_156 zI ((a36_156, Ar Z .double 64 zD) :: (a26_156, Pg Z .double 4 (upd (upd zN 0 (kR prb)) 1 (kR a36_156))) :: (a21_156, Ar Z .int 4 zI) :: (a18_156, Ar Z .int 4 zI) :: (a15_156, Ar Z .int 4 zI) :: (a12_156, Ar Z .int 4 zI) :: (a9_156, Ar Z .int 4 zI) :: (r, oR Z [(kR ks), (kR rgs), (kR ns), (kR fch), (kR fk), (kR kl), (kR frg), (kR fac), (kR fcm), (kR ftr), (kR acs), (kR cms), (kR sus), (kR prb), (kI 1), (kR a6_156), (kI 0), (kR a9_156), (kR a12_156), (kR a15_156), (kR a18_156), (kR a21_156), (kR a26_156), (kI 2), (kI 0)]) :: (prb, Ar Z .double 64 g_prb) :: (b, oB Z [.null, (kI 0), (kR vv), (kI (Int32.ofNat u)), (kR fa), (kR ac), (kR fc), (kR cm), (kR ft), (kR su), (kR pr), (kI 2), (kI 0), (kI 0), (kI (Int32.ofNat t2)), .null]) :: (ks, Ar Z .int 0 g_ks) :: (rgs, Ar Z .int 0 (cpy f8 g_rgs 0 0 0)) :: (ns, Ar Z .int 16 (upd g_ns 0 (kI (-1)))) :: (fch, Ar Z .int 17 (upd g_fch 1 (kI 2))) :: (fk, Ar Z .int 17 (upd g_fk 1 (kI 0))) :: (kl, Ar Z .int 16 (upd g_kl 0 (kI (-1)))) :: (frg, Ar Z .int 17 (upd g_frg 1 (kI 0))) :: (fac, Ar Z .int 17 (upd (upd (upd g_fac 0 (kI 0)) 1 (kI 0)) 2 (kI 0))) :: (fcm, Ar Z .int 17 (upd (upd (upd g_fcm 0 (kI 0)) 1 (kI 0)) 2 (kI 0))) :: (ftr, Ar Z .int 17 (upd (upd (upd g_ftr 0 (kI 0)) 1 (kI (Int32.ofNat t1))) 2 (kI (Int32.ofNat t2)))) :: (acs, Ar Z .int 16 (cpy f4 g_acs 0 0 0)) :: (cms, Ar Z .int 16 (cpy f5 g_cms 0 0 0)) :: (sus, Ar Z .int 64 (cpy f6 g_sus 0 0 t2)) :: (fa, Ar Z .int 2 f1) :: (fc, Ar Z .int 2 f2) :: (ft, Ar Z .int 2 f3) :: (ac, Ar Z .int 2 f4) :: (cm, Ar Z .int 2 f5) :: (su, Ar Z .int 4 f6) :: (pr, Ar Z .double 4 f7) :: (no, Ar Z .int 0 f8) :: (vv, Ar Z .double 3 g_vv) :: Rr) T156.heap n0 W161) hZ (hw _ (mi 178 rfl)) (hw _ (mi 7 rfl)) (by decide) (by decide)) (g := (mkF m 603 #[sR r, sR b, sR no, sI (-1), sI 0, sI 0, sI 2, sI 0, sI 0, sI 0, sI 0, sI 0, sI 0, sI 0, sI 2] [(kI 1), (kR a6_156), (kR r)])) rfl (by rw [hml]; rfl) (argsL := [(.ref a6_156), (.int (1 : Int32))]) (rest := [(.ref r)]) (lenOf pd_rm rfl) rfl (by show 2 * 0 + _ ≤ _; exact Nat.le_of_eq rfl) (hD 307 rfl) (fun _ _ => ⟨rfl, e160, (by decide : 8 + 0 ≤ _), (by decide : 92 + 0 ≤ _)⟩)
  dsimp only [Pt.U, Pt.locs, Pt.cells, Pt.slots] at X162 l162 y162 z162 st162 hQ162
  subst l162 y162 z162
  obtain ⟨rfl, N162q, W162⟩ := hQ162
  have N162 := Fr.app N156 N162q
  obtain ⟨T163, h163, L163, X163, e163, N163, W163q, st163⟩ := putW X162 hx hZ hown (host := "") (Or.inl (hw _ (mi 105 rfl))) (rfl : T162.heap = T162.heap) W162 N162 (own_dR hw) (Or.inl (hw _ (mi 106 rfl))) (hw _ (mi 6 rfl)) (ty := (.array .int)) (by decide +kernel) (i := 8) (a := r) rfl (j := 15) rfl rfl (v := (.ref a6_156)) rfl rfl (g := (mkF m 606 #[sR r, sR b, sR no, sI (-1), sI 0, sI 0, sI 2, sI 0, sI 0, sI 0, sI 0, sI 0, sI 0, sI 0, sI 2] [(kR a6_156), (kR r)])) rfl rfl (hD 308 rfl)
  have W163 : Wo n0 h163 ((a6_156, Ar Z .int 4 zI) :: (a36_156, Ar Z .double 64 zD) :: (a26_156, Pg Z .double 4 (upd (upd zN 0 (kR prb)) 1 (kR a36_156))) :: (a21_156, Ar Z .int 4 zI) :: (a18_156, Ar Z .int 4 zI) :: (a15_156, Ar Z .int 4 zI) :: (a12_156, Ar Z .int 4 zI) :: (a9_156, Ar Z .int 4 zI) :: (r, oR Z [(kR ks), (kR rgs), (kR ns), (kR fch), (kR fk), (kR kl), (kR frg), (kR fac), (kR fcm), (kR ftr), (kR acs), (kR cms), (kR sus), (kR prb), (kI 1), (kR a6_156), (kI 0), (kR a9_156), (kR a12_156), (kR a15_156), (kR a18_156), (kR a21_156), (kR a26_156), (kI 2), (kI 0)]) :: (prb, Ar Z .double 64 g_prb) :: (b, oB Z [.null, (kI 0), (kR vv), (kI (Int32.ofNat u)), (kR fa), (kR ac), (kR fc), (kR cm), (kR ft), (kR su), (kR pr), (kI 2), (kI 0), (kI 0), (kI (Int32.ofNat t2)), .null]) :: (ks, Ar Z .int 0 g_ks) :: (rgs, Ar Z .int 0 (cpy f8 g_rgs 0 0 0)) :: (ns, Ar Z .int 16 (upd g_ns 0 (kI (-1)))) :: (fch, Ar Z .int 17 (upd g_fch 1 (kI 2))) :: (fk, Ar Z .int 17 (upd g_fk 1 (kI 0))) :: (kl, Ar Z .int 16 (upd g_kl 0 (kI (-1)))) :: (frg, Ar Z .int 17 (upd g_frg 1 (kI 0))) :: (fac, Ar Z .int 17 (upd (upd (upd g_fac 0 (kI 0)) 1 (kI 0)) 2 (kI 0))) :: (fcm, Ar Z .int 17 (upd (upd (upd g_fcm 0 (kI 0)) 1 (kI 0)) 2 (kI 0))) :: (ftr, Ar Z .int 17 (upd (upd (upd g_ftr 0 (kI 0)) 1 (kI (Int32.ofNat t1))) 2 (kI (Int32.ofNat t2)))) :: (acs, Ar Z .int 16 (cpy f4 g_acs 0 0 0)) :: (cms, Ar Z .int 16 (cpy f5 g_cms 0 0 0)) :: (sus, Ar Z .int 64 (cpy f6 g_sus 0 0 t2)) :: (fa, Ar Z .int 2 f1) :: (fc, Ar Z .int 2 f2) :: (ft, Ar Z .int 2 f3) :: (ac, Ar Z .int 2 f4) :: (cm, Ar Z .int 2 f5) :: (su, Ar Z .int 4 f6) :: (pr, Ar Z .double 4 f7) :: (no, Ar Z .int 0 f8) :: (vv, Ar Z .double 3 g_vv) :: Rr) := W163q
  have K164 : Rc K0 T163 (mkF m 609 #[sR r, sR b, sR no, sI (-1), sI 0, sI 0, sI 2, sI 0, sI 0, sI 0, sI 0, sI 0, sI 0, sI 0, sI 2] []) := fun t k => K159 t (st160 t (st162 t (st163 t (k))))
  have K165 : Rc K0 T163 (mkF m 610 #[sR r, sR b, sR no, sI (-1), sI 0, sI 0, sI 2, sI 0, sI 0, sI 0, sI 0, sI 0, sI 0, sI 0, sI 2] [(kR r)]) := fun t k => K164 t (XS.aloadN X163.here hx rfl (hD 309 rfl) rfl rfl k)
  obtain ⟨T166, X166, e166, st166⟩ := getF X163 hx hZ hown (host := "") (Or.inl (hw _ (mi 105 rfl))) Via.refl e163 (W163.fld (i := 8) rfl (j := 15) rfl rfl) (g := K165.g) rfl rfl (hD 310 rfl)
  have K167 : Rc K0 T166 (mkF m 616 #[sR r, sR b, sR no, sI (-1), sI 0, sI 0, sI 2, sI 0, sI 0, sI 0, sI 0, sI 0, sI 0, sI 0, sI 2] [(kI (-1)), (kI 0), (kR a6_156)]) := fun t k => K165 t (st166 t (by
    refine XS.iload X166.here hx rfl (hD 311 rfl) rfl ?_
    refine XS.iconst X166.here hx rfl (hD 312 rfl) ?_
    exact k))
  obtain ⟨T168, h168, L168, X168, e168, N168, W168q, st168⟩ := iasW X166 hx hZ e166 W163 N163 (i := 0) (a := a6_156) rfl (j := (0 : Int32)) (x := (-1 : Int32)) (k := 0) (by decide) (by decide) (by decide) (g := K167.g) rfl rfl (hD 313 rfl)
  have K169 : Rc K0 T168 (mkF m 621 #[sR r, sR b, sR no, sI (-1), sI 0, sI 0, sI 2, sI 0, sI 0, sI 0, sI 0, sI 0, sI 0, sI 0, sI 2] [(kR b), (kI 0), (kR r)]) := fun t k => K167 t (st168 t (by
    refine XS.aloadN X168.here hx rfl (hD 314 rfl) rfl rfl ?_
    refine XS.iload X168.here hx rfl (hD 315 rfl) rfl ?_
    refine XS.aloadN X168.here hx rfl (hD 316 rfl) rfl rfl ?_
    exact k))
  obtain ⟨T170, X170, e170, st170⟩ := getR X168 hx hZ hown (hw _ (mi 179 rfl)) e168 (W168q.fld (i := 10) rfl (j := 2) rfl rfl) (g := K169.g) rfl rfl (hD 317 rfl)
  have K171 : Rc K0 T170 (mkF m 625 #[sR r, sR b, sR no, sI (-1), sI 0, sI 0, sI 2, sI 0, sI 0, sI 0, sI 0, sI 0, sI 0, sI 0, sI 2] [(kR b), (kR vv), (kI 0), (kR r)]) := fun t k => K169 t (st170 t (XS.aloadN X170.here hx rfl (hD 318 rfl) rfl rfl k))
  obtain ⟨T172, X172, e172, st172⟩ := getR X170 hx hZ hown (hw _ (mi 107 rfl)) e170 (W168q.fld (i := 10) rfl (j := 3) rfl rfl) (g := K171.g) rfl rfl (hD 319 rfl)
  have K173 : Rc K0 T172 (mkF m 629 #[sR r, sR b, sR no, sI (-1), sI 0, sI 0, sI 2, sI 0, sI 0, sI 0, sI 0, sI 0, sI 0, sI 0, sI 2] [(kR b), (kI (Int32.ofNat u)), (kR vv), (kI 0), (kR r)]) := fun t k => K171 t (st172 t (XS.aloadN X172.here hx rfl (hD 320 rfl) rfl rfl k))
  obtain ⟨T174, X174, e174, st174⟩ := getR X172 hx hZ hown (hw _ (mi 121 rfl)) e172 (W168q.fld (i := 10) rfl (j := 10) rfl rfl) (g := K173.g) rfl rfl (hD 321 rfl)
  have W175 : Wo n0 h168 ((r, oR Z [(kR ks), (kR rgs), (kR ns), (kR fch), (kR fk), (kR kl), (kR frg), (kR fac), (kR fcm), (kR ftr), (kR acs), (kR cms), (kR sus), (kR prb), (kI 1), (kR a6_156), (kI 0), (kR a9_156), (kR a12_156), (kR a15_156), (kR a18_156), (kR a21_156), (kR a26_156), (kI 2), (kI 0)]) :: (ftr, Ar Z .int 17 (upd (upd (upd g_ftr 0 (kI 0)) 1 (kI (Int32.ofNat t1))) 2 (kI (Int32.ofNat t2)))) :: (fch, Ar Z .int 17 (upd g_fch 1 (kI 2))) :: (a26_156, Pg Z .double 4 (upd (upd zN 0 (kR prb)) 1 (kR a36_156))) :: (a36_156, Ar Z .double 64 zD) :: (a6_156, Ar Z .int 4 (upd zI 0 (kI (-1)))) :: (a9_156, Ar Z .int 4 zI) :: (a12_156, Ar Z .int 4 zI) :: (a15_156, Ar Z .int 4 zI) :: (a18_156, Ar Z .int 4 zI) :: (a21_156, Ar Z .int 4 zI) :: (vv, Ar Z .double 3 g_vv) :: (pr, Ar Z .double 4 f7) :: (prb, Ar Z .double 64 g_prb) :: (b, oB Z [.null, (kI 0), (kR vv), (kI (Int32.ofNat u)), (kR fa), (kR ac), (kR fc), (kR cm), (kR ft), (kR su), (kR pr), (kI 2), (kI 0), (kI 0), (kI (Int32.ofNat t2)), .null]) :: (ks, Ar Z .int 0 g_ks) :: (rgs, Ar Z .int 0 (cpy f8 g_rgs 0 0 0)) :: (ns, Ar Z .int 16 (upd g_ns 0 (kI (-1)))) :: (fk, Ar Z .int 17 (upd g_fk 1 (kI 0))) :: (kl, Ar Z .int 16 (upd g_kl 0 (kI (-1)))) :: (frg, Ar Z .int 17 (upd g_frg 1 (kI 0))) :: (fac, Ar Z .int 17 (upd (upd (upd g_fac 0 (kI 0)) 1 (kI 0)) 2 (kI 0))) :: (fcm, Ar Z .int 17 (upd (upd (upd g_fcm 0 (kI 0)) 1 (kI 0)) 2 (kI 0))) :: (acs, Ar Z .int 16 (cpy f4 g_acs 0 0 0)) :: (cms, Ar Z .int 16 (cpy f5 g_cms 0 0 0)) :: (sus, Ar Z .int 64 (cpy f6 g_sus 0 0 t2)) :: (fa, Ar Z .int 2 f1) :: (fc, Ar Z .int 2 f2) :: (ft, Ar Z .int 2 f3) :: (ac, Ar Z .int 2 f4) :: (cm, Ar Z .int 2 f5) :: (su, Ar Z .int 4 f6) :: (no, Ar Z .int 0 f8) :: Rr) := Wo.pick W168q [8, 20, 14, 2, 1, 0, 7, 6, 5, 4, 3, 32, 30, 9, 10, 11, 12, 13, 15, 16, 17, 18, 19, 21, 22, 23, 24, 25, 26, 27, 28, 29, 31] 33 (by decide +kernel) rfl
  obtain ⟨cq176, q176, q176'⟩ := (W175.exa (i := 0) rfl).cell
  obtain ⟨_, _, ⟨T176, L176, k176, n176⟩, -, X176, ⟨Lc176, hQ176, l176, y176, z176⟩, st176⟩ := Jvm.OwnKit.privB X174 hx (y := y_pl) hown (mvT hZ (hw _ (mi 180 rfl))) (mvT hZ (hw _ (mi 181 rfl))) (mvT hZ (hw _ (mi 6 rfl))) (Cond.privateMethod_at (mvP hZ (hw _ (mi 182 rfl)) (args := #[]))) (mvT hZ (hw _ (mi 183 rfl))) (by decide) (backOf (W := 0) (rmPL00 l Z a0 hw [] r ks rgs ns fch fk kl frg fac fcm ftr acs cms sus prb a6_156 a9_156 a12_156 a15_156 a18_156 a21_156 a26_156 a36_156 vv pr u t2 (upd (upd (upd g_ftr 0 (kI 0)) 1 (kI (Int32.ofNat t1))) 2 (kI (Int32.ofNat t2))) (upd g_fch 1 (kI 2)) (upd (upd zN 0 (kR prb)) 1 (kR a36_156)) zD (upd zI 0 (kI (-1))) zI zI zI zI zI g_vv f7 ((prb, Ar Z .double 64 g_prb) :: (b, oB Z [.null, (kI 0), (kR vv), (kI (Int32.ofNat u)), (kR fa), (kR ac), (kR fc), (kR cm), (kR ft), (kR su), (kR pr), (kI 2), (kI 0), (kI 0), (kI (Int32.ofNat t2)), .null]) :: (ks, Ar Z .int 0 g_ks) :: (rgs, Ar Z .int 0 (cpy f8 g_rgs 0 0 0)) :: (ns, Ar Z .int 16 (upd g_ns 0 (kI (-1)))) :: (fk, Ar Z .int 17 (upd g_fk 1 (kI 0))) :: (kl, Ar Z .int 16 (upd g_kl 0 (kI (-1)))) :: (frg, Ar Z .int 17 (upd g_frg 1 (kI 0))) :: (fac, Ar Z .int 17 (upd (upd (upd g_fac 0 (kI 0)) 1 (kI 0)) 2 (kI 0))) :: (fcm, Ar Z .int 17 (upd (upd (upd g_fcm 0 (kI 0)) 1 (kI 0)) 2 (kI 0))) :: (acs, Ar Z .int 16 (cpy f4 g_acs 0 0 0)) :: (cms, Ar Z .int 16 (cpy f5 g_cms 0 0 0)) :: (sus, Ar Z .int 64 (cpy f6 g_sus 0 0 t2)) :: (fa, Ar Z .int 2 f1) :: (fc, Ar Z .int 2 f2) :: (ft, Ar Z .int 2 f3) :: (ac, Ar Z .int 2 f4) :: (cm, Ar Z .int 2 f5) :: (su, Ar Z .int 4 f6) :: (no, Ar Z .int 0 f8) :: Rr) h168 n0 W175 (by omega) (by omega) rfl rfl h_fch rfl rfl rfl) hZ (hw _ (mi 183 rfl)) (hw _ (mi 7 rfl)) (by decide) (by decide)) (g := (mkF m 632 #[sR r, sR b, sR no, sI (-1), sI 0, sI 0, sI 2, sI 0, sI 0, sI 0, sI 0, sI 0, sI 0, sI 0, sI 2] [(kR pr), (kI (Int32.ofNat u)), (kR vv), (kI 0), (kR r)])) rfl (by rw [hml]; rfl) (Steps.refl _) (a := r) (by rw [e174]; exact q176) q176' (argsL := [(.int (0 : Int32)), (.ref vv), (.int (Int32.ofNat u)), (.ref pr)]) (rest := []) (lenOf pd_pl rfl) rfl (by show 2 * 0 + _ ≤ _; exact Nat.le_of_eq rfl) (hD 322 rfl) (fun _ _ => ⟨rfl, e174, (by decide : 8 + 0 ≤ _), (by decide : 92 + 0 ≤ _)⟩)
  dsimp only [Pt.U, Pt.locs, Pt.cells, Pt.slots] at X176 l176 y176 z176 st176 hQ176
  subst l176 y176 z176
  obtain ⟨rfl, N176q, W176⟩ := hQ176
  have N176 := Fr.app N168 N176q
  have K177 : Rc K0 T176 (mkF m 639 #[sR r, sR b, sR no, sI (-1), sI 0, sI 0, sI 2, sI 0, sI 0, sI 0, sI 0, sI 0, sI 0, sI 0, sI 0] [(kI 0)]) := fun t k => K173 t (st174 t (st176.trans (by
    refine XS.istore X176.here hx rfl (hD 323 rfl) rfl (l' := #[sR r, sR b, sR no, sI (-1), sI 0, sI 0, sI 2, sI 0, sI 0, sI 0, sI 0, sI 0, sI 0, sI 0, sI 0]) rfl ?_
    refine XS.iload X176.here hx rfl (hD 324 rfl) rfl ?_
    exact k)))
  obtain ⟨fs, hr, hrun, hended, hWm, hsame⟩ := X176.leave (v := some (.int (0 : Int32))) (fun h => by rw [Bd.returns] at h; cases h)
  refine ⟨_, _, pre0 _ (K177 _ (retI X176 hx Bd.returns (hD 325 rfl) hr)), hrun, hended, _, _, rfl, ?_, ⟨_, rfl⟩, hWm, hsame.mono (by decide) (by decide)⟩
  show QrmADV Z r ks rgs ns fch fk kl frg fac fcm ftr acs cms sus prb b fa ac fc cm ft su pr no vv u t1 t2 g_ks g_rgs g_ns g_fch g_fk g_kl g_frg g_fac g_fcm g_ftr g_acs g_cms g_sus g_prb f1 f2 f3 f4 f5 f6 f7 f8 g_vv Rr n0 _ T176.heap _
  exact ⟨a26_156, a36_156, a6_156, a9_156, a12_156, a15_156, a18_156, a21_156, rfl, N176, W176⟩
theorem ef_rmADE (m : MethodId) (r ks rgs ns fch fk kl frg fac fcm ftr acs cms sus prb : Addr) (b fa ac fc cm ft su pr : Addr) (no vv : Addr) (u t2 : Nat) (g_ks g_rgs g_ns g_fch g_fk g_kl g_frg g_fac g_fcm g_ftr g_acs g_cms g_sus g_prb : Nat → Value) (f1 f2 f3 f4 f5 f6 f7 f8 g_vv : Nat → Value) : entryFrame m #[(.ref r), (.ref b), (.ref no), (.int (-1 : Int32))] 15 = mkF m 0 #[.val (.ref r), .val (.ref b), .val (.ref no), .val (.int (-1 : Int32)), .unset, .unset, .unset, .unset, .unset, .unset, .unset, .unset, .unset, .unset, .unset] [] := by first | (simp [entryFrame, mkF, argsToLocals, Value.category]; done) | rfl
def QrmADE (Z : State) (r ks rgs ns fch fk kl frg fac fcm ftr acs cms sus prb : Addr) (b fa ac fc cm ft su pr : Addr) (no vv : Addr) (u t2 : Nat) (g_ks g_rgs g_ns g_fch g_fk g_kl g_frg g_fac g_fcm g_ftr g_acs g_cms g_sus g_prb : Nat → Value) (f1 f2 f3 f4 f5 f6 f7 f8 g_vv : Nat → Value) (Rr : List (Addr × (Cell → Prop))) (n0 : Nat) (v : Option Value) (h : Heap) (L : List Loc) : Prop := ∃ a40_120 a50_120 a6_120 a9_120 a12_120 a15_120 a18_120 a21_120, v = some (.int (1 : Int32)) ∧ Fr n0 L ∧ Wo n0 h ((r, oR Z [(kR ks), (kR rgs), (kR ns), (kR fch), (kR fk), (kR kl), (kR frg), (kR fac), (kR fcm), (kR ftr), (kR acs), (kR cms), (kR sus), (kR prb), (kI 2), (kR a6_120), (kI 2), (kR a9_120), (kR a12_120), (kR a15_120), (kR a18_120), (kR a21_120), (kR a40_120), (kI 2), (kI (Int32.ofNat u))]) :: (ftr, Ar Z .int 17 (upd g_ftr 2 (kI (Int32.ofNat t2)))) :: (fch, Ar Z .int 17 (upd g_fch 2 (kI 2))) :: (a40_120, Pg Z .double 4 (upd (upd zN 0 (kR prb)) 1 (kR a50_120))) :: (a50_120, Ar Z .double 64 (cpy f7 (cpy g_vv zD 0 0 u) 0 u 0)) :: (a6_120, Ar Z .int 4 (upd (upd (upd zI 0 (kI 0)) 1 (kI (-1))) 1 (kI 1))) :: (a9_120, Ar Z .int 4 (upd (upd zI 0 (kI 0)) 1 (kI 1))) :: (a12_120, Ar Z .int 4 (upd (upd zI 0 (kI (-1))) 1 (kI (-1)))) :: (a15_120, Ar Z .int 4 (upd zI 1 (kI 1))) :: (a18_120, Ar Z .int 4 (upd zI 1 (kI ((Int32.ofNat u) - (Int32.ofNat t2))))) :: (a21_120, Ar Z .int 4 (upd zI 1 (kI (Int32.ofNat u)))) :: (vv, Ar Z .double 3 g_vv) :: (pr, Ar Z .double 4 f7) :: (prb, Ar Z .double 64 g_prb) :: (b, oB Z [.null, (kI 0), (kR vv), (kI (Int32.ofNat u)), (kR fa), (kR ac), (kR fc), (kR cm), (kR ft), (kR su), (kR pr), (kI 0), (kI 0), (kI 0), (kI 0), .null]) :: (ks, Ar Z .int 0 g_ks) :: (rgs, Ar Z .int 0 (cpy f8 g_rgs 0 0 0)) :: (ns, Ar Z .int 16 (upd g_ns 1 (kI (-1)))) :: (fk, Ar Z .int 17 (upd g_fk 2 (kI 0))) :: (kl, Ar Z .int 16 (upd g_kl 1 (kI (-1)))) :: (frg, Ar Z .int 17 (upd g_frg 2 (kI 0))) :: (fac, Ar Z .int 17 (upd g_fac 2 (kI 0))) :: (fcm, Ar Z .int 17 (upd g_fcm 2 (kI 0))) :: (acs, Ar Z .int 16 (cpy f4 g_acs 0 0 0)) :: (cms, Ar Z .int 16 (cpy f5 g_cms 0 0 0)) :: (sus, Ar Z .int 64 (cpy f6 g_sus 0 t2 0)) :: (fa, Ar Z .int 2 f1) :: (fc, Ar Z .int 2 f2) :: (ft, Ar Z .int 2 f3) :: (ac, Ar Z .int 2 f4) :: (cm, Ar Z .int 2 f5) :: (su, Ar Z .int 4 f6) :: (no, Ar Z .int 0 f8) :: Rr)
set_option maxRecDepth 65536 in
set_option maxHeartbeats 40000000 in
theorem rmADE (l : Launch) (Z : State) (a0 : Array Value) (hw : ∀ d ∈ tables_1, d.before a0 Z = true) (ws : List Jvm.Cond) (r ks rgs ns fch fk kl frg fac fcm ftr acs cms sus prb : Addr) (b fa ac fc cm ft su pr : Addr) (no vv : Addr) (u t2 : Nat) (g_ks g_rgs g_ns g_fch g_fk g_kl g_frg g_fac g_fcm g_ftr g_acs g_cms g_sus g_prb : Nat → Value) (f1 f2 f3 f4 f5 f6 f7 f8 g_vv : Nat → Value) (Rr : List (Addr × (Cell → Prop))) (h0 : Heap) (n0 : Nat) (W0 : Wo n0 h0 ((r, oR Z [(kR ks), (kR rgs), (kR ns), (kR fch), (kR fk), (kR kl), (kR frg), (kR fac), (kR fcm), (kR ftr), (kR acs), (kR cms), (kR sus), (kR prb), (kI 1), .null, (kI 1), .null, .null, .null, .null, .null, .null, (kI 0), (kI 0)]) :: (b, oB Z [.null, (kI 0), (kR vv), (kI (Int32.ofNat u)), (kR fa), (kR ac), (kR fc), (kR cm), (kR ft), (kR su), (kR pr), (kI 0), (kI 0), (kI 0), (kI 0), .null]) :: (ks, Ar Z .int 0 g_ks) :: (rgs, Ar Z .int 0 g_rgs) :: (ns, Ar Z .int 16 g_ns) :: (fch, Ar Z .int 17 g_fch) :: (fk, Ar Z .int 17 g_fk) :: (kl, Ar Z .int 16 g_kl) :: (frg, Ar Z .int 17 g_frg) :: (fac, Ar Z .int 17 g_fac) :: (fcm, Ar Z .int 17 g_fcm) :: (ftr, Ar Z .int 17 g_ftr) :: (acs, Ar Z .int 16 g_acs) :: (cms, Ar Z .int 16 g_cms) :: (sus, Ar Z .int 64 g_sus) :: (prb, Ar Z .double 64 g_prb) :: (fa, Ar Z .int 2 f1) :: (fc, Ar Z .int 2 f2) :: (ft, Ar Z .int 2 f3) :: (ac, Ar Z .int 2 f4) :: (cm, Ar Z .int 2 f5) :: (su, Ar Z .int 4 f6) :: (pr, Ar Z .double 4 f7) :: (no, Ar Z .int 0 f8) :: (vv, Ar Z .double 3 g_vv) :: Rr)) (hu1 : 1 ≤ u) (hu3 : u ≤ 3) (ht3 : t2 ≤ 3) (h_fch : g_fch 1 = (.int (2 : Int32))) (h_fk : g_fk 1 = (.int (0 : Int32))) (h_frg : g_frg 1 = (.int (0 : Int32))) (h_fac : g_fac 2 = (.int (0 : Int32))) (h_fcm : g_fcm 2 = (.int (0 : Int32))) (h_ftr : g_ftr 2 = (.int (Int32.ofNat t2)))  :
    MetFree l y_add (head1 (Jvm.Cond.code y_add prog_87_method_2_code 15 (some .int) :: ws) ({ frames := 5, cells := 8, slots := 92, locals := 74 } : Room)) (fun aa U => aa = #[(.ref r), (.ref b), (.ref no), (.int (-1 : Int32))] ∧ Z.Warmed39 U.vm ∧ U.heap = h0) (fun _ _ _ _ _ => True) (fun _ U ou U' => ∃ v L, ou = .returned v ∧ QrmADE Z r ks rgs ns fch fk kl frg fac fcm ftr acs cms sus prb b fa ac fc cm ft su pr no vv u t2 g_ks g_rgs g_ns g_fch g_fk g_kl g_frg g_fac g_fcm g_ftr g_acs g_cms g_sus g_prb f1 f2 f3 f4 f5 f6 f7 f8 g_vv Rr n0 v U'.heap L ∧ FrameEnd U ou U' L ({ frames := 5, cells := 8, slots := 92, locals := 74 } : Room).cells ({ frames := 5, cells := 8, slots := 92, locals := 74 } : Room).slots) := by
  refine MetFree.of_bodySF (plainFor_of_name pn_Rows) hisR ?_
  intro p e s m args below meth c s₁ Bd hml0 hP hK
  obtain ⟨rfl, hZ, hh⟩ := hP
  have hx := Bd.exec
  have hby := Bd.bytes
  have hml : c.maxLocals = 15 := hml0
  have hD : ∀ (k : Nat) {pc : Nat} {i : Instr} {n : Nat}, Ld_add[k]? = some (pc, i, n) → decode c.code pc = .ok (i, n) := by intro k pc i n h; exact hb hby (d_add (pc, i, n) (mi k h))
  have hown : s.vm.findClass "com/example/sambre/sambre/engine/Rows" = some m.cls := findClass_of_methodNamed Bd.named
  have hnm := (name_of_methodNamed Bd.named Bd.method).1
  have X0 : Stand p l e ({ frames := 5, cells := 8, slots := 92, locals := 74 } : Room) s m #[(.ref r), (.ref b), (.ref no), (.int (-1 : Int32))] below meth c s₁ [] 0 0 := Stand.of_body Bd
  have e0 : s₁.heap = h0 := by rw [← hh, Bd.state]; rfl
  have N0 := Fr.nil n0
  obtain ⟨F0, hF0⟩ : ∃ F, F = mkF m 0 #[.val (.ref r), .val (.ref b), .val (.ref no), .val (.int (-1 : Int32)), .unset, .unset, .unset, .unset, .unset, .unset, .unset, .unset, .unset, .unset, .unset] [] := ⟨_, rfl⟩
  have pre0 : ∀ t, Steps p.tables e below (s₁.setTop F0) t → Steps p.tables e below (s₁.setTop (entryFrame m #[(.ref r), (.ref b), (.ref no), (.int (-1 : Int32))] 15)) t := fun t k => castTop ((ef_rmADE m r ks rgs ns fch fk kl frg fac fcm ftr acs cms sus prb b fa ac fc cm ft su pr no vv u t2 g_ks g_rgs g_ns g_fch g_fk g_kl g_frg g_fac g_fcm g_ftr g_acs g_cms g_sus g_prb f1 f2 f3 f4 f5 f6 f7 f8 g_vv).trans hF0.symm) k
  have K0 : Rch p e below s₁ F0 s₁ (mkF m 0 #[.val (.ref r), .val (.ref b), .val (.ref no), .val (.int (-1 : Int32)), .unset, .unset, .unset, .unset, .unset, .unset, .unset, .unset, .unset, .unset, .unset] []) := fun t k => castTop hF0 k
  have K1 : Rc K0 s₁ (mkF m 1 #[sR r, sR b, sR no, sI (-1), sU, sU, sU, sU, sU, sU, sU, sU, sU, sU, sU] [(kR r)]) := fun t k => K0 t (XS.aloadN X0.here hx rfl (hD 0 rfl) rfl rfl k)
  obtain ⟨T2, X2, e2, st2⟩ := getF X0 hx hZ hown (host := "") (Or.inl (hw _ (mi 101 rfl))) Via.refl e0 (W0.fld (i := 0) rfl (j := 14) rfl rfl) (g := K1.g) rfl rfl (hD 1 rfl)
  have K3 : Rc K0 T2 (mkF m 7 #[sR r, sR b, sR no, sI (-1), sI 1, sU, sU, sU, sU, sU, sU, sU, sU, sU, sU] [(kR r)]) := fun t k => K1 t (st2 t (by
    refine XS.istore X2.here hx rfl (hD 2 rfl) rfl (l' := #[sR r, sR b, sR no, sI (-1), sI 1, sU, sU, sU, sU, sU, sU, sU, sU, sU, sU]) rfl ?_
    refine XS.aloadN X2.here hx rfl (hD 3 rfl) rfl rfl ?_
    exact k))
  obtain ⟨T4, X4, e4, st4⟩ := getF X2 hx hZ hown (host := "") (Or.inl (hw _ (mi 20 rfl))) Via.refl e2 (W0.fld (i := 0) rfl (j := 3) rfl rfl) (g := K3.g) rfl rfl (hD 4 rfl)
  have K5 : Rc K0 T4 (mkF m 16 #[sR r, sR b, sR no, sI (-1), sI 1, sI 2, sU, sU, sU, sU, sU, sU, sU, sU, sU] [(kR b)]) := fun t k => K3 t (st4 t (by
    refine XS.iload X4.here hx rfl (hD 5 rfl) rfl ?_
    refine ialW X4 hx hZ e4 W0 (i := 5) rfl (j := (1 : Int32)) (k := 1) (by decide) (by decide) (by decide) (v := (.int (2 : Int32))) h_fch (g := (mkF m 12 #[sR r, sR b, sR no, sI (-1), sI 1, sU, sU, sU, sU, sU, sU, sU, sU, sU, sU] [(kI 1), (kR fch)])) rfl rfl (hD 6 rfl) _ ?_
    refine XS.istore X4.here hx rfl (hD 7 rfl) rfl (l' := #[sR r, sR b, sR no, sI (-1), sI 1, sI 2, sU, sU, sU, sU, sU, sU, sU, sU, sU]) rfl ?_
    refine XS.aloadN X4.here hx rfl (hD 8 rfl) rfl rfl ?_
    exact k))
  obtain ⟨T6, X6, e6, st6⟩ := getR X4 hx hZ hown (hw _ (mi 103 rfl)) e4 (W0.fld (i := 1) rfl (j := 11) rfl rfl) (g := K5.g) rfl rfl (hD 9 rfl)
  have K7 : Rc K0 T6 (mkF m 22 #[sR r, sR b, sR no, sI (-1), sI 1, sI 2, sI 0, sU, sU, sU, sU, sU, sU, sU, sU] [(kR r)]) := fun t k => K5 t (st6 t (by
    refine XS.istore X6.here hx rfl (hD 10 rfl) rfl (l' := #[sR r, sR b, sR no, sI (-1), sI 1, sI 2, sI 0, sU, sU, sU, sU, sU, sU, sU, sU]) rfl ?_
    refine XS.aloadN X6.here hx rfl (hD 11 rfl) rfl rfl ?_
    exact k))
  obtain ⟨T8, X8, e8, st8⟩ := getF X6 hx hZ hown (host := "") (Or.inl (hw _ (mi 28 rfl))) Via.refl e6 (W0.fld (i := 0) rfl (j := 7) rfl rfl) (g := K7.g) rfl rfl (hD 12 rfl)
  have K9 : Rc K0 T8 (mkF m 31 #[sR r, sR b, sR no, sI (-1), sI 1, sI 2, sI 0, sI 0, sU, sU, sU, sU, sU, sU, sU] [(kR r)]) := fun t k => K7 t (st8 t (by
    refine XS.iload X8.here hx rfl (hD 13 rfl) rfl ?_
    refine ialW X8 hx hZ e8 W0 (i := 9) rfl (j := (2 : Int32)) (k := 2) (by decide) (by decide) (by decide) (v := (.int (0 : Int32))) h_fac (g := (mkF m 27 #[sR r, sR b, sR no, sI (-1), sI 1, sI 2, sI 0, sU, sU, sU, sU, sU, sU, sU, sU] [(kI 2), (kR fac)])) rfl rfl (hD 14 rfl) _ ?_
    refine XS.istore X8.here hx rfl (hD 15 rfl) rfl (l' := #[sR r, sR b, sR no, sI (-1), sI 1, sI 2, sI 0, sI 0, sU, sU, sU, sU, sU, sU, sU]) rfl ?_
    refine XS.aloadN X8.here hx rfl (hD 16 rfl) rfl rfl ?_
    exact k))
  obtain ⟨T10, X10, e10, st10⟩ := getF X8 hx hZ hown (host := "") (Or.inl (hw _ (mi 30 rfl))) Via.refl e8 (W0.fld (i := 0) rfl (j := 8) rfl rfl) (g := K9.g) rfl rfl (hD 17 rfl)
  have K11 : Rc K0 T10 (mkF m 40 #[sR r, sR b, sR no, sI (-1), sI 1, sI 2, sI 0, sI 0, sI 0, sU, sU, sU, sU, sU, sU] [(kR r)]) := fun t k => K9 t (st10 t (by
    refine XS.iload X10.here hx rfl (hD 18 rfl) rfl ?_
    refine ialW X10 hx hZ e10 W0 (i := 10) rfl (j := (2 : Int32)) (k := 2) (by decide) (by decide) (by decide) (v := (.int (0 : Int32))) h_fcm (g := (mkF m 36 #[sR r, sR b, sR no, sI (-1), sI 1, sI 2, sI 0, sI 0, sU, sU, sU, sU, sU, sU, sU] [(kI 2), (kR fcm)])) rfl rfl (hD 19 rfl) _ ?_
    refine XS.istore X10.here hx rfl (hD 20 rfl) rfl (l' := #[sR r, sR b, sR no, sI (-1), sI 1, sI 2, sI 0, sI 0, sI 0, sU, sU, sU, sU, sU, sU]) rfl ?_
    refine XS.aloadN X10.here hx rfl (hD 21 rfl) rfl rfl ?_
    exact k))
  obtain ⟨T12, X12, e12, st12⟩ := getF X10 hx hZ hown (host := "") (Or.inl (hw _ (mi 32 rfl))) Via.refl e10 (W0.fld (i := 0) rfl (j := 9) rfl rfl) (g := K11.g) rfl rfl (hD 22 rfl)
  have K13 : Rc K0 T12 (mkF m 49 #[sR r, sR b, sR no, sI (-1), sI 1, sI 2, sI 0, sI 0, sI 0, sI (Int32.ofNat t2), sU, sU, sU, sU, sU] [(kR r)]) := fun t k => K11 t (st12 t (by
    refine XS.iload X12.here hx rfl (hD 23 rfl) rfl ?_
    refine ialW X12 hx hZ e12 W0 (i := 11) rfl (j := (2 : Int32)) (k := 2) (by decide) (by decide) (by decide) (v := (.int (Int32.ofNat t2))) h_ftr (g := (mkF m 45 #[sR r, sR b, sR no, sI (-1), sI 1, sI 2, sI 0, sI 0, sI 0, sU, sU, sU, sU, sU, sU] [(kI 2), (kR ftr)])) rfl rfl (hD 24 rfl) _ ?_
    refine XS.istore X12.here hx rfl (hD 25 rfl) rfl (l' := #[sR r, sR b, sR no, sI (-1), sI 1, sI 2, sI 0, sI 0, sI 0, sI (Int32.ofNat t2), sU, sU, sU, sU, sU]) rfl ?_
    refine XS.aloadN X12.here hx rfl (hD 26 rfl) rfl rfl ?_
    exact k))
  obtain ⟨T14, X14, e14, st14⟩ := getF X12 hx hZ hown (host := "") (Or.inl (hw _ (mi 22 rfl))) Via.refl e12 (W0.fld (i := 0) rfl (j := 4) rfl rfl) (g := K13.g) rfl rfl (hD 27 rfl)
  have K15 : Rc K0 T14 (mkF m 60 #[sR r, sR b, sR no, sI (-1), sI 1, sI 2, sI 0, sI 0, sI 0, sI (Int32.ofNat t2), sI 0, sU, sU, sU, sU] [(kR b), (kI 0)]) := fun t k => K13 t (st14 t (by
    refine XS.iload X14.here hx rfl (hD 28 rfl) rfl ?_
    refine ialW X14 hx hZ e14 W0 (i := 6) rfl (j := (1 : Int32)) (k := 1) (by decide) (by decide) (by decide) (v := (.int (0 : Int32))) h_fk (g := (mkF m 54 #[sR r, sR b, sR no, sI (-1), sI 1, sI 2, sI 0, sI 0, sI 0, sI (Int32.ofNat t2), sU, sU, sU, sU, sU] [(kI 1), (kR fk)])) rfl rfl (hD 29 rfl) _ ?_
    refine XS.istore X14.here hx rfl (hD 30 rfl) rfl (l' := #[sR r, sR b, sR no, sI (-1), sI 1, sI 2, sI 0, sI 0, sI 0, sI (Int32.ofNat t2), sI 0, sU, sU, sU, sU]) rfl ?_
    refine XS.iload X14.here hx rfl (hD 31 rfl) rfl ?_
    refine XS.aloadN X14.here hx rfl (hD 32 rfl) rfl rfl ?_
    exact k))
  obtain ⟨T16, X16, e16, st16⟩ := getR X14 hx hZ hown (hw _ (mi 104 rfl)) e14 (W0.fld (i := 1) rfl (j := 0) rfl rfl) (g := K15.g) rfl rfl (hD 33 rfl)
  have K17 : Rc K0 T16 (mkF m 78 #[sR r, sR b, sR no, sI (-1), sI 1, sI 2, sI 0, sI 0, sI 0, sI (Int32.ofNat t2), sI 0, sI 0, sU, sU, sU] [(kR r)]) := fun t k => K15 t (st16 t (by
    refine XS.ifnonnullNo X16.here hx rfl (hD 34 rfl) rfl ?_
    refine XS.iconst X16.here hx rfl (hD 35 rfl) ?_
    refine XS.goto X16.here hx rfl (pc0 := 67) (pc' := 74) rfl (hD 36 rfl) (by decide) (by decide) ?_
    refine XS.iadd X16.here hx rfl (hD 37 rfl) rfl ?_
    refine XS.istore X16.here hx rfl (hD 38 rfl) rfl (l' := #[sR r, sR b, sR no, sI (-1), sI 1, sI 2, sI 0, sI 0, sI 0, sI (Int32.ofNat t2), sI 0, sI 0, sU, sU, sU]) rfl ?_
    refine XS.aloadN X16.here hx rfl (hD 39 rfl) rfl rfl ?_
    exact k))
  obtain ⟨T18, X18, e18, st18⟩ := getF X16 hx hZ hown (host := "") (Or.inl (hw _ (mi 26 rfl))) Via.refl e16 (W0.fld (i := 0) rfl (j := 6) rfl rfl) (g := K17.g) rfl rfl (hD 40 rfl)
  have K19 : Rc K0 T18 (mkF m 87 #[sR r, sR b, sR no, sI (-1), sI 1, sI 2, sI 0, sI 0, sI 0, sI (Int32.ofNat t2), sI 0, sI 0, sI 0, sU, sU] [(kR r)]) := fun t k => K17 t (st18 t (by
    refine XS.iload X18.here hx rfl (hD 41 rfl) rfl ?_
    refine ialW X18 hx hZ e18 W0 (i := 8) rfl (j := (1 : Int32)) (k := 1) (by decide) (by decide) (by decide) (v := (.int (0 : Int32))) h_frg (g := (mkF m 83 #[sR r, sR b, sR no, sI (-1), sI 1, sI 2, sI 0, sI 0, sI 0, sI (Int32.ofNat t2), sI 0, sI 0, sU, sU, sU] [(kI 1), (kR frg)])) rfl rfl (hD 42 rfl) _ ?_
    refine XS.istore X18.here hx rfl (hD 43 rfl) rfl (l' := #[sR r, sR b, sR no, sI (-1), sI 1, sI 2, sI 0, sI 0, sI 0, sI (Int32.ofNat t2), sI 0, sI 0, sI 0, sU, sU]) rfl ?_
    refine XS.aloadN X18.here hx rfl (hD 44 rfl) rfl rfl ?_
    exact k))
  obtain ⟨T20, X20, e20, st20⟩ := getF X18 hx hZ hown (host := "") (Or.inl (hw _ (mi 105 rfl))) Via.refl e18 (W0.fld (i := 0) rfl (j := 15) rfl rfl) (g := K19.g) rfl rfl (hD 45 rfl)
  have K21 : Rc K0 T20 (mkF m 94 #[sR r, sR b, sR no, sI (-1), sI 1, sI 2, sI 0, sI 0, sI 0, sI (Int32.ofNat t2), sI 0, sI 0, sI 0, sU, sU] [(kR b)]) := fun t k => K19 t (st20 t (by
    refine XS.ifnonnullNo X20.here hx rfl (hD 46 rfl) rfl ?_
    refine XS.aloadN X20.here hx rfl (hD 47 rfl) rfl rfl ?_
    exact k))
  obtain ⟨T22, X22, e22, st22⟩ := getR X20 hx hZ hown (hw _ (mi 107 rfl)) e20 (W0.fld (i := 1) rfl (j := 3) rfl rfl) (g := K21.g) rfl rfl (hD 48 rfl)
  have K23 : Rc K0 T22 (mkF m 110 #[sR r, sR b, sR no, sI (-1), sI 1, sI 2, sI 0, sI 0, sI 0, sI (Int32.ofNat t2), sI 0, sI 0, sI 0, sI 0, sU] [(kR r), (kI 1)]) := fun t k => K21 t (st22 t (by
    refine XS.ifYes X22.here hx rfl (pc0 := 97) (pc' := 104) rfl (hD 49 rfl) rfl ((if0 _ _).trans (feq (own_ne (a := u) (b := 0) (by omega) (by omega) (by omega))).2) (by decide) (by decide) ?_
    refine XS.iconst X22.here hx rfl (hD 52 rfl) ?_
    refine XS.istore X22.here hx rfl (hD 53 rfl) rfl (l' := #[sR r, sR b, sR no, sI (-1), sI 1, sI 2, sI 0, sI 0, sI 0, sI (Int32.ofNat t2), sI 0, sI 0, sI 0, sI 0, sU]) rfl ?_
    refine XS.iload X22.here hx rfl (hD 54 rfl) rfl ?_
    refine XS.aloadN X22.here hx rfl (hD 55 rfl) rfl rfl ?_
    exact k))
  obtain ⟨T24, X24, e24, st24⟩ := getF X22 hx hZ hown (host := "") (Or.inl (hw _ (mi 18 rfl))) Via.refl e22 (W0.fld (i := 0) rfl (j := 2) rfl rfl) (g := K23.g) rfl rfl (hD 56 rfl)
  have K25 : Rc K0 T24 (mkF m 122 #[sR r, sR b, sR no, sI (-1), sI 1, sI 2, sI 0, sI 0, sI 0, sI (Int32.ofNat t2), sI 0, sI 0, sI 0, sI 0, sU] [(kR r), (kI 2)]) := fun t k => K23 t (st24 t (by
    refine lenW X24 hx hZ e24 W0 (i := 4) rfl (fun _ q => q) (z := (16 : Int32)) (by decide) (g := (mkF m 113 #[sR r, sR b, sR no, sI (-1), sI 1, sI 2, sI 0, sI 0, sI 0, sI (Int32.ofNat t2), sI 0, sI 0, sI 0, sI 0, sU] [(kR ns), (kI 1)])) rfl rfl (hD 57 rfl) _ ?_
    refine XS.icmpNo X24.here hx rfl (hD 58 rfl) rfl (by decide) ?_
    refine XS.iload X24.here hx rfl (hD 59 rfl) rfl ?_
    refine XS.iconst X24.here hx rfl (hD 60 rfl) ?_
    refine XS.iadd X24.here hx rfl (hD 61 rfl) rfl ?_
    refine XS.aloadN X24.here hx rfl (hD 62 rfl) rfl rfl ?_
    exact k))
  obtain ⟨T26, X26, e26, st26⟩ := getF X24 hx hZ hown (host := "") (Or.inl (hw _ (mi 20 rfl))) Via.refl e24 (W0.fld (i := 0) rfl (j := 3) rfl rfl) (g := K25.g) rfl rfl (hD 63 rfl)
  have K27 : Rc K0 T26 (mkF m 135 #[sR r, sR b, sR no, sI (-1), sI 1, sI 2, sI 0, sI 0, sI 0, sI (Int32.ofNat t2), sI 0, sI 0, sI 0, sI 0, sU] [(kR r), (kI 2)]) := fun t k => K25 t (st26 t (by
    refine lenW X26 hx hZ e26 W0 (i := 5) rfl (fun _ q => q) (z := (17 : Int32)) (by decide) (g := (mkF m 125 #[sR r, sR b, sR no, sI (-1), sI 1, sI 2, sI 0, sI 0, sI 0, sI (Int32.ofNat t2), sI 0, sI 0, sI 0, sI 0, sU] [(kR fch), (kI 2)])) rfl rfl (hD 64 rfl) _ ?_
    refine XS.icmpNo X26.here hx rfl (hD 65 rfl) rfl (by decide) ?_
    refine XS.iload X26.here hx rfl (hD 66 rfl) rfl ?_
    refine XS.iload X26.here hx rfl (hD 67 rfl) rfl ?_
    refine XS.iadd X26.here hx rfl (hD 68 rfl) rfl ?_
    refine XS.aloadN X26.here hx rfl (hD 69 rfl) rfl rfl ?_
    exact k))
  obtain ⟨T28, X28, e28, st28⟩ := getF X26 hx hZ hown (host := "") (Or.inl (hw _ (mi 28 rfl))) Via.refl e26 (W0.fld (i := 0) rfl (j := 7) rfl rfl) (g := K27.g) rfl rfl (hD 70 rfl)
  have K29 : Rc K0 T28 (mkF m 145 #[sR r, sR b, sR no, sI (-1), sI 1, sI 2, sI 0, sI 0, sI 0, sI (Int32.ofNat t2), sI 0, sI 0, sI 0, sI 0, sU] [(kR b), (kI 0)]) := fun t k => K27 t (st28 t (by
    refine lenW X28 hx hZ e28 W0 (i := 9) rfl (fun _ q => q) (z := (17 : Int32)) (by decide) (g := (mkF m 138 #[sR r, sR b, sR no, sI (-1), sI 1, sI 2, sI 0, sI 0, sI 0, sI (Int32.ofNat t2), sI 0, sI 0, sI 0, sI 0, sU] [(kR fac), (kI 2)])) rfl rfl (hD 71 rfl) _ ?_
    refine XS.icmpNo X28.here hx rfl (hD 72 rfl) rfl (by decide) ?_
    refine XS.iload X28.here hx rfl (hD 73 rfl) rfl ?_
    refine XS.aloadN X28.here hx rfl (hD 74 rfl) rfl rfl ?_
    exact k))
  obtain ⟨T30, X30, e30, st30⟩ := getR X28 hx hZ hown (hw _ (mi 108 rfl)) e28 (W0.fld (i := 1) rfl (j := 12) rfl rfl) (g := K29.g) rfl rfl (hD 75 rfl)
  have K31 : Rc K0 T30 (mkF m 150 #[sR r, sR b, sR no, sI (-1), sI 1, sI 2, sI 0, sI 0, sI 0, sI (Int32.ofNat t2), sI 0, sI 0, sI 0, sI 0, sU] [(kR r), (kI 0)]) := fun t k => K29 t (st30 t (by
    refine XS.iadd X30.here hx rfl (hD 76 rfl) rfl ?_
    refine XS.aloadN X30.here hx rfl (hD 77 rfl) rfl rfl ?_
    exact k))
  obtain ⟨T32, X32, e32, st32⟩ := getF X30 hx hZ hown (host := "") (Or.inl (hw _ (mi 34 rfl))) Via.refl e30 (W0.fld (i := 0) rfl (j := 10) rfl rfl) (g := K31.g) rfl rfl (hD 78 rfl)
  have K33 : Rc K0 T32 (mkF m 160 #[sR r, sR b, sR no, sI (-1), sI 1, sI 2, sI 0, sI 0, sI 0, sI (Int32.ofNat t2), sI 0, sI 0, sI 0, sI 0, sU] [(kR b), (kI 0)]) := fun t k => K31 t (st32 t (by
    refine lenW X32 hx hZ e32 W0 (i := 12) rfl (fun _ q => q) (z := (16 : Int32)) (by decide) (g := (mkF m 153 #[sR r, sR b, sR no, sI (-1), sI 1, sI 2, sI 0, sI 0, sI 0, sI (Int32.ofNat t2), sI 0, sI 0, sI 0, sI 0, sU] [(kR acs), (kI 0)])) rfl rfl (hD 79 rfl) _ ?_
    refine XS.icmpNo X32.here hx rfl (hD 80 rfl) rfl (by decide) ?_
    refine XS.iload X32.here hx rfl (hD 81 rfl) rfl ?_
    refine XS.aloadN X32.here hx rfl (hD 82 rfl) rfl rfl ?_
    exact k))
  obtain ⟨T34, X34, e34, st34⟩ := getR X32 hx hZ hown (hw _ (mi 109 rfl)) e32 (W0.fld (i := 1) rfl (j := 13) rfl rfl) (g := K33.g) rfl rfl (hD 83 rfl)
  have K35 : Rc K0 T34 (mkF m 165 #[sR r, sR b, sR no, sI (-1), sI 1, sI 2, sI 0, sI 0, sI 0, sI (Int32.ofNat t2), sI 0, sI 0, sI 0, sI 0, sU] [(kR r), (kI 0)]) := fun t k => K33 t (st34 t (by
    refine XS.iadd X34.here hx rfl (hD 84 rfl) rfl ?_
    refine XS.aloadN X34.here hx rfl (hD 85 rfl) rfl rfl ?_
    exact k))
  obtain ⟨T36, X36, e36, st36⟩ := getF X34 hx hZ hown (host := "") (Or.inl (hw _ (mi 36 rfl))) Via.refl e34 (W0.fld (i := 0) rfl (j := 11) rfl rfl) (g := K35.g) rfl rfl (hD 86 rfl)
  have K37 : Rc K0 T36 (mkF m 175 #[sR r, sR b, sR no, sI (-1), sI 1, sI 2, sI 0, sI 0, sI 0, sI (Int32.ofNat t2), sI 0, sI 0, sI 0, sI 0, sU] [(kR b), (kI (Int32.ofNat t2))]) := fun t k => K35 t (st36 t (by
    refine lenW X36 hx hZ e36 W0 (i := 13) rfl (fun _ q => q) (z := (16 : Int32)) (by decide) (g := (mkF m 168 #[sR r, sR b, sR no, sI (-1), sI 1, sI 2, sI 0, sI 0, sI 0, sI (Int32.ofNat t2), sI 0, sI 0, sI 0, sI 0, sU] [(kR cms), (kI 0)])) rfl rfl (hD 87 rfl) _ ?_
    refine XS.icmpNo X36.here hx rfl (hD 88 rfl) rfl (by decide) ?_
    refine XS.iload X36.here hx rfl (hD 89 rfl) rfl ?_
    refine XS.aloadN X36.here hx rfl (hD 90 rfl) rfl rfl ?_
    exact k))
  obtain ⟨T38, X38, e38, st38⟩ := getR X36 hx hZ hown (hw _ (mi 110 rfl)) e36 (W0.fld (i := 1) rfl (j := 14) rfl rfl) (g := K37.g) rfl rfl (hD 91 rfl)
  have K39 : Rc K0 T38 (mkF m 180 #[sR r, sR b, sR no, sI (-1), sI 1, sI 2, sI 0, sI 0, sI 0, sI (Int32.ofNat t2), sI 0, sI 0, sI 0, sI 0, sU] [(kR r), (kI (Int32.ofNat t2))]) := fun t k => K37 t (st38 t (by
    refine XS.iadd X38.here hx rfl (hD 92 rfl) rfl ?_
    show Steps p.tables e below (T38.setTop (mkF m 179 #[sR r, sR b, sR no, sI (-1), sI 1, sI 2, sI 0, sI 0, sI 0, sI (Int32.ofNat t2), sI 0, sI 0, sI 0, sI 0, sU] [(kI ((Int32.ofNat t2) + (0 : Int32)))])) _
    rw [Int32.add_zero]
    show Steps p.tables e below (T38.setTop (mkF m 179 #[sR r, sR b, sR no, sI (-1), sI 1, sI 2, sI 0, sI 0, sI 0, sI (Int32.ofNat t2), sI 0, sI 0, sI 0, sI 0, sU] [(kI (Int32.ofNat t2))])) _
    refine XS.aloadN X38.here hx rfl (hD 93 rfl) rfl rfl ?_
    exact k))
  obtain ⟨T40, X40, e40, st40⟩ := getF X38 hx hZ hown (host := "") (Or.inl (hw _ (mi 38 rfl))) Via.refl e38 (W0.fld (i := 0) rfl (j := 12) rfl rfl) (g := K39.g) rfl rfl (hD 94 rfl)
  have K41 : Rc K0 T40 (mkF m 210 #[sR r, sR b, sR no, sI (-1), sI 1, sI 2, sI 0, sI 0, sI 0, sI (Int32.ofNat t2), sI 0, sI 0, sI 0, sI 0, sU] [(kR r), (kI 0)]) := fun t k => K39 t (st40 t (by
    refine lenW X40 hx hZ e40 W0 (i := 14) rfl (fun _ q => q) (z := (64 : Int32)) (by decide) (g := (mkF m 183 #[sR r, sR b, sR no, sI (-1), sI 1, sI 2, sI 0, sI 0, sI 0, sI (Int32.ofNat t2), sI 0, sI 0, sI 0, sI 0, sU] [(kR sus), (kI (Int32.ofNat t2))])) rfl rfl (hD 95 rfl) _ ?_
    refine XS.icmpNo X40.here hx rfl (hD 96 rfl) rfl (flt (own_nlt (a := 64) (b := t2) (by omega) (by decide))).2.2.1 ?_
    refine XS.iload X40.here hx rfl (hD 97 rfl) rfl ?_
    refine XS.ifYes X40.here hx rfl (pc0 := 189) (pc' := 207) rfl (hD 98 rfl) rfl (by decide) (by decide) (by decide) ?_
    refine XS.iload X40.here hx rfl (hD 107 rfl) rfl ?_
    refine XS.aloadN X40.here hx rfl (hD 108 rfl) rfl rfl ?_
    exact k))
  obtain ⟨T42, X42, e42, st42⟩ := getF X40 hx hZ hown (host := "") (Or.inl (hw _ (mi 14 rfl))) Via.refl e40 (W0.fld (i := 0) rfl (j := 0) rfl rfl) (g := K41.g) rfl rfl (hD 109 rfl)
  have K43 : Rc K0 T42 (mkF m 223 #[sR r, sR b, sR no, sI (-1), sI 1, sI 2, sI 0, sI 0, sI 0, sI (Int32.ofNat t2), sI 0, sI 0, sI 0, sI 0, sU] [(kR r), (kI 0)]) := fun t k => K41 t (st42 t (by
    refine lenW X42 hx hZ e42 W0 (i := 2) rfl (fun _ q => q) (z := (0 : Int32)) (by decide) (g := (mkF m 213 #[sR r, sR b, sR no, sI (-1), sI 1, sI 2, sI 0, sI 0, sI 0, sI (Int32.ofNat t2), sI 0, sI 0, sI 0, sI 0, sU] [(kR ks), (kI 0)])) rfl rfl (hD 110 rfl) _ ?_
    refine XS.icmpNo X42.here hx rfl (hD 111 rfl) rfl (by decide) ?_
    refine XS.iload X42.here hx rfl (hD 112 rfl) rfl ?_
    refine XS.aloadN X42.here hx rfl (hD 113 rfl) rfl rfl ?_
    refine lenW X42 hx hZ e42 W0 (i := 23) rfl (fun _ q => q) (z := (0 : Int32)) (by decide) (g := (mkF m 220 #[sR r, sR b, sR no, sI (-1), sI 1, sI 2, sI 0, sI 0, sI 0, sI (Int32.ofNat t2), sI 0, sI 0, sI 0, sI 0, sU] [(kR no), (kI 0)])) rfl rfl (hD 114 rfl) _ ?_
    refine XS.iadd X42.here hx rfl (hD 115 rfl) rfl ?_
    refine XS.aloadN X42.here hx rfl (hD 116 rfl) rfl rfl ?_
    exact k))
  obtain ⟨T44, X44, e44, st44⟩ := getF X42 hx hZ hown (host := "") (Or.inl (hw _ (mi 16 rfl))) Via.refl e42 (W0.fld (i := 0) rfl (j := 1) rfl rfl) (g := K43.g) rfl rfl (hD 117 rfl)
  have K45 : Rc K0 T44 (mkF m 321 #[sR r, sR b, sR no, sI (-1), sI 1, sI 2, sI 0, sI 0, sI 0, sI (Int32.ofNat t2), sI 0, sI 0, sI 0, sI 0, sI 0] [(kR r)]) := fun t k => K43 t (st44 t (by
    refine lenW X44 hx hZ e44 W0 (i := 3) rfl (fun _ q => q) (z := (0 : Int32)) (by decide) (g := (mkF m 226 #[sR r, sR b, sR no, sI (-1), sI 1, sI 2, sI 0, sI 0, sI 0, sI (Int32.ofNat t2), sI 0, sI 0, sI 0, sI 0, sU] [(kR rgs), (kI 0)])) rfl rfl (hD 118 rfl) _ ?_
    refine XS.icmpYes X44.here hx rfl (pc0 := 227) (pc' := 244) rfl (hD 119 rfl) rfl (by decide) (by decide) (by decide) ?_
    refine XS.iconst X44.here hx rfl (hD 120 rfl) ?_
    refine XS.istore X44.here hx rfl (hD 121 rfl) rfl (l' := #[sR r, sR b, sR no, sI (-1), sI 1, sI 2, sI 0, sI 0, sI 0, sI (Int32.ofNat t2), sI 0, sI 0, sI 0, sI 0, sI 0]) rfl ?_
    refine XS.iload X44.here hx rfl (hD 122 rfl) rfl ?_
    refine XS.iload X44.here hx rfl (hD 123 rfl) rfl ?_
    refine XS.icmpYes X44.here hx rfl (pc0 := 251) (pc' := 320) rfl (hD 124 rfl) rfl (by decide) (by decide) (by decide) ?_
    refine XS.aloadN X44.here hx rfl (hD 163 rfl) rfl rfl ?_
    exact k))
  obtain ⟨T46, X46, e46, st46⟩ := getF X44 hx hZ hown (host := "") (Or.inl (hw _ (mi 28 rfl))) Via.refl e44 (W0.fld (i := 0) rfl (j := 7) rfl rfl) (g := K45.g) rfl rfl (hD 164 rfl)
  have K47 : Rc K0 T46 (mkF m 332 #[sR r, sR b, sR no, sI (-1), sI 1, sI 2, sI 0, sI 0, sI 0, sI (Int32.ofNat t2), sI 0, sI 0, sI 0, sI 0, sI 0] [(kR b), (kI 0), (kI 2), (kR fac)]) := fun t k => K45 t (st46 t (by
    refine XS.iload X46.here hx rfl (hD 165 rfl) rfl ?_
    refine XS.iload X46.here hx rfl (hD 166 rfl) rfl ?_
    refine XS.iadd X46.here hx rfl (hD 167 rfl) rfl ?_
    refine XS.iload X46.here hx rfl (hD 168 rfl) rfl ?_
    refine XS.aloadN X46.here hx rfl (hD 169 rfl) rfl rfl ?_
    exact k))
  obtain ⟨T48, X48, e48, st48⟩ := getR X46 hx hZ hown (hw _ (mi 108 rfl)) e46 (W0.fld (i := 1) rfl (j := 12) rfl rfl) (g := K47.g) rfl rfl (hD 170 rfl)
  have K49 : Rc K0 T48 (mkF m 336 #[sR r, sR b, sR no, sI (-1), sI 1, sI 2, sI 0, sI 0, sI 0, sI (Int32.ofNat t2), sI 0, sI 0, sI 0, sI 0, sI 0] [(kI 0), (kI 2), (kR fac)]) := fun t k => K47 t (st48 t (XS.iadd X48.here hx rfl (hD 171 rfl) rfl k))
  obtain ⟨T50, h50, L50, X50, e50, N50, W50q, st50⟩ := iasW X48 hx hZ e48 W0 N0 (i := 9) (a := fac) rfl (j := (2 : Int32)) (x := (0 : Int32)) (k := 2) (by decide) (by decide) (by decide) (g := K49.g) rfl rfl (hD 172 rfl)
  have K51 : Rc K0 T50 (mkF m 338 #[sR r, sR b, sR no, sI (-1), sI 1, sI 2, sI 0, sI 0, sI 0, sI (Int32.ofNat t2), sI 0, sI 0, sI 0, sI 0, sI 0] [(kR r)]) := fun t k => K49 t (st50 t (XS.aloadN X50.here hx rfl (hD 173 rfl) rfl rfl k))
  obtain ⟨T52, X52, e52, st52⟩ := getF X50 hx hZ hown (host := "") (Or.inl (hw _ (mi 30 rfl))) Via.refl e50 (W50q.fld (i := 0) rfl (j := 8) rfl rfl) (g := K51.g) rfl rfl (hD 174 rfl)
  have K53 : Rc K0 T52 (mkF m 349 #[sR r, sR b, sR no, sI (-1), sI 1, sI 2, sI 0, sI 0, sI 0, sI (Int32.ofNat t2), sI 0, sI 0, sI 0, sI 0, sI 0] [(kR b), (kI 0), (kI 2), (kR fcm)]) := fun t k => K51 t (st52 t (by
    refine XS.iload X52.here hx rfl (hD 175 rfl) rfl ?_
    refine XS.iload X52.here hx rfl (hD 176 rfl) rfl ?_
    refine XS.iadd X52.here hx rfl (hD 177 rfl) rfl ?_
    refine XS.iload X52.here hx rfl (hD 178 rfl) rfl ?_
    refine XS.aloadN X52.here hx rfl (hD 179 rfl) rfl rfl ?_
    exact k))
  obtain ⟨T54, X54, e54, st54⟩ := getR X52 hx hZ hown (hw _ (mi 109 rfl)) e52 (W50q.fld (i := 1) rfl (j := 13) rfl rfl) (g := K53.g) rfl rfl (hD 180 rfl)
  have K55 : Rc K0 T54 (mkF m 353 #[sR r, sR b, sR no, sI (-1), sI 1, sI 2, sI 0, sI 0, sI 0, sI (Int32.ofNat t2), sI 0, sI 0, sI 0, sI 0, sI 0] [(kI 0), (kI 2), (kR fcm)]) := fun t k => K53 t (st54 t (XS.iadd X54.here hx rfl (hD 181 rfl) rfl k))
  obtain ⟨T56, h56, L56, X56, e56, N56, W56q, st56⟩ := iasW X54 hx hZ e54 W50q N50 (i := 10) (a := fcm) rfl (j := (2 : Int32)) (x := (0 : Int32)) (k := 2) (by decide) (by decide) (by decide) (g := K55.g) rfl rfl (hD 182 rfl)
  have K57 : Rc K0 T56 (mkF m 355 #[sR r, sR b, sR no, sI (-1), sI 1, sI 2, sI 0, sI 0, sI 0, sI (Int32.ofNat t2), sI 0, sI 0, sI 0, sI 0, sI 0] [(kR r)]) := fun t k => K55 t (st56 t (XS.aloadN X56.here hx rfl (hD 183 rfl) rfl rfl k))
  obtain ⟨T58, X58, e58, st58⟩ := getF X56 hx hZ hown (host := "") (Or.inl (hw _ (mi 32 rfl))) Via.refl e56 (W56q.fld (i := 0) rfl (j := 9) rfl rfl) (g := K57.g) rfl rfl (hD 184 rfl)
  have K59 : Rc K0 T58 (mkF m 366 #[sR r, sR b, sR no, sI (-1), sI 1, sI 2, sI 0, sI 0, sI 0, sI (Int32.ofNat t2), sI 0, sI 0, sI 0, sI 0, sI 0] [(kR b), (kI (Int32.ofNat t2)), (kI 2), (kR ftr)]) := fun t k => K57 t (st58 t (by
    refine XS.iload X58.here hx rfl (hD 185 rfl) rfl ?_
    refine XS.iload X58.here hx rfl (hD 186 rfl) rfl ?_
    refine XS.iadd X58.here hx rfl (hD 187 rfl) rfl ?_
    refine XS.iload X58.here hx rfl (hD 188 rfl) rfl ?_
    refine XS.aloadN X58.here hx rfl (hD 189 rfl) rfl rfl ?_
    exact k))
  obtain ⟨T60, X60, e60, st60⟩ := getR X58 hx hZ hown (hw _ (mi 110 rfl)) e58 (W56q.fld (i := 1) rfl (j := 14) rfl rfl) (g := K59.g) rfl rfl (hD 190 rfl)
  have K61 : Rc K0 T60 (mkF m 370 #[sR r, sR b, sR no, sI (-1), sI 1, sI 2, sI 0, sI 0, sI 0, sI (Int32.ofNat t2), sI 0, sI 0, sI 0, sI 0, sI 0] [(kI (Int32.ofNat t2)), (kI 2), (kR ftr)]) := fun t k => K59 t (st60 t (by
    refine XS.iadd X60.here hx rfl (hD 191 rfl) rfl ?_
    show Steps p.tables e below (T60.setTop (mkF m 370 #[sR r, sR b, sR no, sI (-1), sI 1, sI 2, sI 0, sI 0, sI 0, sI (Int32.ofNat t2), sI 0, sI 0, sI 0, sI 0, sI 0] [(kI ((Int32.ofNat t2) + (0 : Int32))), (kI 2), (kR ftr)])) _
    rw [Int32.add_zero]
    exact k))
  obtain ⟨T62, h62, L62, X62, e62, N62, W62q, st62⟩ := iasW X60 hx hZ e60 W56q N56 (i := 11) (a := ftr) rfl (j := (2 : Int32)) (x := (Int32.ofNat t2)) (k := 2) (by decide) (by decide) (by decide) (g := K61.g) rfl rfl (hD 192 rfl)
  have K63 : Rc K0 T62 (mkF m 372 #[sR r, sR b, sR no, sI (-1), sI 1, sI 2, sI 0, sI 0, sI 0, sI (Int32.ofNat t2), sI 0, sI 0, sI 0, sI 0, sI 0] [(kR b)]) := fun t k => K61 t (st62 t (XS.aloadN X62.here hx rfl (hD 193 rfl) rfl rfl k))
  obtain ⟨T64, X64, e64, st64⟩ := getR X62 hx hZ hown (hw _ (mi 114 rfl)) e62 (W62q.fld (i := 1) rfl (j := 5) rfl rfl) (g := K63.g) rfl rfl (hD 194 rfl)
  have K65 : Rc K0 T64 (mkF m 377 #[sR r, sR b, sR no, sI (-1), sI 1, sI 2, sI 0, sI 0, sI 0, sI (Int32.ofNat t2), sI 0, sI 0, sI 0, sI 0, sI 0] [(kR r), (kI 0), (kR ac)]) := fun t k => K63 t (st64 t (by
    refine XS.iconst X64.here hx rfl (hD 195 rfl) ?_
    refine XS.aloadN X64.here hx rfl (hD 196 rfl) rfl rfl ?_
    exact k))
  obtain ⟨T66, X66, e66, st66⟩ := getF X64 hx hZ hown (host := "") (Or.inl (hw _ (mi 34 rfl))) Via.refl e64 (W62q.fld (i := 0) rfl (j := 10) rfl rfl) (g := K65.g) rfl rfl (hD 197 rfl)
  have K67 : Rc K0 T66 (mkF m 383 #[sR r, sR b, sR no, sI (-1), sI 1, sI 2, sI 0, sI 0, sI 0, sI (Int32.ofNat t2), sI 0, sI 0, sI 0, sI 0, sI 0] [(kR b), (kI 0), (kR acs), (kI 0), (kR ac)]) := fun t k => K65 t (st66 t (by
    refine XS.iload X66.here hx rfl (hD 198 rfl) rfl ?_
    refine XS.aloadN X66.here hx rfl (hD 199 rfl) rfl rfl ?_
    exact k))
  obtain ⟨T68, X68, e68, st68⟩ := getR X66 hx hZ hown (hw _ (mi 108 rfl)) e66 (W62q.fld (i := 1) rfl (j := 12) rfl rfl) (g := K67.g) rfl rfl (hD 200 rfl)
  obtain ⟨T69, h69, L69, X69, e69, N69, W69q, st69⟩ := cpW X68 hx hZ hown (hw _ (mi 115 rfl)) (hw _ (mi 118 rfl)) (hw _ (mi 116 rfl)) (hw _ (mi 117 rfl)) e68 W62q N62 (i := 19) (j := 12) rfl rfl rfl (sp := (0 : Int32)) (dp := (0 : Int32)) (nn := (0 : Int32)) (s' := 0) (d' := 0) (k' := 0) (by decide) (by decide) (by decide) (by decide) (by decide) (by decide) (by decide) (by decide) (g := (mkF m 386 #[sR r, sR b, sR no, sI (-1), sI 1, sI 2, sI 0, sI 0, sI 0, sI (Int32.ofNat t2), sI 0, sI 0, sI 0, sI 0, sI 0] [(kI 0), (kI 0), (kR acs), (kI 0), (kR ac)])) rfl (by rw [hml]; rfl) (rest := []) rfl (hD 201 rfl) (by decide) (W0 := 0) (by show 2 * 0 + _ ≤ _; exact Nat.le_of_eq rfl) (by decide)
  have W69 : Wo n0 h69 ((r, oR Z [(kR ks), (kR rgs), (kR ns), (kR fch), (kR fk), (kR kl), (kR frg), (kR fac), (kR fcm), (kR ftr), (kR acs), (kR cms), (kR sus), (kR prb), (kI 1), .null, (kI 1), .null, .null, .null, .null, .null, .null, (kI 0), (kI 0)]) :: (b, oB Z [.null, (kI 0), (kR vv), (kI (Int32.ofNat u)), (kR fa), (kR ac), (kR fc), (kR cm), (kR ft), (kR su), (kR pr), (kI 0), (kI 0), (kI 0), (kI 0), .null]) :: (ks, Ar Z .int 0 g_ks) :: (rgs, Ar Z .int 0 g_rgs) :: (ns, Ar Z .int 16 g_ns) :: (fch, Ar Z .int 17 g_fch) :: (fk, Ar Z .int 17 g_fk) :: (kl, Ar Z .int 16 g_kl) :: (frg, Ar Z .int 17 g_frg) :: (fac, Ar Z .int 17 (upd g_fac 2 (kI 0))) :: (fcm, Ar Z .int 17 (upd g_fcm 2 (kI 0))) :: (ftr, Ar Z .int 17 (upd g_ftr 2 (kI (Int32.ofNat t2)))) :: (acs, Ar Z .int 16 (cpy f4 g_acs 0 0 0)) :: (cms, Ar Z .int 16 g_cms) :: (sus, Ar Z .int 64 g_sus) :: (prb, Ar Z .double 64 g_prb) :: (fa, Ar Z .int 2 f1) :: (fc, Ar Z .int 2 f2) :: (ft, Ar Z .int 2 f3) :: (ac, Ar Z .int 2 f4) :: (cm, Ar Z .int 2 f5) :: (su, Ar Z .int 4 f6) :: (pr, Ar Z .double 4 f7) :: (no, Ar Z .int 0 f8) :: (vv, Ar Z .double 3 g_vv) :: Rr) := W69q
  have K70 : Rc K0 T69 (mkF m 390 #[sR r, sR b, sR no, sI (-1), sI 1, sI 2, sI 0, sI 0, sI 0, sI (Int32.ofNat t2), sI 0, sI 0, sI 0, sI 0, sI 0] [(kR b)]) := fun t k => K67 t (st68 t (st69 t (XS.aloadN X69.here hx rfl (hD 202 rfl) rfl rfl k)))
  obtain ⟨T71, X71, e71, st71⟩ := getR X69 hx hZ hown (hw _ (mi 119 rfl)) e69 (W69.fld (i := 1) rfl (j := 7) rfl rfl) (g := K70.g) rfl rfl (hD 203 rfl)
  have K72 : Rc K0 T71 (mkF m 395 #[sR r, sR b, sR no, sI (-1), sI 1, sI 2, sI 0, sI 0, sI 0, sI (Int32.ofNat t2), sI 0, sI 0, sI 0, sI 0, sI 0] [(kR r), (kI 0), (kR cm)]) := fun t k => K70 t (st71 t (by
    refine XS.iconst X71.here hx rfl (hD 204 rfl) ?_
    refine XS.aloadN X71.here hx rfl (hD 205 rfl) rfl rfl ?_
    exact k))
  obtain ⟨T73, X73, e73, st73⟩ := getF X71 hx hZ hown (host := "") (Or.inl (hw _ (mi 36 rfl))) Via.refl e71 (W69.fld (i := 0) rfl (j := 11) rfl rfl) (g := K72.g) rfl rfl (hD 206 rfl)
  have K74 : Rc K0 T73 (mkF m 401 #[sR r, sR b, sR no, sI (-1), sI 1, sI 2, sI 0, sI 0, sI 0, sI (Int32.ofNat t2), sI 0, sI 0, sI 0, sI 0, sI 0] [(kR b), (kI 0), (kR cms), (kI 0), (kR cm)]) := fun t k => K72 t (st73 t (by
    refine XS.iload X73.here hx rfl (hD 207 rfl) rfl ?_
    refine XS.aloadN X73.here hx rfl (hD 208 rfl) rfl rfl ?_
    exact k))
  obtain ⟨T75, X75, e75, st75⟩ := getR X73 hx hZ hown (hw _ (mi 109 rfl)) e73 (W69.fld (i := 1) rfl (j := 13) rfl rfl) (g := K74.g) rfl rfl (hD 209 rfl)
  obtain ⟨T76, h76, L76, X76, e76, N76, W76q, st76⟩ := cpW X75 hx hZ hown (hw _ (mi 115 rfl)) (hw _ (mi 118 rfl)) (hw _ (mi 116 rfl)) (hw _ (mi 117 rfl)) e75 W69 N69 (i := 20) (j := 13) rfl rfl rfl (sp := (0 : Int32)) (dp := (0 : Int32)) (nn := (0 : Int32)) (s' := 0) (d' := 0) (k' := 0) (by decide) (by decide) (by decide) (by decide) (by decide) (by decide) (by decide) (by decide) (g := (mkF m 404 #[sR r, sR b, sR no, sI (-1), sI 1, sI 2, sI 0, sI 0, sI 0, sI (Int32.ofNat t2), sI 0, sI 0, sI 0, sI 0, sI 0] [(kI 0), (kI 0), (kR cms), (kI 0), (kR cm)])) rfl (by rw [hml]; rfl) (rest := []) rfl (hD 210 rfl) (by decide) (W0 := 0) (by show 2 * 0 + _ ≤ _; exact Nat.le_of_eq rfl) (by decide)
  have K77 : Rc K0 T76 (mkF m 408 #[sR r, sR b, sR no, sI (-1), sI 1, sI 2, sI 0, sI 0, sI 0, sI (Int32.ofNat t2), sI 0, sI 0, sI 0, sI 0, sI 0] [(kR b)]) := fun t k => K74 t (st75 t (st76 t (XS.aloadN X76.here hx rfl (hD 211 rfl) rfl rfl k)))
  obtain ⟨T78, X78, e78, st78⟩ := getR X76 hx hZ hown (hw _ (mi 120 rfl)) e76 (W76q.fld (i := 1) rfl (j := 9) rfl rfl) (g := K77.g) rfl rfl (hD 212 rfl)
  have K79 : Rc K0 T78 (mkF m 413 #[sR r, sR b, sR no, sI (-1), sI 1, sI 2, sI 0, sI 0, sI 0, sI (Int32.ofNat t2), sI 0, sI 0, sI 0, sI 0, sI 0] [(kR r), (kI 0), (kR su)]) := fun t k => K77 t (st78 t (by
    refine XS.iconst X78.here hx rfl (hD 213 rfl) ?_
    refine XS.aloadN X78.here hx rfl (hD 214 rfl) rfl rfl ?_
    exact k))
  obtain ⟨T80, X80, e80, st80⟩ := getF X78 hx hZ hown (host := "") (Or.inl (hw _ (mi 38 rfl))) Via.refl e78 (W76q.fld (i := 0) rfl (j := 12) rfl rfl) (g := K79.g) rfl rfl (hD 215 rfl)
  have K81 : Rc K0 T80 (mkF m 419 #[sR r, sR b, sR no, sI (-1), sI 1, sI 2, sI 0, sI 0, sI 0, sI (Int32.ofNat t2), sI 0, sI 0, sI 0, sI 0, sI 0] [(kR b), (kI (Int32.ofNat t2)), (kR sus), (kI 0), (kR su)]) := fun t k => K79 t (st80 t (by
    refine XS.iload X80.here hx rfl (hD 216 rfl) rfl ?_
    refine XS.aloadN X80.here hx rfl (hD 217 rfl) rfl rfl ?_
    exact k))
  obtain ⟨T82, X82, e82, st82⟩ := getR X80 hx hZ hown (hw _ (mi 110 rfl)) e80 (W76q.fld (i := 1) rfl (j := 14) rfl rfl) (g := K81.g) rfl rfl (hD 218 rfl)
  obtain ⟨T83, h83, L83, X83, e83, N83, W83q, st83⟩ := cpW X82 hx hZ hown (hw _ (mi 115 rfl)) (hw _ (mi 118 rfl)) (hw _ (mi 116 rfl)) (hw _ (mi 117 rfl)) e82 W76q N76 (i := 21) (j := 14) rfl rfl rfl (sp := (0 : Int32)) (dp := (Int32.ofNat t2)) (nn := (0 : Int32)) (s' := 0) (d' := t2) (k' := 0) (by decide) (own_nn (by omega)) (by decide) (by decide) (own_tn (by omega)) (by decide) (by omega) (by omega) (g := (mkF m 422 #[sR r, sR b, sR no, sI (-1), sI 1, sI 2, sI 0, sI 0, sI 0, sI (Int32.ofNat t2), sI 0, sI 0, sI 0, sI 0, sI 0] [(kI 0), (kI (Int32.ofNat t2)), (kR sus), (kI 0), (kR su)])) rfl (by rw [hml]; rfl) (rest := []) rfl (hD 219 rfl) (by decide) (W0 := 0) (by show 2 * 0 + _ ≤ _; exact Nat.le_of_eq rfl) (by decide)
  have K84 : Rc K0 T83 (mkF m 426 #[sR r, sR b, sR no, sI (-1), sI 1, sI 2, sI 0, sI 0, sI 0, sI (Int32.ofNat t2), sI 0, sI 0, sI 0, sI 0, sI 0] [(kR b)]) := fun t k => K81 t (st82 t (st83 t (XS.aloadN X83.here hx rfl (hD 220 rfl) rfl rfl k)))
  obtain ⟨T85, X85, e85, st85⟩ := getR X83 hx hZ hown (hw _ (mi 104 rfl)) e83 (W83q.fld (i := 1) rfl (j := 0) rfl rfl) (g := K84.g) rfl rfl (hD 221 rfl)
  have K86 : Rc K0 T85 (mkF m 454 #[sR r, sR b, sR no, sI (-1), sI 1, sI 2, sI 0, sI 0, sI 0, sI (Int32.ofNat t2), sI 0, sI 0, sI 0, sI 0, sI 0] [(kR r), (kI 0), (kR no)]) := fun t k => K84 t (st85 t (by
    refine XS.ifnullYes X85.here hx rfl (pc0 := 429) (pc' := 451) rfl (hD 222 rfl) rfl (by decide) (by decide) ?_
    refine XS.aloadN X85.here hx rfl (hD 223 rfl) rfl rfl ?_
    refine XS.iconst X85.here hx rfl (hD 224 rfl) ?_
    refine XS.aloadN X85.here hx rfl (hD 225 rfl) rfl rfl ?_
    exact k))
  obtain ⟨T87, X87, e87, st87⟩ := getF X85 hx hZ hown (host := "") (Or.inl (hw _ (mi 16 rfl))) Via.refl e85 (W83q.fld (i := 0) rfl (j := 1) rfl rfl) (g := K86.g) rfl rfl (hD 226 rfl)
  have K88 : Rc K0 T87 (mkF m 461 #[sR r, sR b, sR no, sI (-1), sI 1, sI 2, sI 0, sI 0, sI 0, sI (Int32.ofNat t2), sI 0, sI 0, sI 0, sI 0, sI 0] [(kI 0), (kI 0), (kR rgs), (kI 0), (kR no)]) := fun t k => K86 t (st87 t (by
    refine XS.iload X87.here hx rfl (hD 227 rfl) rfl ?_
    refine XS.aloadN X87.here hx rfl (hD 228 rfl) rfl rfl ?_
    refine lenW X87 hx hZ e87 W83q (i := 23) rfl (fun _ q => q) (z := (0 : Int32)) (by decide) (g := (mkF m 460 #[sR r, sR b, sR no, sI (-1), sI 1, sI 2, sI 0, sI 0, sI 0, sI (Int32.ofNat t2), sI 0, sI 0, sI 0, sI 0, sI 0] [(kR no), (kI 0), (kR rgs), (kI 0), (kR no)])) rfl rfl (hD 229 rfl) _ ?_
    exact k))
  obtain ⟨T89, h89, L89, X89, e89, N89, W89q, st89⟩ := cpW X87 hx hZ hown (hw _ (mi 115 rfl)) (hw _ (mi 118 rfl)) (hw _ (mi 116 rfl)) (hw _ (mi 117 rfl)) e87 W83q N83 (i := 23) (j := 3) rfl rfl rfl (sp := (0 : Int32)) (dp := (0 : Int32)) (nn := (0 : Int32)) (s' := 0) (d' := 0) (k' := 0) (by decide) (by decide) (by decide) (by decide) (by decide) (by decide) (by decide) (by decide) (g := K88.g) rfl (by rw [hml]; rfl) (rest := []) rfl (hD 230 rfl) (by decide) (W0 := 0) (by show 2 * 0 + _ ≤ _; exact Nat.le_of_eq rfl) (by decide)
  have K90 : Rc K0 T89 (mkF m 465 #[sR r, sR b, sR no, sI (-1), sI 1, sI 2, sI 0, sI 0, sI 0, sI (Int32.ofNat t2), sI 0, sI 0, sI 0, sI 0, sI 0] [(kR r)]) := fun t k => K88 t (st89 t (XS.aloadN X89.here hx rfl (hD 231 rfl) rfl rfl k))
  obtain ⟨T91, X91, e91, st91⟩ := getF X89 hx hZ hown (host := "") (Or.inl (hw _ (mi 18 rfl))) Via.refl e89 (W89q.fld (i := 0) rfl (j := 2) rfl rfl) (g := K90.g) rfl rfl (hD 232 rfl)
  have K92 : Rc K0 T91 (mkF m 471 #[sR r, sR b, sR no, sI (-1), sI 1, sI 2, sI 0, sI 0, sI 0, sI (Int32.ofNat t2), sI 0, sI 0, sI 0, sI 0, sI 0] [(kI (-1)), (kI 1), (kR ns)]) := fun t k => K90 t (st91 t (by
    refine XS.iload X91.here hx rfl (hD 233 rfl) rfl ?_
    refine XS.iloadN X91.here hx rfl (hD 234 rfl) rfl ?_
    exact k))
  obtain ⟨T93, h93, L93, X93, e93, N93, W93q, st93⟩ := iasW X91 hx hZ e91 W89q N89 (i := 4) (a := ns) rfl (j := (1 : Int32)) (x := (-1 : Int32)) (k := 1) (by decide) (by decide) (by decide) (g := K92.g) rfl rfl (hD 235 rfl)
  have W93 : Wo n0 h93 ((r, oR Z [(kR ks), (kR rgs), (kR ns), (kR fch), (kR fk), (kR kl), (kR frg), (kR fac), (kR fcm), (kR ftr), (kR acs), (kR cms), (kR sus), (kR prb), (kI 1), .null, (kI 1), .null, .null, .null, .null, .null, .null, (kI 0), (kI 0)]) :: (b, oB Z [.null, (kI 0), (kR vv), (kI (Int32.ofNat u)), (kR fa), (kR ac), (kR fc), (kR cm), (kR ft), (kR su), (kR pr), (kI 0), (kI 0), (kI 0), (kI 0), .null]) :: (ks, Ar Z .int 0 g_ks) :: (rgs, Ar Z .int 0 (cpy f8 g_rgs 0 0 0)) :: (ns, Ar Z .int 16 (upd g_ns 1 (kI (-1)))) :: (fch, Ar Z .int 17 g_fch) :: (fk, Ar Z .int 17 g_fk) :: (kl, Ar Z .int 16 g_kl) :: (frg, Ar Z .int 17 g_frg) :: (fac, Ar Z .int 17 (upd g_fac 2 (kI 0))) :: (fcm, Ar Z .int 17 (upd g_fcm 2 (kI 0))) :: (ftr, Ar Z .int 17 (upd g_ftr 2 (kI (Int32.ofNat t2)))) :: (acs, Ar Z .int 16 (cpy f4 g_acs 0 0 0)) :: (cms, Ar Z .int 16 (cpy f5 g_cms 0 0 0)) :: (sus, Ar Z .int 64 (cpy f6 g_sus 0 t2 0)) :: (prb, Ar Z .double 64 g_prb) :: (fa, Ar Z .int 2 f1) :: (fc, Ar Z .int 2 f2) :: (ft, Ar Z .int 2 f3) :: (ac, Ar Z .int 2 f4) :: (cm, Ar Z .int 2 f5) :: (su, Ar Z .int 4 f6) :: (pr, Ar Z .double 4 f7) :: (no, Ar Z .int 0 f8) :: (vv, Ar Z .double 3 g_vv) :: Rr) := W93q
  have K94 : Rc K0 T93 (mkF m 473 #[sR r, sR b, sR no, sI (-1), sI 1, sI 2, sI 0, sI 0, sI 0, sI (Int32.ofNat t2), sI 0, sI 0, sI 0, sI 0, sI 0] [(kR r)]) := fun t k => K92 t (st93 t (XS.aloadN X93.here hx rfl (hD 236 rfl) rfl rfl k))
  obtain ⟨T95, X95, e95, st95⟩ := getF X93 hx hZ hown (host := "") (Or.inl (hw _ (mi 24 rfl))) Via.refl e93 (W93.fld (i := 0) rfl (j := 5) rfl rfl) (g := K94.g) rfl rfl (hD 237 rfl)
  have K96 : Rc K0 T95 (mkF m 479 #[sR r, sR b, sR no, sI (-1), sI 1, sI 2, sI 0, sI 0, sI 0, sI (Int32.ofNat t2), sI 0, sI 0, sI 0, sI 0, sI 0] [(kR b), (kI 1), (kR kl)]) := fun t k => K94 t (st95 t (by
    refine XS.iload X95.here hx rfl (hD 238 rfl) rfl ?_
    refine XS.aloadN X95.here hx rfl (hD 239 rfl) rfl rfl ?_
    exact k))
  obtain ⟨T97, X97, e97, st97⟩ := getR X95 hx hZ hown (hw _ (mi 104 rfl)) e95 (W93.fld (i := 1) rfl (j := 0) rfl rfl) (g := K96.g) rfl rfl (hD 240 rfl)
  have K98 : Rc K0 T97 (mkF m 494 #[sR r, sR b, sR no, sI (-1), sI 1, sI 2, sI 0, sI 0, sI 0, sI (Int32.ofNat t2), sI 0, sI 0, sI 0, sI 0, sI 0] [(kI (-1)), (kI 1), (kR kl)]) := fun t k => K96 t (st97 t (by
    refine XS.ifnonnullNo X97.here hx rfl (hD 241 rfl) rfl ?_
    refine XS.iconst X97.here hx rfl (hD 242 rfl) ?_
    refine XS.goto X97.here hx rfl (pc0 := 486) (pc' := 494) rfl (hD 243 rfl) (by decide) (by decide) ?_
    exact k))
  obtain ⟨T99, h99, L99, X99, e99, N99, W99q, st99⟩ := iasW X97 hx hZ e97 W93 N93 (i := 7) (a := kl) rfl (j := (1 : Int32)) (x := (-1 : Int32)) (k := 1) (by decide) (by decide) (by decide) (g := K98.g) rfl rfl (hD 244 rfl)
  have K100 : Rc K0 T99 (mkF m 496 #[sR r, sR b, sR no, sI (-1), sI 1, sI 2, sI 0, sI 0, sI 0, sI (Int32.ofNat t2), sI 0, sI 0, sI 0, sI 0, sI 0] [(kR r)]) := fun t k => K98 t (st99 t (XS.aloadN X99.here hx rfl (hD 245 rfl) rfl rfl k))
  obtain ⟨T101, X101, e101, st101⟩ := getF X99 hx hZ hown (host := "") (Or.inl (hw _ (mi 20 rfl))) Via.refl e99 (W99q.fld (i := 0) rfl (j := 3) rfl rfl) (g := K100.g) rfl rfl (hD 246 rfl)
  have K102 : Rc K0 T101 (mkF m 508 #[sR r, sR b, sR no, sI (-1), sI 1, sI 2, sI 0, sI 0, sI 0, sI (Int32.ofNat t2), sI 0, sI 0, sI 0, sI 0, sI 0] [(kI 2), (kI 2), (kR fch)]) := fun t k => K100 t (st101 t (by
    refine XS.iload X101.here hx rfl (hD 247 rfl) rfl ?_
    refine XS.iconst X101.here hx rfl (hD 248 rfl) ?_
    refine XS.iadd X101.here hx rfl (hD 249 rfl) rfl ?_
    refine XS.iload X101.here hx rfl (hD 250 rfl) rfl ?_
    refine XS.iload X101.here hx rfl (hD 251 rfl) rfl ?_
    refine XS.iadd X101.here hx rfl (hD 252 rfl) rfl ?_
    exact k))
  obtain ⟨T103, h103, L103, X103, e103, N103, W103q, st103⟩ := iasW X101 hx hZ e101 W99q N99 (i := 5) (a := fch) rfl (j := (2 : Int32)) (x := (2 : Int32)) (k := 2) (by decide) (by decide) (by decide) (g := K102.g) rfl rfl (hD 253 rfl)
  have K104 : Rc K0 T103 (mkF m 510 #[sR r, sR b, sR no, sI (-1), sI 1, sI 2, sI 0, sI 0, sI 0, sI (Int32.ofNat t2), sI 0, sI 0, sI 0, sI 0, sI 0] [(kR r)]) := fun t k => K102 t (st103 t (XS.aloadN X103.here hx rfl (hD 254 rfl) rfl rfl k))
  obtain ⟨T105, X105, e105, st105⟩ := getF X103 hx hZ hown (host := "") (Or.inl (hw _ (mi 22 rfl))) Via.refl e103 (W103q.fld (i := 0) rfl (j := 4) rfl rfl) (g := K104.g) rfl rfl (hD 255 rfl)
  have K106 : Rc K0 T105 (mkF m 519 #[sR r, sR b, sR no, sI (-1), sI 1, sI 2, sI 0, sI 0, sI 0, sI (Int32.ofNat t2), sI 0, sI 0, sI 0, sI 0, sI 0] [(kI 0), (kI 2), (kR fk)]) := fun t k => K104 t (st105 t (by
    refine XS.iload X105.here hx rfl (hD 256 rfl) rfl ?_
    refine XS.iconst X105.here hx rfl (hD 257 rfl) ?_
    refine XS.iadd X105.here hx rfl (hD 258 rfl) rfl ?_
    refine XS.iload X105.here hx rfl (hD 259 rfl) rfl ?_
    exact k))
  obtain ⟨T107, h107, L107, X107, e107, N107, W107q, st107⟩ := iasW X105 hx hZ e105 W103q N103 (i := 6) (a := fk) rfl (j := (2 : Int32)) (x := (0 : Int32)) (k := 2) (by decide) (by decide) (by decide) (g := K106.g) rfl rfl (hD 260 rfl)
  have K108 : Rc K0 T107 (mkF m 521 #[sR r, sR b, sR no, sI (-1), sI 1, sI 2, sI 0, sI 0, sI 0, sI (Int32.ofNat t2), sI 0, sI 0, sI 0, sI 0, sI 0] [(kR r)]) := fun t k => K106 t (st107 t (XS.aloadN X107.here hx rfl (hD 261 rfl) rfl rfl k))
  obtain ⟨T109, X109, e109, st109⟩ := getF X107 hx hZ hown (host := "") (Or.inl (hw _ (mi 26 rfl))) Via.refl e107 (W107q.fld (i := 0) rfl (j := 6) rfl rfl) (g := K108.g) rfl rfl (hD 262 rfl)
  have K110 : Rc K0 T109 (mkF m 533 #[sR r, sR b, sR no, sI (-1), sI 1, sI 2, sI 0, sI 0, sI 0, sI (Int32.ofNat t2), sI 0, sI 0, sI 0, sI 0, sI 0] [(kI 0), (kI 2), (kR frg)]) := fun t k => K108 t (st109 t (by
    refine XS.iload X109.here hx rfl (hD 263 rfl) rfl ?_
    refine XS.iconst X109.here hx rfl (hD 264 rfl) ?_
    refine XS.iadd X109.here hx rfl (hD 265 rfl) rfl ?_
    refine XS.iload X109.here hx rfl (hD 266 rfl) rfl ?_
    refine XS.aloadN X109.here hx rfl (hD 267 rfl) rfl rfl ?_
    refine lenW X109 hx hZ e109 W107q (i := 23) rfl (fun _ q => q) (z := (0 : Int32)) (by decide) (g := (mkF m 531 #[sR r, sR b, sR no, sI (-1), sI 1, sI 2, sI 0, sI 0, sI 0, sI (Int32.ofNat t2), sI 0, sI 0, sI 0, sI 0, sI 0] [(kR no), (kI 0), (kI 2), (kR frg)])) rfl rfl (hD 268 rfl) _ ?_
    refine XS.iadd X109.here hx rfl (hD 269 rfl) rfl ?_
    exact k))
  obtain ⟨T111, h111, L111, X111, e111, N111, W111q, st111⟩ := iasW X109 hx hZ e109 W107q N107 (i := 8) (a := frg) rfl (j := (2 : Int32)) (x := (0 : Int32)) (k := 2) (by decide) (by decide) (by decide) (g := K110.g) rfl rfl (hD 270 rfl)
  have W111 : Wo n0 h111 ((r, oR Z [(kR ks), (kR rgs), (kR ns), (kR fch), (kR fk), (kR kl), (kR frg), (kR fac), (kR fcm), (kR ftr), (kR acs), (kR cms), (kR sus), (kR prb), (kI 1), .null, (kI 1), .null, .null, .null, .null, .null, .null, (kI 0), (kI 0)]) :: (b, oB Z [.null, (kI 0), (kR vv), (kI (Int32.ofNat u)), (kR fa), (kR ac), (kR fc), (kR cm), (kR ft), (kR su), (kR pr), (kI 0), (kI 0), (kI 0), (kI 0), .null]) :: (ks, Ar Z .int 0 g_ks) :: (rgs, Ar Z .int 0 (cpy f8 g_rgs 0 0 0)) :: (ns, Ar Z .int 16 (upd g_ns 1 (kI (-1)))) :: (fch, Ar Z .int 17 (upd g_fch 2 (kI 2))) :: (fk, Ar Z .int 17 (upd g_fk 2 (kI 0))) :: (kl, Ar Z .int 16 (upd g_kl 1 (kI (-1)))) :: (frg, Ar Z .int 17 (upd g_frg 2 (kI 0))) :: (fac, Ar Z .int 17 (upd g_fac 2 (kI 0))) :: (fcm, Ar Z .int 17 (upd g_fcm 2 (kI 0))) :: (ftr, Ar Z .int 17 (upd g_ftr 2 (kI (Int32.ofNat t2)))) :: (acs, Ar Z .int 16 (cpy f4 g_acs 0 0 0)) :: (cms, Ar Z .int 16 (cpy f5 g_cms 0 0 0)) :: (sus, Ar Z .int 64 (cpy f6 g_sus 0 t2 0)) :: (prb, Ar Z .double 64 g_prb) :: (fa, Ar Z .int 2 f1) :: (fc, Ar Z .int 2 f2) :: (ft, Ar Z .int 2 f3) :: (ac, Ar Z .int 2 f4) :: (cm, Ar Z .int 2 f5) :: (su, Ar Z .int 4 f6) :: (pr, Ar Z .double 4 f7) :: (no, Ar Z .int 0 f8) :: (vv, Ar Z .double 3 g_vv) :: Rr) := W111q
  have K112 : Rc K0 T111 (mkF m 536 #[sR r, sR b, sR no, sI (-1), sI 1, sI 2, sI 0, sI 0, sI 0, sI (Int32.ofNat t2), sI 0, sI 0, sI 0, sI 0, sI 0] [(kR r), (kR r)]) := fun t k => K110 t (st111 t (by
    refine XS.aloadN X111.here hx rfl (hD 271 rfl) rfl rfl ?_
    refine XS.dup X111.here hx rfl (hD 272 rfl) rfl rfl ?_
    exact k))
  obtain ⟨T113, X113, e113, st113⟩ := getF X111 hx hZ hown (host := "") (Or.inl (hw _ (mi 101 rfl))) Via.refl e111 (W111.fld (i := 0) rfl (j := 14) rfl rfl) (g := K112.g) rfl rfl (hD 273 rfl)
  have K114 : Rc K0 T113 (mkF m 541 #[sR r, sR b, sR no, sI (-1), sI 1, sI 2, sI 0, sI 0, sI 0, sI (Int32.ofNat t2), sI 0, sI 0, sI 0, sI 0, sI 0] [(kI 2), (kR r)]) := fun t k => K112 t (st113 t (by
    refine XS.iconst X113.here hx rfl (hD 274 rfl) ?_
    refine XS.iadd X113.here hx rfl (hD 275 rfl) rfl ?_
    exact k))
  obtain ⟨T115, h115, L115, X115, e115, N115, W115q, st115⟩ := putW X113 hx hZ hown (host := "") (Or.inl (hw _ (mi 101 rfl))) e113 W111 N111 (own_dR hw) (Or.inl (hw _ (mi 102 rfl))) (hw _ (mi 6 rfl)) (ty := .int) (by decide +kernel) (i := 0) (a := r) rfl (j := 14) rfl rfl (v := (.int (2 : Int32))) rfl rfl (g := K114.g) rfl rfl (hD 276 rfl)
  have K116 : Rc K0 T115 (mkF m 584 #[sR r, sR b, sR no, sI (-1), sI 1, sI 2, sI 0, sI 0, sI 0, sI (Int32.ofNat t2), sI 0, sI 0, sI 0, sI 0, sI 0] [(kR r)]) := fun t k => K114 t (st115 t (by
    refine XS.iload X115.here hx rfl (hD 277 rfl) rfl ?_
    refine XS.ifYes X115.here hx rfl (pc0 := 546) (pc' := 583) rfl (hD 278 rfl) rfl (by decide) (by decide) (by decide) ?_
    refine XS.aloadN X115.here hx rfl (hD 297 rfl) rfl rfl ?_
    exact k))
  obtain ⟨T117, X117, e117, st117⟩ := getF X115 hx hZ hown (host := "") (Or.inl (hw _ (mi 105 rfl))) Via.refl e115 (W115q.fld (i := 0) rfl (j := 15) rfl rfl) (g := K116.g) rfl rfl (hD 298 rfl)
  have K118 : Rc K0 T117 (mkF m 591 #[sR r, sR b, sR no, sI (-1), sI 1, sI 2, sI 0, sI 0, sI 0, sI (Int32.ofNat t2), sI 0, sI 0, sI 0, sI 0, sI 0] [(kR r)]) := fun t k => K116 t (st117 t (by
    refine XS.ifnonnullNo X117.here hx rfl (hD 299 rfl) rfl ?_
    refine XS.aloadN X117.here hx rfl (hD 300 rfl) rfl rfl ?_
    exact k))
  have W119 : Wo n0 h115 ((r, oR Z [(kR ks), (kR rgs), (kR ns), (kR fch), (kR fk), (kR kl), (kR frg), (kR fac), (kR fcm), (kR ftr), (kR acs), (kR cms), (kR sus), (kR prb), (kI 2), .null, (kI 1), .null, .null, .null, .null, .null, .null, (kI 0), (kI 0)]) :: (prb, Ar Z .double 64 g_prb) :: (b, oB Z [.null, (kI 0), (kR vv), (kI (Int32.ofNat u)), (kR fa), (kR ac), (kR fc), (kR cm), (kR ft), (kR su), (kR pr), (kI 0), (kI 0), (kI 0), (kI 0), .null]) :: (ks, Ar Z .int 0 g_ks) :: (rgs, Ar Z .int 0 (cpy f8 g_rgs 0 0 0)) :: (ns, Ar Z .int 16 (upd g_ns 1 (kI (-1)))) :: (fch, Ar Z .int 17 (upd g_fch 2 (kI 2))) :: (fk, Ar Z .int 17 (upd g_fk 2 (kI 0))) :: (kl, Ar Z .int 16 (upd g_kl 1 (kI (-1)))) :: (frg, Ar Z .int 17 (upd g_frg 2 (kI 0))) :: (fac, Ar Z .int 17 (upd g_fac 2 (kI 0))) :: (fcm, Ar Z .int 17 (upd g_fcm 2 (kI 0))) :: (ftr, Ar Z .int 17 (upd g_ftr 2 (kI (Int32.ofNat t2)))) :: (acs, Ar Z .int 16 (cpy f4 g_acs 0 0 0)) :: (cms, Ar Z .int 16 (cpy f5 g_cms 0 0 0)) :: (sus, Ar Z .int 64 (cpy f6 g_sus 0 t2 0)) :: (fa, Ar Z .int 2 f1) :: (fc, Ar Z .int 2 f2) :: (ft, Ar Z .int 2 f3) :: (ac, Ar Z .int 2 f4) :: (cm, Ar Z .int 2 f5) :: (su, Ar Z .int 4 f6) :: (pr, Ar Z .double 4 f7) :: (no, Ar Z .int 0 f8) :: (vv, Ar Z .double 3 g_vv) :: Rr) := Wo.pick W115q [0, 15, 1, 2, 3, 4, 5, 6, 7, 8, 9, 10, 11, 12, 13, 14, 16, 17, 18, 19, 20, 21, 22, 23, 24] 25 (by decide +kernel) rfl
  obtain ⟨cq120, q120, q120'⟩ := (W119.exa (i := 0) rfl).cell
  obtain ⟨_, _, ⟨T120, L120, k120, n120⟩, -, X120, ⟨Lc120, hQ120, l120, y120, z120⟩, st120⟩ := Jvm.OwnKit.privB X117 hx (y := y_sr) hown (mvT hZ (hw _ (mi 131 rfl))) (mvT hZ (hw _ (mi 132 rfl))) (mvT hZ (hw _ (mi 6 rfl))) (Cond.privateMethod_at (mvP hZ (hw _ (mi 133 rfl)) (args := #[]))) (mvT hZ (hw _ (mi 134 rfl))) (by decide) (backOf (W := 0) (rmSR1 l Z a0 hw [] r ks rgs ns fch fk kl frg fac fcm ftr acs cms sus prb (2 : Int32) g_prb ((b, oB Z [.null, (kI 0), (kR vv), (kI (Int32.ofNat u)), (kR fa), (kR ac), (kR fc), (kR cm), (kR ft), (kR su), (kR pr), (kI 0), (kI 0), (kI 0), (kI 0), .null]) :: (ks, Ar Z .int 0 g_ks) :: (rgs, Ar Z .int 0 (cpy f8 g_rgs 0 0 0)) :: (ns, Ar Z .int 16 (upd g_ns 1 (kI (-1)))) :: (fch, Ar Z .int 17 (upd g_fch 2 (kI 2))) :: (fk, Ar Z .int 17 (upd g_fk 2 (kI 0))) :: (kl, Ar Z .int 16 (upd g_kl 1 (kI (-1)))) :: (frg, Ar Z .int 17 (upd g_frg 2 (kI 0))) :: (fac, Ar Z .int 17 (upd g_fac 2 (kI 0))) :: (fcm, Ar Z .int 17 (upd g_fcm 2 (kI 0))) :: (ftr, Ar Z .int 17 (upd g_ftr 2 (kI (Int32.ofNat t2)))) :: (acs, Ar Z .int 16 (cpy f4 g_acs 0 0 0)) :: (cms, Ar Z .int 16 (cpy f5 g_cms 0 0 0)) :: (sus, Ar Z .int 64 (cpy f6 g_sus 0 t2 0)) :: (fa, Ar Z .int 2 f1) :: (fc, Ar Z .int 2 f2) :: (ft, Ar Z .int 2 f3) :: (ac, Ar Z .int 2 f4) :: (cm, Ar Z .int 2 f5) :: (su, Ar Z .int 4 f6) :: (pr, Ar Z .double 4 f7) :: (no, Ar Z .int 0 f8) :: (vv, Ar Z .double 3 g_vv) :: Rr) h115 n0 W119) hZ (hw _ (mi 134 rfl)) (hw _ (mi 7 rfl)) (by decide) (by decide)) (g := K118.g) rfl (by rw [hml]; rfl) (Steps.refl _) (a := r) (by rw [e117]; exact q120) q120' (argsL := []) (rest := []) (lenOf pd_sr rfl) rfl (by show 2 * 0 + _ ≤ _; exact Nat.le_of_eq rfl) (hD 301 rfl) (fun _ _ => ⟨rfl, e117, (by decide : 0 + 8 ≤ _), (by decide : 0 + 92 ≤ _)⟩)
  dsimp only [Pt.U, Pt.locs, Pt.cells, Pt.slots] at X120 l120 y120 z120 st120 hQ120
  subst l120 y120 z120
  obtain ⟨a50_120, a40_120, a21_120, a18_120, a15_120, a12_120, a9_120, a6_120, rfl, N120q, W120⟩ := hQ120
  have N120 := Fr.app N115 N120q
  have K121 : Rc K0 T120 (mkF m 596 #[sR r, sR b, sR no, sI (-1), sI 1, sI 2, sI 0, sI 0, sI 0, sI (Int32.ofNat t2), sI 0, sI 0, sI 0, sI 0, sI 0] [(kR r), (kR r)]) := fun t k => K118 t (st120.trans (by
    refine XS.aloadN X120.here hx rfl (hD 302 rfl) rfl rfl ?_
    refine XS.aloadN X120.here hx rfl (hD 303 rfl) rfl rfl ?_
    exact k))
  obtain ⟨T122, X122, e122, st122⟩ := getF X120 hx hZ hown (host := "") (Or.inl (hw _ (mi 105 rfl))) Via.refl (rfl : T120.heap = T120.heap) (W120.fld (i := 8) rfl (j := 15) rfl rfl) (g := K121.g) rfl rfl (hD 304 rfl)
  have K123 : Rc K0 T122 (mkF m 600 #[sR r, sR b, sR no, sI (-1), sI 1, sI 2, sI 0, sI 0, sI 0, sI (Int32.ofNat t2), sI 0, sI 0, sI 0, sI 0, sI 0] [(kR r), (kR a6_120), (kR r)]) := fun t k => K121 t (st122 t (XS.aloadN X122.here hx rfl (hD 305 rfl) rfl rfl k))
  obtain ⟨T124, X124, e124, st124⟩ := getF X122 hx hZ hown (host := "") (Or.inl (hw _ (mi 101 rfl))) Via.refl e122 (W120.fld (i := 8) rfl (j := 14) rfl rfl) (g := K123.g) rfl rfl (hD 306 rfl)
  have W125 : Wo n0 T120.heap ((a6_120, Ar Z .int 4 (upd zI 0 (kI 0))) :: (a50_120, Ar Z .double 64 zD) :: (a40_120, Pg Z .double 4 (upd (upd zN 0 (kR prb)) 1 (kR a50_120))) :: (a21_120, Ar Z .int 4 zI) :: (a18_120, Ar Z .int 4 zI) :: (a15_120, Ar Z .int 4 zI) :: (a12_120, Ar Z .int 4 (upd zI 0 (kI (-1)))) :: (a9_120, Ar Z .int 4 (upd zI 0 (kI 0))) :: (r, oR Z [(kR ks), (kR rgs), (kR ns), (kR fch), (kR fk), (kR kl), (kR frg), (kR fac), (kR fcm), (kR ftr), (kR acs), (kR cms), (kR sus), (kR prb), (kI 2), (kR a6_120), (kI 1), (kR a9_120), (kR a12_120), (kR a15_120), (kR a18_120), (kR a21_120), (kR a40_120), (kI 2), (kI 0)]) :: (prb, Ar Z .double 64 g_prb) :: (b, oB Z [.null, (kI 0), (kR vv), (kI (Int32.ofNat u)), (kR fa), (kR ac), (kR fc), (kR cm), (kR ft), (kR su), (kR pr), (kI 0), (kI 0), (kI 0), (kI 0), .null]) :: (ks, Ar Z .int 0 g_ks) :: (rgs, Ar Z .int 0 (cpy f8 g_rgs 0 0 0)) :: (ns, Ar Z .int 16 (upd g_ns 1 (kI (-1)))) :: (fch, Ar Z .int 17 (upd g_fch 2 (kI 2))) :: (fk, Ar Z .int 17 (upd g_fk 2 (kI 0))) :: (kl, Ar Z .int 16 (upd g_kl 1 (kI (-1)))) :: (frg, Ar Z .int 17 (upd g_frg 2 (kI 0))) :: (fac, Ar Z .int 17 (upd g_fac 2 (kI 0))) :: (fcm, Ar Z .int 17 (upd g_fcm 2 (kI 0))) :: (ftr, Ar Z .int 17 (upd g_ftr 2 (kI (Int32.ofNat t2)))) :: (acs, Ar Z .int 16 (cpy f4 g_acs 0 0 0)) :: (cms, Ar Z .int 16 (cpy f5 g_cms 0 0 0)) :: (sus, Ar Z .int 64 (cpy f6 g_sus 0 t2 0)) :: (fa, Ar Z .int 2 f1) :: (fc, Ar Z .int 2 f2) :: (ft, Ar Z .int 2 f3) :: (ac, Ar Z .int 2 f4) :: (cm, Ar Z .int 2 f5) :: (su, Ar Z .int 4 f6) :: (pr, Ar Z .double 4 f7) :: (no, Ar Z .int 0 f8) :: (vv, Ar Z .double 3 g_vv) :: Rr) := Wo.pick W120 [7, 0, 1, 2, 3, 4, 5, 6, 8, 9, 10, 11, 12, 13, 14, 15, 16, 17, 18, 19, 20, 21, 22, 23, 24, 25, 26, 27, 28, 29, 30, 31, 32] 33 (by decide +kernel) rfl
  obtain ⟨_, _, ⟨T126, L126, k126, n126⟩, -, X126, ⟨Lc126, hQ126, l126, y126, z126⟩, st126⟩ := Jvm.LawKit.callS X124 hx (y := y_rm) hown (mvT hZ (hw _ (mi 176 rfl))) (mvT hZ (hw _ (mi 177 rfl))) (mvT hZ (hw _ (mi 7 rfl))) (mvT hZ (hw _ (mi 178 rfl))) (by decide) (backOf (W := 1) (rmRM2 l Z a0 hw [] a6_120 (upd zI 0 (kI 0)) ((a50_120, Ar Z .double 64 zD) :: (a40_120, Pg Z .double 4 (upd (upd zN 0 (kR prb)) 1 (kR a50_120))) :: (a21_120, Ar Z .int 4 zI) :: (a18_120, Ar Z .int 4 zI) :: (a15_120, Ar Z .int 4 zI) :: (a12_120, Ar Z .int 4 (upd zI 0 (kI (-1)))) :: (a9_120, Ar Z .int 4 (upd zI 0 (kI 0))) :: (r, oR Z [(kR ks), (kR rgs), (kR ns), (kR fch), (kR fk), (kR kl), (kR frg), (kR fac), (kR fcm), (kR ftr), (kR acs), (kR cms), (kR sus), (kR prb), (kI 2), (kR a6_120), (kI 1), (kR a9_120), (kR a12_120), (kR a15_120), (kR a18_120), (kR a21_120), (kR a40_120), (kI 2), (kI 0)]) :: (prb, Ar Z .double 64 g_prb) :: (b, oB Z [.null, (kI 0), (kR vv), (kI (Int32.ofNat u)), (kR fa), (kR ac), (kR fc), (kR cm), (kR ft), (kR su), (kR pr), (kI 0), (kI 0), (kI 0), (kI 0), .null]) :: (ks, Ar Z .int 0 g_ks) :: (rgs, Ar Z .int 0 (cpy f8 g_rgs 0 0 0)) :: (ns, Ar Z .int 16 (upd g_ns 1 (kI (-1)))) :: (fch, Ar Z .int 17 (upd g_fch 2 (kI 2))) :: (fk, Ar Z .int 17 (upd g_fk 2 (kI 0))) :: (kl, Ar Z .int 16 (upd g_kl 1 (kI (-1)))) :: (frg, Ar Z .int 17 (upd g_frg 2 (kI 0))) :: (fac, Ar Z .int 17 (upd g_fac 2 (kI 0))) :: (fcm, Ar Z .int 17 (upd g_fcm 2 (kI 0))) :: (ftr, Ar Z .int 17 (upd g_ftr 2 (kI (Int32.ofNat t2)))) :: (acs, Ar Z .int 16 (cpy f4 g_acs 0 0 0)) :: (cms, Ar Z .int 16 (cpy f5 g_cms 0 0 0)) :: (sus, Ar Z .int 64 (cpy f6 g_sus 0 t2 0)) :: (fa, Ar Z .int 2 f1) :: (fc, Ar Z .int 2 f2) :: (ft, Ar Z .int 2 f3) :: (ac, Ar Z .int 2 f4) :: (cm, Ar Z .int 2 f5) :: (su, Ar Z .int 4 f6) :: (pr, Ar Z .double 4 f7) :: (no, Ar Z .int 0 f8) :: (vv, Ar Z .double 3 g_vv) :: Rr) T120.heap n0 W125) hZ (hw _ (mi 178 rfl)) (hw _ (mi 7 rfl)) (by decide) (by decide)) (g := (mkF m 603 #[sR r, sR b, sR no, sI (-1), sI 1, sI 2, sI 0, sI 0, sI 0, sI (Int32.ofNat t2), sI 0, sI 0, sI 0, sI 0, sI 0] [(kI 2), (kR a6_120), (kR r)])) rfl (by rw [hml]; rfl) (argsL := [(.ref a6_120), (.int (2 : Int32))]) (rest := [(.ref r)]) (lenOf pd_rm rfl) rfl (by show 2 * 0 + _ ≤ _; exact Nat.le_of_eq rfl) (hD 307 rfl) (fun _ _ => ⟨rfl, e124, (by decide : 8 + 0 ≤ _), (by decide : 92 + 0 ≤ _)⟩)
  dsimp only [Pt.U, Pt.locs, Pt.cells, Pt.slots] at X126 l126 y126 z126 st126 hQ126
  subst l126 y126 z126
  obtain ⟨rfl, N126q, W126⟩ := hQ126
  have N126 := Fr.app N120 N126q
  obtain ⟨T127, h127, L127, X127, e127, N127, W127q, st127⟩ := putW X126 hx hZ hown (host := "") (Or.inl (hw _ (mi 105 rfl))) (rfl : T126.heap = T126.heap) W126 N126 (own_dR hw) (Or.inl (hw _ (mi 106 rfl))) (hw _ (mi 6 rfl)) (ty := (.array .int)) (by decide +kernel) (i := 8) (a := r) rfl (j := 15) rfl rfl (v := (.ref a6_120)) rfl rfl (g := (mkF m 606 #[sR r, sR b, sR no, sI (-1), sI 1, sI 2, sI 0, sI 0, sI 0, sI (Int32.ofNat t2), sI 0, sI 0, sI 0, sI 0, sI 0] [(kR a6_120), (kR r)])) rfl rfl (hD 308 rfl)
  have K128 : Rc K0 T127 (mkF m 609 #[sR r, sR b, sR no, sI (-1), sI 1, sI 2, sI 0, sI 0, sI 0, sI (Int32.ofNat t2), sI 0, sI 0, sI 0, sI 0, sI 0] []) := fun t k => K123 t (st124 t (st126 t (st127 t (k))))
  have K129 : Rc K0 T127 (mkF m 610 #[sR r, sR b, sR no, sI (-1), sI 1, sI 2, sI 0, sI 0, sI 0, sI (Int32.ofNat t2), sI 0, sI 0, sI 0, sI 0, sI 0] [(kR r)]) := fun t k => K128 t (XS.aloadN X127.here hx rfl (hD 309 rfl) rfl rfl k)
  obtain ⟨T130, X130, e130, st130⟩ := getF X127 hx hZ hown (host := "") (Or.inl (hw _ (mi 105 rfl))) Via.refl e127 (W127q.fld (i := 8) rfl (j := 15) rfl rfl) (g := K129.g) rfl rfl (hD 310 rfl)
  have K131 : Rc K0 T130 (mkF m 616 #[sR r, sR b, sR no, sI (-1), sI 1, sI 2, sI 0, sI 0, sI 0, sI (Int32.ofNat t2), sI 0, sI 0, sI 0, sI 0, sI 0] [(kI (-1)), (kI 1), (kR a6_120)]) := fun t k => K129 t (st130 t (by
    refine XS.iload X130.here hx rfl (hD 311 rfl) rfl ?_
    refine XS.iconst X130.here hx rfl (hD 312 rfl) ?_
    exact k))
  obtain ⟨T132, h132, L132, X132, e132, N132, W132q, st132⟩ := iasW X130 hx hZ e130 W127q N127 (i := 0) (a := a6_120) rfl (j := (1 : Int32)) (x := (-1 : Int32)) (k := 1) (by decide) (by decide) (by decide) (g := K131.g) rfl rfl (hD 313 rfl)
  have K133 : Rc K0 T132 (mkF m 621 #[sR r, sR b, sR no, sI (-1), sI 1, sI 2, sI 0, sI 0, sI 0, sI (Int32.ofNat t2), sI 0, sI 0, sI 0, sI 0, sI 0] [(kR b), (kI 1), (kR r)]) := fun t k => K131 t (st132 t (by
    refine XS.aloadN X132.here hx rfl (hD 314 rfl) rfl rfl ?_
    refine XS.iload X132.here hx rfl (hD 315 rfl) rfl ?_
    refine XS.aloadN X132.here hx rfl (hD 316 rfl) rfl rfl ?_
    exact k))
  obtain ⟨T134, X134, e134, st134⟩ := getR X132 hx hZ hown (hw _ (mi 179 rfl)) e132 (W132q.fld (i := 10) rfl (j := 2) rfl rfl) (g := K133.g) rfl rfl (hD 317 rfl)
  have K135 : Rc K0 T134 (mkF m 625 #[sR r, sR b, sR no, sI (-1), sI 1, sI 2, sI 0, sI 0, sI 0, sI (Int32.ofNat t2), sI 0, sI 0, sI 0, sI 0, sI 0] [(kR b), (kR vv), (kI 1), (kR r)]) := fun t k => K133 t (st134 t (XS.aloadN X134.here hx rfl (hD 318 rfl) rfl rfl k))
  obtain ⟨T136, X136, e136, st136⟩ := getR X134 hx hZ hown (hw _ (mi 107 rfl)) e134 (W132q.fld (i := 10) rfl (j := 3) rfl rfl) (g := K135.g) rfl rfl (hD 319 rfl)
  have K137 : Rc K0 T136 (mkF m 629 #[sR r, sR b, sR no, sI (-1), sI 1, sI 2, sI 0, sI 0, sI 0, sI (Int32.ofNat t2), sI 0, sI 0, sI 0, sI 0, sI 0] [(kR b), (kI (Int32.ofNat u)), (kR vv), (kI 1), (kR r)]) := fun t k => K135 t (st136 t (XS.aloadN X136.here hx rfl (hD 320 rfl) rfl rfl k))
  obtain ⟨T138, X138, e138, st138⟩ := getR X136 hx hZ hown (hw _ (mi 121 rfl)) e136 (W132q.fld (i := 10) rfl (j := 10) rfl rfl) (g := K137.g) rfl rfl (hD 321 rfl)
  have W139 : Wo n0 h132 ((r, oR Z [(kR ks), (kR rgs), (kR ns), (kR fch), (kR fk), (kR kl), (kR frg), (kR fac), (kR fcm), (kR ftr), (kR acs), (kR cms), (kR sus), (kR prb), (kI 2), (kR a6_120), (kI 1), (kR a9_120), (kR a12_120), (kR a15_120), (kR a18_120), (kR a21_120), (kR a40_120), (kI 2), (kI 0)]) :: (ftr, Ar Z .int 17 (upd g_ftr 2 (kI (Int32.ofNat t2)))) :: (fch, Ar Z .int 17 (upd g_fch 2 (kI 2))) :: (a40_120, Pg Z .double 4 (upd (upd zN 0 (kR prb)) 1 (kR a50_120))) :: (a50_120, Ar Z .double 64 zD) :: (a6_120, Ar Z .int 4 (upd (upd zI 0 (kI 0)) 1 (kI (-1)))) :: (a9_120, Ar Z .int 4 (upd zI 0 (kI 0))) :: (a12_120, Ar Z .int 4 (upd zI 0 (kI (-1)))) :: (a15_120, Ar Z .int 4 zI) :: (a18_120, Ar Z .int 4 zI) :: (a21_120, Ar Z .int 4 zI) :: (vv, Ar Z .double 3 g_vv) :: (pr, Ar Z .double 4 f7) :: (prb, Ar Z .double 64 g_prb) :: (b, oB Z [.null, (kI 0), (kR vv), (kI (Int32.ofNat u)), (kR fa), (kR ac), (kR fc), (kR cm), (kR ft), (kR su), (kR pr), (kI 0), (kI 0), (kI 0), (kI 0), .null]) :: (ks, Ar Z .int 0 g_ks) :: (rgs, Ar Z .int 0 (cpy f8 g_rgs 0 0 0)) :: (ns, Ar Z .int 16 (upd g_ns 1 (kI (-1)))) :: (fk, Ar Z .int 17 (upd g_fk 2 (kI 0))) :: (kl, Ar Z .int 16 (upd g_kl 1 (kI (-1)))) :: (frg, Ar Z .int 17 (upd g_frg 2 (kI 0))) :: (fac, Ar Z .int 17 (upd g_fac 2 (kI 0))) :: (fcm, Ar Z .int 17 (upd g_fcm 2 (kI 0))) :: (acs, Ar Z .int 16 (cpy f4 g_acs 0 0 0)) :: (cms, Ar Z .int 16 (cpy f5 g_cms 0 0 0)) :: (sus, Ar Z .int 64 (cpy f6 g_sus 0 t2 0)) :: (fa, Ar Z .int 2 f1) :: (fc, Ar Z .int 2 f2) :: (ft, Ar Z .int 2 f3) :: (ac, Ar Z .int 2 f4) :: (cm, Ar Z .int 2 f5) :: (su, Ar Z .int 4 f6) :: (no, Ar Z .int 0 f8) :: Rr) := Wo.pick W132q [8, 20, 14, 2, 1, 0, 7, 6, 5, 4, 3, 32, 30, 9, 10, 11, 12, 13, 15, 16, 17, 18, 19, 21, 22, 23, 24, 25, 26, 27, 28, 29, 31] 33 (by decide +kernel) rfl
  obtain ⟨cq140, q140, q140'⟩ := (W139.exa (i := 0) rfl).cell
  obtain ⟨_, _, ⟨T140, L140, k140, n140⟩, -, X140, ⟨Lc140, hQ140, l140, y140, z140⟩, st140⟩ := Jvm.OwnKit.privB X138 hx (y := y_pl) hown (mvT hZ (hw _ (mi 180 rfl))) (mvT hZ (hw _ (mi 181 rfl))) (mvT hZ (hw _ (mi 6 rfl))) (Cond.privateMethod_at (mvP hZ (hw _ (mi 182 rfl)) (args := #[]))) (mvT hZ (hw _ (mi 183 rfl))) (by decide) (backOf (W := 0) (rmPL11 l Z a0 hw [] r ks rgs ns fch fk kl frg fac fcm ftr acs cms sus prb a6_120 a9_120 a12_120 a15_120 a18_120 a21_120 a40_120 a50_120 vv pr u t2 (upd g_ftr 2 (kI (Int32.ofNat t2))) (upd g_fch 2 (kI 2)) (upd (upd zN 0 (kR prb)) 1 (kR a50_120)) zD (upd (upd zI 0 (kI 0)) 1 (kI (-1))) (upd zI 0 (kI 0)) (upd zI 0 (kI (-1))) zI zI zI g_vv f7 ((prb, Ar Z .double 64 g_prb) :: (b, oB Z [.null, (kI 0), (kR vv), (kI (Int32.ofNat u)), (kR fa), (kR ac), (kR fc), (kR cm), (kR ft), (kR su), (kR pr), (kI 0), (kI 0), (kI 0), (kI 0), .null]) :: (ks, Ar Z .int 0 g_ks) :: (rgs, Ar Z .int 0 (cpy f8 g_rgs 0 0 0)) :: (ns, Ar Z .int 16 (upd g_ns 1 (kI (-1)))) :: (fk, Ar Z .int 17 (upd g_fk 2 (kI 0))) :: (kl, Ar Z .int 16 (upd g_kl 1 (kI (-1)))) :: (frg, Ar Z .int 17 (upd g_frg 2 (kI 0))) :: (fac, Ar Z .int 17 (upd g_fac 2 (kI 0))) :: (fcm, Ar Z .int 17 (upd g_fcm 2 (kI 0))) :: (acs, Ar Z .int 16 (cpy f4 g_acs 0 0 0)) :: (cms, Ar Z .int 16 (cpy f5 g_cms 0 0 0)) :: (sus, Ar Z .int 64 (cpy f6 g_sus 0 t2 0)) :: (fa, Ar Z .int 2 f1) :: (fc, Ar Z .int 2 f2) :: (ft, Ar Z .int 2 f3) :: (ac, Ar Z .int 2 f4) :: (cm, Ar Z .int 2 f5) :: (su, Ar Z .int 4 f6) :: (no, Ar Z .int 0 f8) :: Rr) h132 n0 W139 (by omega) (by omega) rfl h_fch rfl rfl rfl) hZ (hw _ (mi 183 rfl)) (hw _ (mi 7 rfl)) (by decide) (by decide)) (g := (mkF m 632 #[sR r, sR b, sR no, sI (-1), sI 1, sI 2, sI 0, sI 0, sI 0, sI (Int32.ofNat t2), sI 0, sI 0, sI 0, sI 0, sI 0] [(kR pr), (kI (Int32.ofNat u)), (kR vv), (kI 1), (kR r)])) rfl (by rw [hml]; rfl) (Steps.refl _) (a := r) (by rw [e138]; exact q140) q140' (argsL := [(.int (1 : Int32)), (.ref vv), (.int (Int32.ofNat u)), (.ref pr)]) (rest := []) (lenOf pd_pl rfl) rfl (by show 2 * 0 + _ ≤ _; exact Nat.le_of_eq rfl) (hD 322 rfl) (fun _ _ => ⟨rfl, e138, (by decide : 8 + 0 ≤ _), (by decide : 92 + 0 ≤ _)⟩)
  dsimp only [Pt.U, Pt.locs, Pt.cells, Pt.slots] at X140 l140 y140 z140 st140 hQ140
  subst l140 y140 z140
  obtain ⟨rfl, N140q, W140⟩ := hQ140
  have N140 := Fr.app N132 N140q
  have K141 : Rc K0 T140 (mkF m 639 #[sR r, sR b, sR no, sI (-1), sI 1, sI 2, sI 0, sI 0, sI 0, sI (Int32.ofNat t2), sI 0, sI 0, sI 0, sI 0, sI 1] [(kI 1)]) := fun t k => K137 t (st138 t (st140.trans (by
    refine XS.istore X140.here hx rfl (hD 323 rfl) rfl (l' := #[sR r, sR b, sR no, sI (-1), sI 1, sI 2, sI 0, sI 0, sI 0, sI (Int32.ofNat t2), sI 0, sI 0, sI 0, sI 0, sI 1]) rfl ?_
    refine XS.iload X140.here hx rfl (hD 324 rfl) rfl ?_
    exact k)))
  obtain ⟨fs, hr, hrun, hended, hWm, hsame⟩ := X140.leave (v := some (.int (1 : Int32))) (fun h => by rw [Bd.returns] at h; cases h)
  refine ⟨_, _, pre0 _ (K141 _ (retI X140 hx Bd.returns (hD 325 rfl) hr)), hrun, hended, _, _, rfl, ?_, ⟨_, rfl⟩, hWm, hsame.mono (by decide) (by decide)⟩
  show QrmADE Z r ks rgs ns fch fk kl frg fac fcm ftr acs cms sus prb b fa ac fc cm ft su pr no vv u t2 g_ks g_rgs g_ns g_fch g_fk g_kl g_frg g_fac g_fcm g_ftr g_acs g_cms g_sus g_prb f1 f2 f3 f4 f5 f6 f7 f8 g_vv Rr n0 _ T140.heap _
  exact ⟨a40_120, a50_120, a6_120, a9_120, a12_120, a15_120, a18_120, a21_120, rfl, N140, W140⟩
abbrev y_va : MethodName := ⟨"com/example/sambre/sambre/engine/Rows", "value", "(II[D)D"⟩
theorem pd_va : parseMethodDescriptor "(II[D)D" = some ⟨[.int, .int, (.array .double)], some .double⟩ := by decide +kernel
def Ld_va : List (Nat × Instr × Nat) := [(0, .aload_n 0, 1), (1, .getfield 124, 3), (4, .ifnonnull 10, 3), (7, .aload_n 0, 1), (8, .getfield 49, 3), (11, .goto 14, 3), (14, .aload_n 0, 1), (15, .getfield 139, 3), (18, .aload_n 0, 1), (19, .getfield 130, 3), (22, .iload_n 1, 1), (23, .iaload, 1), (24, .aaload, 1), (25, .astore 4, 2), (27, .aload_n 0, 1), (28, .getfield 124, 3), (31, .ifnonnull 7, 3), (34, .iconst 0, 1), (35, .goto 9, 3), (38, .aload_n 0, 1), (39, .getfield 133, 3), (42, .iload_n 1, 1), (43, .iaload, 1), (44, .istore 5, 2), (46, .dconst 0, 1), (47, .dstore 6, 2), (49, .aload_n 0, 1), (50, .getfield 37, 3), (53, .iload_n 2, 1), (54, .iaload, 1), (55, .istore 8, 2), (57, .iload 8, 2), (59, .aload_n 0, 1), (60, .getfield 37, 3), (63, .iload_n 2, 1), (64, .iconst 1, 1), (65, .iadd, 1), (66, .iaload, 1), (67, .if_icmp .ge 32, 3), (70, .dload 6, 2), (72, .aload 4, 2), (74, .iload 8, 2), (76, .iload 5, 2), (78, .iadd, 1), (79, .daload, 1), (80, .aload_n 3, 1), (81, .aload_n 0, 1), (82, .getfield 46, 3), (85, .iload 8, 2), (87, .iaload, 1), (88, .daload, 1), (89, .dmul, 1), (90, .dadd, 1), (91, .dstore 6, 2), (93, .iinc 8 1, 3), (96, .goto (-39), 3), (99, .dload 6, 2), (101, .dreturn, 1)]
set_option maxRecDepth 65536 in
theorem d_va : ∀ x ∈ Ld_va, decode prog_87_method_32_code x.1 = .ok (x.2.1, x.2.2) := by decide +kernel
set_option maxRecDepth 65536 in
set_option maxHeartbeats 40000000 in
theorem tnV1 {p : Program} {l : Launch} {e : Env} {R : Room} {s : State} {m : MethodId} {args : Array Value} {below : List Frame} {meth : Method} {c : Code} {s₁ : State} {F0 : JFrame} {T0 : State} {locs : List Loc} {cells slots : Nat} {Z : State} {a0 : Array Value} {n0 : Nat} {h0 : Heap} (r ftr sus wt va : Addr) (y0 y1 y2 y3 y4 y5 y6 y7 y8 y10 y11 y13 y14 y15 y16 y17 y18 y19 y20 y21 y22 y23 y24 : Value) (g_ftr g_sus gw gv : Nat → Value) (ch mv tb : Nat) (l1 : Slot) (sg : UInt64) (tt : Nat) (Rr : List (Addr × (Cell → Prop)))
    (X0 : Stand p l e R s m args below meth c T0 locs cells slots) (hx : p.tables.exec = Jvm.exec) (hZ : Z.Warmed39 s.vm) (hw : ∀ d ∈ tables_1, d.before a0 Z = true) (hby : c.code = prog_87_method_32_code) (hml : c.maxLocals = 9) (hown : s.vm.findClass "com/example/sambre/sambre/engine/Rows" = some m.cls) (e0 : T0.heap = h0) (W0 : Wo n0 h0 ((r, oR Z [y0, y1, y2, y3, y4, y5, y6, y7, y8, (kR ftr), y10, y11, (kR sus), y13, y14, y15, y16, y17, y18, y19, y20, y21, y22, y23, y24]) :: (ftr, Ar Z .int 17 g_ftr) :: (sus, Ar Z .int 64 g_sus) :: (wt, Ar Z .double 64 gw) :: (va, Ar Z .double 8 gv) :: Rr)) (K0 : Rch p e below s₁ F0 T0 (mkF m 57 #[.val (.ref r), l1, .val (.int (Int32.ofNat ch)), .val (.ref va), .val (.ref wt), .val (.int (Int32.ofNat mv)), .val (.double sg), .second, .val (.int (Int32.ofNat tt))] [])) (hch : ch < 2) (htb : tb ≤ 4) (hft : g_ftr (ch + 1) = .int (Int32.ofNat tb)) (ht : tb ≤ tt) (ht4 : tt ≤ 4) :
    ∃ T', Stand p l e R s m args below meth c T' locs cells slots ∧ T'.heap = h0 ∧ Rch p e below s₁ F0 T' (mkF m 99 #[.val (.ref r), l1, .val (.int (Int32.ofNat ch)), .val (.ref va), .val (.ref wt), .val (.int (Int32.ofNat mv)), .val (.double sg), .second, .val (.int (Int32.ofNat tt))] []) := by
  have hD : ∀ (k : Nat) {pc : Nat} {i : Instr} {n : Nat}, Ld_va[k]? = some (pc, i, n) → decode c.code pc = .ok (i, n) := by intro k pc i n h; exact hb hby (d_va (pc, i, n) (mi k h))
  have K1 : Rc K0 T0 (mkF m 60 #[sR r, l1, sI (Int32.ofNat ch), sR va, sR wt, sI (Int32.ofNat mv), sD sg, sV, sI (Int32.ofNat tt)] [(kR r), (kI (Int32.ofNat tt))]) := fun t k => K0 t (by
    refine XS.iload X0.here hx rfl (hD 31 rfl) rfl ?_
    refine XS.aloadN X0.here hx rfl (hD 32 rfl) rfl rfl ?_
    exact k)
  obtain ⟨T2, X2, e2, st2⟩ := getF X0 hx hZ hown (host := "") (Or.inl (hw _ (mi 32 rfl))) Via.refl e0 (W0.fld (i := 0) rfl (j := 9) rfl rfl) (g := K1.g) rfl rfl (hD 33 rfl)
  have K3 : Rc K0 T2 (mkF m 99 #[sR r, l1, sI (Int32.ofNat ch), sR va, sR wt, sI (Int32.ofNat mv), sD sg, sV, sI (Int32.ofNat tt)] []) := fun t k => K1 t (st2 t (by
    refine XS.iloadN X2.here hx rfl (hD 34 rfl) rfl ?_
    refine XS.iconst X2.here hx rfl (hD 35 rfl) ?_
    refine XS.iadd X2.here hx rfl (hD 36 rfl) rfl ?_
    show Steps p.tables e below (T2.setTop (mkF m 66 #[sR r, l1, sI (Int32.ofNat ch), sR va, sR wt, sI (Int32.ofNat mv), sD sg, sV, sI (Int32.ofNat tt)] [(kI ((Int32.ofNat ch) + (1 : Int32))), (kR ftr), (kI (Int32.ofNat tt))])) _
    rw [show (Int32.ofNat ch) + (1 : Int32) = (Int32.ofNat (ch + 1)) from own_add ch 1]
    show Steps p.tables e below (T2.setTop (mkF m 66 #[sR r, l1, sI (Int32.ofNat ch), sR va, sR wt, sI (Int32.ofNat mv), sD sg, sV, sI (Int32.ofNat tt)] [(kI (Int32.ofNat (ch + 1))), (kR ftr), (kI (Int32.ofNat tt))])) _
    refine ialW X2 hx hZ e2 W0 (i := 1) rfl (j := (Int32.ofNat (ch + 1))) (k := (ch + 1)) (own_nn (by omega)) (own_tn (by omega)) (by omega) (v := (.int (Int32.ofNat tb))) hft (g := (mkF m 66 #[sR r, l1, sI (Int32.ofNat ch), sR va, sR wt, sI (Int32.ofNat mv), sD sg, sV, sI (Int32.ofNat tt)] [(kI (Int32.ofNat (ch + 1))), (kR ftr), (kI (Int32.ofNat tt))])) rfl rfl (hD 37 rfl) _ ?_
    refine XS.icmpYes X2.here hx rfl (pc0 := 67) (pc' := 99) rfl (hD 38 rfl) rfl (flt (own_nlt (by omega) (by omega))).2.1 (by decide) (by decide) ?_
    exact k))
  exact ⟨T2, X2, e2, K3⟩
set_option maxRecDepth 65536 in
set_option maxHeartbeats 40000000 in
theorem tnV {p : Program} {l : Launch} {e : Env} {R : Room} {s : State} {m : MethodId} {args : Array Value} {below : List Frame} {meth : Method} {c : Code} {s₁ : State} {F0 : JFrame} {T0 : State} {locs : List Loc} {cells slots : Nat} {Z : State} {a0 : Array Value} {n0 : Nat} {h0 : Heap} (r ftr sus wt va : Addr) (y0 y1 y2 y3 y4 y5 y6 y7 y8 y10 y11 y13 y14 y15 y16 y17 y18 y19 y20 y21 y22 y23 y24 : Value) (g_ftr g_sus gw gv : Nat → Value) (ch mv tb : Nat) (l1 : Slot) (sg : UInt64) (tt Sq : Nat) (Rr : List (Addr × (Cell → Prop)))
    (X0 : Stand p l e R s m args below meth c T0 locs cells slots) (hx : p.tables.exec = Jvm.exec) (hZ : Z.Warmed39 s.vm) (hw : ∀ d ∈ tables_1, d.before a0 Z = true) (hby : c.code = prog_87_method_32_code) (hml : c.maxLocals = 9) (hown : s.vm.findClass "com/example/sambre/sambre/engine/Rows" = some m.cls) (e0 : T0.heap = h0) (W0 : Wo n0 h0 ((r, oR Z [y0, y1, y2, y3, y4, y5, y6, y7, y8, (kR ftr), y10, y11, (kR sus), y13, y14, y15, y16, y17, y18, y19, y20, y21, y22, y23, y24]) :: (ftr, Ar Z .int 17 g_ftr) :: (sus, Ar Z .int 64 g_sus) :: (wt, Ar Z .double 64 gw) :: (va, Ar Z .double 8 gv) :: Rr)) (K0 : Rch p e below s₁ F0 T0 (mkF m 57 #[.val (.ref r), l1, .val (.int (Int32.ofNat ch)), .val (.ref va), .val (.ref wt), .val (.int (Int32.ofNat mv)), .val (.double sg), .second, .val (.int (Int32.ofNat tt))] [])) (hch : ch < 2) (htb : tb ≤ 4) (hmv : tb + mv ≤ 64) (hft : g_ftr (ch + 1) = .int (Int32.ofNat tb)) (ht : tt < tb) (hsu : g_sus tt = .int (Int32.ofNat Sq)) (hS8 : Sq < 8) (hn1 : Jvm.Free.Fl.NoNaN64 (FP.dmul (own_dv (gw (tt + mv))) (own_dv (gv Sq)))) (hn2 : Jvm.Free.Fl.NoNaN64 (FP.dadd sg (FP.dmul (own_dv (gw (tt + mv))) (own_dv (gv Sq))))) :
    ∃ T', Stand p l e R s m args below meth c T' locs cells slots ∧ T'.heap = h0 ∧ Rch p e below s₁ F0 T' (mkF m 57 #[.val (.ref r), l1, .val (.int (Int32.ofNat ch)), .val (.ref va), .val (.ref wt), .val (.int (Int32.ofNat mv)), .val (.double (FP.dadd sg (FP.dmul (own_dv (gw (tt + mv))) (own_dv (gv Sq))))), .second, .val (.int (Int32.ofNat (tt + 1)))] []) := by
  have hD : ∀ (k : Nat) {pc : Nat} {i : Instr} {n : Nat}, Ld_va[k]? = some (pc, i, n) → decode c.code pc = .ok (i, n) := by intro k pc i n h; exact hb hby (d_va (pc, i, n) (mi k h))
  have K1 : Rc K0 T0 (mkF m 60 #[sR r, l1, sI (Int32.ofNat ch), sR va, sR wt, sI (Int32.ofNat mv), sD sg, sV, sI (Int32.ofNat tt)] [(kR r), (kI (Int32.ofNat tt))]) := fun t k => K0 t (by
    refine XS.iload X0.here hx rfl (hD 31 rfl) rfl ?_
    refine XS.aloadN X0.here hx rfl (hD 32 rfl) rfl rfl ?_
    exact k)
  obtain ⟨T2, X2, e2, st2⟩ := getF X0 hx hZ hown (host := "") (Or.inl (hw _ (mi 32 rfl))) Via.refl e0 (W0.fld (i := 0) rfl (j := 9) rfl rfl) (g := K1.g) rfl rfl (hD 33 rfl)
  have K3 : Rc K0 T2 (mkF m 82 #[sR r, l1, sI (Int32.ofNat ch), sR va, sR wt, sI (Int32.ofNat mv), sD sg, sV, sI (Int32.ofNat tt)] [(kR r), (kR va), (kD (own_dv (gw (tt + mv)))), (kD sg)]) := fun t k => K1 t (st2 t (by
    refine XS.iloadN X2.here hx rfl (hD 34 rfl) rfl ?_
    refine XS.iconst X2.here hx rfl (hD 35 rfl) ?_
    refine XS.iadd X2.here hx rfl (hD 36 rfl) rfl ?_
    show Steps p.tables e below (T2.setTop (mkF m 66 #[sR r, l1, sI (Int32.ofNat ch), sR va, sR wt, sI (Int32.ofNat mv), sD sg, sV, sI (Int32.ofNat tt)] [(kI ((Int32.ofNat ch) + (1 : Int32))), (kR ftr), (kI (Int32.ofNat tt))])) _
    rw [show (Int32.ofNat ch) + (1 : Int32) = (Int32.ofNat (ch + 1)) from own_add ch 1]
    show Steps p.tables e below (T2.setTop (mkF m 66 #[sR r, l1, sI (Int32.ofNat ch), sR va, sR wt, sI (Int32.ofNat mv), sD sg, sV, sI (Int32.ofNat tt)] [(kI (Int32.ofNat (ch + 1))), (kR ftr), (kI (Int32.ofNat tt))])) _
    refine ialW X2 hx hZ e2 W0 (i := 1) rfl (j := (Int32.ofNat (ch + 1))) (k := (ch + 1)) (own_nn (by omega)) (own_tn (by omega)) (by omega) (v := (.int (Int32.ofNat tb))) hft (g := (mkF m 66 #[sR r, l1, sI (Int32.ofNat ch), sR va, sR wt, sI (Int32.ofNat mv), sD sg, sV, sI (Int32.ofNat tt)] [(kI (Int32.ofNat (ch + 1))), (kR ftr), (kI (Int32.ofNat tt))])) rfl rfl (hD 37 rfl) _ ?_
    refine XS.icmpNo X2.here hx rfl (hD 38 rfl) rfl (tlt (own_lt (by omega) (by omega))).2.1 ?_
    refine XS.dload X2.here hx rfl (hD 39 rfl) rfl ?_
    refine XS.aload X2.here hx rfl (hD 40 rfl) rfl rfl ?_
    refine XS.iload X2.here hx rfl (hD 41 rfl) rfl ?_
    refine XS.iload X2.here hx rfl (hD 42 rfl) rfl ?_
    refine XS.iadd X2.here hx rfl (hD 43 rfl) rfl ?_
    show Steps p.tables e below (T2.setTop (mkF m 79 #[sR r, l1, sI (Int32.ofNat ch), sR va, sR wt, sI (Int32.ofNat mv), sD sg, sV, sI (Int32.ofNat tt)] [(kI ((Int32.ofNat tt) + (Int32.ofNat mv))), (kR wt), (kD sg)])) _
    rw [own_add tt mv]
    show Steps p.tables e below (T2.setTop (mkF m 79 #[sR r, l1, sI (Int32.ofNat ch), sR va, sR wt, sI (Int32.ofNat mv), sD sg, sV, sI (Int32.ofNat tt)] [(kI (Int32.ofNat (tt + mv))), (kR wt), (kD sg)])) _
    refine dalW X2 hx hZ e2 W0 (i := 3) rfl (j := (Int32.ofNat (tt + mv))) (k := (tt + mv)) (own_nn (by omega)) (own_tn (by omega)) (by omega) (v := (.double (own_dv (gw (tt + mv))))) (own_arD W0 (i := 3) rfl (by omega)) (g := (mkF m 79 #[sR r, l1, sI (Int32.ofNat ch), sR va, sR wt, sI (Int32.ofNat mv), sD sg, sV, sI (Int32.ofNat tt)] [(kI (Int32.ofNat (tt + mv))), (kR wt), (kD sg)])) rfl rfl (hD 44 rfl) _ ?_
    refine XS.aloadN X2.here hx rfl (hD 45 rfl) rfl rfl ?_
    refine XS.aloadN X2.here hx rfl (hD 46 rfl) rfl rfl ?_
    exact k))
  obtain ⟨T4, X4, e4, st4⟩ := getF X2 hx hZ hown (host := "") (Or.inl (hw _ (mi 38 rfl))) Via.refl e2 (W0.fld (i := 0) rfl (j := 12) rfl rfl) (g := K3.g) rfl rfl (hD 47 rfl)
  have K5 : Rc K0 T4 (mkF m 57 #[sR r, l1, sI (Int32.ofNat ch), sR va, sR wt, sI (Int32.ofNat mv), sD (FP.dadd sg (FP.dmul (own_dv (gw (tt + mv))) (own_dv (gv Sq)))), sV, sI (Int32.ofNat (tt + 1))] []) := fun t k => K3 t (st4 t (by
    refine XS.iload X4.here hx rfl (hD 48 rfl) rfl ?_
    refine ialW X4 hx hZ e4 W0 (i := 2) rfl (j := (Int32.ofNat tt)) (k := tt) (own_nn (by omega)) (own_tn (by omega)) (by omega) (v := (.int (Int32.ofNat Sq))) hsu (g := (mkF m 87 #[sR r, l1, sI (Int32.ofNat ch), sR va, sR wt, sI (Int32.ofNat mv), sD sg, sV, sI (Int32.ofNat tt)] [(kI (Int32.ofNat tt)), (kR sus), (kR va), (kD (own_dv (gw (tt + mv)))), (kD sg)])) rfl rfl (hD 49 rfl) _ ?_
    refine dalW X4 hx hZ e4 W0 (i := 4) rfl (j := (Int32.ofNat Sq)) (k := Sq) (own_nn (by omega)) (own_tn (by omega)) (by omega) (v := (.double (own_dv (gv Sq)))) (own_arD W0 (i := 4) rfl (by omega)) (g := (mkF m 88 #[sR r, l1, sI (Int32.ofNat ch), sR va, sR wt, sI (Int32.ofNat mv), sD sg, sV, sI (Int32.ofNat tt)] [(kI (Int32.ofNat Sq)), (kR va), (kD (own_dv (gw (tt + mv)))), (kD sg)])) rfl rfl (hD 50 rfl) _ ?_
    refine XS.dmulS X4.here hx rfl (hD 51 rfl) rfl hn1 rfl ?_
    refine XS.daddS X4.here hx rfl (hD 52 rfl) rfl hn2 rfl ?_
    refine XS.dstore X4.here hx rfl (hD 53 rfl) rfl (l' := #[sR r, l1, sI (Int32.ofNat ch), sR va, sR wt, sI (Int32.ofNat mv), sD (FP.dadd sg (FP.dmul (own_dv (gw (tt + mv))) (own_dv (gv Sq)))), sV, sI (Int32.ofNat tt)]) rfl ?_
    refine XS.iinc X4.here hx rfl (hD 54 rfl) rfl (l' := #[sR r, l1, sI (Int32.ofNat ch), sR va, sR wt, sI (Int32.ofNat mv), sD (FP.dadd sg (FP.dmul (own_dv (gw (tt + mv))) (own_dv (gv Sq)))), sV, sI ((Int32.ofNat tt) + (1 : Int32))]) rfl ?_
    show Steps p.tables e below (T4.setTop (mkF m 96 #[sR r, l1, sI (Int32.ofNat ch), sR va, sR wt, sI (Int32.ofNat mv), sD (FP.dadd sg (FP.dmul (own_dv (gw (tt + mv))) (own_dv (gv Sq)))), sV, sI ((Int32.ofNat tt) + (1 : Int32))] [])) _
    rw [show (Int32.ofNat tt) + (1 : Int32) = (Int32.ofNat (tt + 1)) from own_add tt 1]
    show Steps p.tables e below (T4.setTop (mkF m 96 #[sR r, l1, sI (Int32.ofNat ch), sR va, sR wt, sI (Int32.ofNat mv), sD (FP.dadd sg (FP.dmul (own_dv (gw (tt + mv))) (own_dv (gv Sq)))), sV, sI (Int32.ofNat (tt + 1))] [])) _
    refine XS.goto X4.here hx rfl (pc0 := 96) (pc' := 57) rfl (hD 55 rfl) (by decide) (by decide) ?_
    exact k))
  exact ⟨T4, X4, e4, K5⟩
theorem own_vl {p : Program} {l : Launch} {e : Env} {R : Room} {s : State} {m : MethodId} {args : Array Value} {below : List Frame} {meth : Method} {c : Code} {s₁ : State} {F0 : JFrame} {locs : List Loc} {cells slots : Nat} {Z : State} {a0 : Array Value} {n0 : Nat} {h0 : Heap} (r ftr sus wt va : Addr) (y0 y1 y2 y3 y4 y5 y6 y7 y8 y10 y11 y13 y14 y15 y16 y17 y18 y19 y20 y21 y22 y23 y24 : Value) (g_ftr g_sus gw gv : Nat → Value) (ch mv tb : Nat) (l1 : Slot) (Rr : List (Addr × (Cell → Prop)))
    (hx : p.tables.exec = Jvm.exec) (hZ : Z.Warmed39 s.vm) (hw : ∀ d ∈ tables_1, d.before a0 Z = true) (hby : c.code = prog_87_method_32_code) (hml : c.maxLocals = 9) (hown : s.vm.findClass "com/example/sambre/sambre/engine/Rows" = some m.cls) (W0 : Wo n0 h0 ((r, oR Z [y0, y1, y2, y3, y4, y5, y6, y7, y8, (kR ftr), y10, y11, (kR sus), y13, y14, y15, y16, y17, y18, y19, y20, y21, y22, y23, y24]) :: (ftr, Ar Z .int 17 g_ftr) :: (sus, Ar Z .int 64 g_sus) :: (wt, Ar Z .double 64 gw) :: (va, Ar Z .double 8 gv) :: Rr)) (hch : ch < 2) (htb : tb ≤ 4) (hmv : tb + mv ≤ 64) (hft : g_ftr (ch + 1) = .int (Int32.ofNat tb))
    {S : Nat → Nat} {w B : Nat → Int} (hS : ∀ t, t < tb → g_sus t = .int (Int32.ofNat (S t)) ∧ S t < 8) (hW : ∀ t, t < tb → Sx 30 (w t) (own_dv (gw (t + mv)))) (hV : ∀ j, j < 8 → Vx (B j) (own_dv (gv j))) :
    ∀ (k t j : Nat) (sg : UInt64) (n : Int) (T0 : State), t + k = tb → j + k ≤ 4 → Sx (j * 64424509440) n sg → Stand p l e R s m args below meth c T0 locs cells slots → T0.heap = h0 → Rch p e below s₁ F0 T0 (mkF m 57 #[.val (.ref r), l1, .val (.int (Int32.ofNat ch)), .val (.ref va), .val (.ref wt), .val (.int (Int32.ofNat mv)), .val (.double sg), .second, .val (.int (Int32.ofNat t))] []) →
      ∃ (T' : State) (sg' : UInt64) (t' : Int32), Stand p l e R s m args below meth c T' locs cells slots ∧ T'.heap = h0 ∧ Rch p e below s₁ F0 T' (mkF m 99 #[.val (.ref r), l1, .val (.int (Int32.ofNat ch)), .val (.ref va), .val (.ref wt), .val (.int (Int32.ofNat mv)), .val (.double sg'), .second, .val (.int t')] []) ∧ Sx 257698037760 (n + own_sum (fun t => w t * B (S t)) t k) sg' := by
  intro k
  induction k with
  | zero =>
    intro t j sg n T0 ht hj hsx X0 e0 K0
    obtain ⟨T1, X1, e1, K1⟩ := tnV1 r ftr sus wt va y0 y1 y2 y3 y4 y5 y6 y7 y8 y10 y11 y13 y14 y15 y16 y17 y18 y19 y20 y21 y22 y23 y24 g_ftr g_sus gw gv ch mv tb l1 sg t Rr X0 hx hZ hw hby hml hown e0 W0 K0 hch htb hft (by omega) (by omega)
    exact ⟨T1, sg, _, X1, e1, K1, by rw [show n + own_sum (fun t => w t * B (S t)) t 0 = n from Int.add_zero n]; exact hsx.mono (by omega)⟩
  | succ k ih =>
    intro t j sg n T0 ht hj hsx X0 e0 K0
    have h1 := (hW t (by omega)).mul (Nat.le_refl 30) (hV (S t) (hS t (by omega)).2)
    have h2 := hsx.add h1 (by omega)
    obtain ⟨T1, X1, e1, K1⟩ := tnV r ftr sus wt va y0 y1 y2 y3 y4 y5 y6 y7 y8 y10 y11 y13 y14 y15 y16 y17 y18 y19 y20 y21 y22 y23 y24 g_ftr g_sus gw gv ch mv tb l1 sg t (S t) Rr X0 hx hZ hw hby hml hown e0 W0 K0 hch htb hmv hft (by omega) (hS t (by omega)).1 (hS t (by omega)).2 h1.nn h2.nn
    obtain ⟨T2, sg2, t2, X2, e2, K2, h3⟩ := ih (t + 1) (j + 1) _ _ T1 (by omega) (by omega) (h2.mono (by omega)) X1 e1 K1
    exact ⟨T2, sg2, t2, X2, e2, K2, by rw [show n + own_sum (fun t => w t * B (S t)) t (k + 1) = n + w t * B (S t) + own_sum (fun t => w t * B (S t)) (t + 1) k from (Int.add_assoc _ _ _).symm]; exact h3⟩
theorem ef_rmVAF (m : MethodId) (r ks rgs ns fch fk kl frg fac fcm ftr acs cms sus prb : Addr) (va : Addr) (shc rwc : Int32) (g_ftr g_sus gw gv : Nat → Value) (ch ta kt tb : Nat) (S : Nat → Nat) (w B : Nat → Int) : entryFrame m #[(.ref r), (.int (0 : Int32)), (.int (Int32.ofNat ch)), (.ref va)] 9 = mkF m 0 #[.val (.ref r), .val (.int (0 : Int32)), .val (.int (Int32.ofNat ch)), .val (.ref va), .unset, .unset, .unset, .unset, .unset] [] := by first | (simp [entryFrame, mkF, argsToLocals, Value.category]; done) | rfl
def QrmVAF (Z : State) (r ks rgs ns fch fk kl frg fac fcm ftr acs cms sus prb : Addr) (va : Addr) (shc rwc : Int32) (g_ftr g_sus gw gv : Nat → Value) (ch ta kt tb : Nat) (S : Nat → Nat) (w B : Nat → Int) (Rr : List (Addr × (Cell → Prop))) (n0 : Nat) (v : Option Value) (h : Heap) (L : List Loc) : Prop := ∃ z : UInt64, v = some (.double z) ∧ Fr n0 L ∧ Wo n0 h ((r, oR Z [(kR ks), (kR rgs), (kR ns), (kR fch), (kR fk), (kR kl), (kR frg), (kR fac), (kR fcm), (kR ftr), (kR acs), (kR cms), (kR sus), (kR prb), (kI shc), .null, (kI rwc), .null, .null, .null, .null, .null, .null, (kI 0), (kI 0)]) :: (ftr, Ar Z .int 17 g_ftr) :: (sus, Ar Z .int 64 g_sus) :: (prb, Ar Z .double 64 gw) :: (va, Ar Z .double 8 gv) :: Rr) ∧ Sx 257698037760 (own_sum (fun t => w t * B (S t)) ta kt) z
set_option maxRecDepth 65536 in
set_option maxHeartbeats 40000000 in
theorem rmVAF (l : Launch) (Z : State) (a0 : Array Value) (hw : ∀ d ∈ tables_1, d.before a0 Z = true) (ws : List Jvm.Cond) (r ks rgs ns fch fk kl frg fac fcm ftr acs cms sus prb : Addr) (va : Addr) (shc rwc : Int32) (g_ftr g_sus gw gv : Nat → Value) (ch ta kt tb : Nat) (S : Nat → Nat) (w B : Nat → Int) (Rr : List (Addr × (Cell → Prop))) (h0 : Heap) (n0 : Nat) (W0 : Wo n0 h0 ((r, oR Z [(kR ks), (kR rgs), (kR ns), (kR fch), (kR fk), (kR kl), (kR frg), (kR fac), (kR fcm), (kR ftr), (kR acs), (kR cms), (kR sus), (kR prb), (kI shc), .null, (kI rwc), .null, .null, .null, .null, .null, .null, (kI 0), (kI 0)]) :: (ftr, Ar Z .int 17 g_ftr) :: (sus, Ar Z .int 64 g_sus) :: (prb, Ar Z .double 64 gw) :: (va, Ar Z .double 8 gv) :: Rr)) (hch : ch < 2) (htb : tb ≤ 4) (htk : ta + kt = tb) (hfa : g_ftr ch = .int (Int32.ofNat ta)) (hft : g_ftr (ch + 1) = .int (Int32.ofNat tb)) (hS : ∀ t, t < tb → g_sus t = .int (Int32.ofNat (S t)) ∧ S t < 8) (hW : ∀ t, t < tb → Sx 30 (w t) (own_dv (gw (t + 0)))) (hV : ∀ j, j < 8 → Vx (B j) (own_dv (gv j))) :
    MetFree l y_va (head1 (Jvm.Cond.code y_va prog_87_method_32_code 9 (some .double) :: ws) ({ frames := 0, cells := 0, slots := 0, locals := 0 } : Room)) (fun aa U => aa = #[(.ref r), (.int (0 : Int32)), (.int (Int32.ofNat ch)), (.ref va)] ∧ Z.Warmed39 U.vm ∧ U.heap = h0) (fun _ _ _ _ _ => True) (fun _ U ou U' => ∃ v L, ou = .returned v ∧ QrmVAF Z r ks rgs ns fch fk kl frg fac fcm ftr acs cms sus prb va shc rwc g_ftr g_sus gw gv ch ta kt tb S w B Rr n0 v U'.heap L ∧ FrameEnd U ou U' L ({ frames := 0, cells := 0, slots := 0, locals := 0 } : Room).cells ({ frames := 0, cells := 0, slots := 0, locals := 0 } : Room).slots) := by
  refine MetFree.of_bodySF (plainFor_of_name pn_Rows) hisR ?_
  intro p e s m args below meth c s₁ Bd hml0 hP hK
  obtain ⟨rfl, hZ, hh⟩ := hP
  have hx := Bd.exec
  have hby := Bd.bytes
  have hml : c.maxLocals = 9 := hml0
  have hD : ∀ (k : Nat) {pc : Nat} {i : Instr} {n : Nat}, Ld_va[k]? = some (pc, i, n) → decode c.code pc = .ok (i, n) := by intro k pc i n h; exact hb hby (d_va (pc, i, n) (mi k h))
  have hown : s.vm.findClass "com/example/sambre/sambre/engine/Rows" = some m.cls := findClass_of_methodNamed Bd.named
  have hnm := (name_of_methodNamed Bd.named Bd.method).1
  have X0 : Stand p l e ({ frames := 0, cells := 0, slots := 0, locals := 0 } : Room) s m #[(.ref r), (.int (0 : Int32)), (.int (Int32.ofNat ch)), (.ref va)] below meth c s₁ [] 0 0 := Stand.of_body Bd
  have e0 : s₁.heap = h0 := by rw [← hh, Bd.state]; rfl
  have N0 := Fr.nil n0
  obtain ⟨F0, hF0⟩ : ∃ F, F = mkF m 0 #[.val (.ref r), .val (.int (0 : Int32)), .val (.int (Int32.ofNat ch)), .val (.ref va), .unset, .unset, .unset, .unset, .unset] [] := ⟨_, rfl⟩
  have pre0 : ∀ t, Steps p.tables e below (s₁.setTop F0) t → Steps p.tables e below (s₁.setTop (entryFrame m #[(.ref r), (.int (0 : Int32)), (.int (Int32.ofNat ch)), (.ref va)] 9)) t := fun t k => castTop ((ef_rmVAF m r ks rgs ns fch fk kl frg fac fcm ftr acs cms sus prb va shc rwc g_ftr g_sus gw gv ch ta kt tb S w B).trans hF0.symm) k
  have K0 : Rch p e below s₁ F0 s₁ (mkF m 0 #[.val (.ref r), .val (.int (0 : Int32)), .val (.int (Int32.ofNat ch)), .val (.ref va), .unset, .unset, .unset, .unset, .unset] []) := fun t k => castTop hF0 k
  have K1 : Rc K0 s₁ (mkF m 1 #[sR r, sI 0, sI (Int32.ofNat ch), sR va, sU, sU, sU, sU, sU] [(kR r)]) := fun t k => K0 t (XS.aloadN X0.here hx rfl (hD 0 rfl) rfl rfl k)
  obtain ⟨T2, X2, e2, st2⟩ := getF X0 hx hZ hown (host := "") (Or.inl (hw _ (mi 129 rfl))) Via.refl e0 (W0.fld (i := 0) rfl (j := 17) rfl rfl) (g := K1.g) rfl rfl (hD 1 rfl)
  have K3 : Rc K0 T2 (mkF m 8 #[sR r, sI 0, sI (Int32.ofNat ch), sR va, sU, sU, sU, sU, sU] [(kR r)]) := fun t k => K1 t (st2 t (by
    refine XS.ifnonnullNo X2.here hx rfl (hD 2 rfl) rfl ?_
    refine XS.aloadN X2.here hx rfl (hD 3 rfl) rfl rfl ?_
    exact k))
  obtain ⟨T4, X4, e4, st4⟩ := getF X2 hx hZ hown (host := "") (Or.inl (hw _ (mi 40 rfl))) Via.refl e2 (W0.fld (i := 0) rfl (j := 13) rfl rfl) (g := K3.g) rfl rfl (hD 4 rfl)
  have K5 : Rc K0 T4 (mkF m 28 #[sR r, sI 0, sI (Int32.ofNat ch), sR va, sR prb, sU, sU, sU, sU] [(kR r)]) := fun t k => K3 t (st4 t (by
    refine XS.goto X4.here hx rfl (pc0 := 11) (pc' := 25) rfl (hD 5 rfl) (by decide) (by decide) ?_
    refine XS.astore X4.here hx rfl (hD 13 rfl) rfl rfl (l' := #[sR r, sI 0, sI (Int32.ofNat ch), sR va, sR prb, sU, sU, sU, sU]) rfl ?_
    refine XS.aloadN X4.here hx rfl (hD 14 rfl) rfl rfl ?_
    exact k))
  obtain ⟨T6, X6, e6, st6⟩ := getF X4 hx hZ hown (host := "") (Or.inl (hw _ (mi 129 rfl))) Via.refl e4 (W0.fld (i := 0) rfl (j := 17) rfl rfl) (g := K5.g) rfl rfl (hD 15 rfl)
  have K7 : Rc K0 T6 (mkF m 50 #[sR r, sI 0, sI (Int32.ofNat ch), sR va, sR prb, sI 0, sD 0, sV, sU] [(kR r)]) := fun t k => K5 t (st6 t (by
    refine XS.ifnonnullNo X6.here hx rfl (hD 16 rfl) rfl ?_
    refine XS.iconst X6.here hx rfl (hD 17 rfl) ?_
    refine XS.goto X6.here hx rfl (pc0 := 35) (pc' := 44) rfl (hD 18 rfl) (by decide) (by decide) ?_
    refine XS.istore X6.here hx rfl (hD 23 rfl) rfl (l' := #[sR r, sI 0, sI (Int32.ofNat ch), sR va, sR prb, sI 0, sU, sU, sU]) rfl ?_
    refine XS.dconst0 X6.here hx rfl (hD 24 rfl) rfl ?_
    refine XS.dstore X6.here hx rfl (hD 25 rfl) rfl (l' := #[sR r, sI 0, sI (Int32.ofNat ch), sR va, sR prb, sI 0, sD 0, sV, sU]) rfl ?_
    refine XS.aloadN X6.here hx rfl (hD 26 rfl) rfl rfl ?_
    exact k))
  obtain ⟨T8, X8, e8, st8⟩ := getF X6 hx hZ hown (host := "") (Or.inl (hw _ (mi 32 rfl))) Via.refl e6 (W0.fld (i := 0) rfl (j := 9) rfl rfl) (g := K7.g) rfl rfl (hD 27 rfl)
  have K9 : Rc K0 T8 (mkF m 57 #[sR r, sI 0, sI (Int32.ofNat ch), sR va, sR prb, sI 0, sD 0, sV, sI (Int32.ofNat ta)] []) := fun t k => K7 t (st8 t (by
    refine XS.iloadN X8.here hx rfl (hD 28 rfl) rfl ?_
    refine ialW X8 hx hZ e8 W0 (i := 1) rfl (j := (Int32.ofNat ch)) (k := ch) (own_nn (by omega)) (own_tn (by omega)) (by omega) (v := (.int (Int32.ofNat ta))) hfa (g := (mkF m 54 #[sR r, sI 0, sI (Int32.ofNat ch), sR va, sR prb, sI 0, sD 0, sV, sU] [(kI (Int32.ofNat ch)), (kR ftr)])) rfl rfl (hD 29 rfl) _ ?_
    refine XS.istore X8.here hx rfl (hD 30 rfl) rfl (l' := #[sR r, sI 0, sI (Int32.ofNat ch), sR va, sR prb, sI 0, sD 0, sV, sI (Int32.ofNat ta)]) rfl ?_
    exact k))
  obtain ⟨T10, sg10, t10, X10, e10, K10, hsx10⟩ := own_vl r ftr sus prb va (.ref ks) (.ref rgs) (.ref ns) (.ref fch) (.ref fk) (.ref kl) (.ref frg) (.ref fac) (.ref fcm) (.ref acs) (.ref cms) (.ref prb) (.int shc) (.null) (.int rwc) (.null) (.null) (.null) (.null) (.null) (.null) (.int (0 : Int32)) (.int (0 : Int32)) g_ftr g_sus gw gv ch 0 tb (.val (.int (0 : Int32))) (Rr) hx hZ hw hby hml hown W0 hch htb (by omega) hft hS hW hV kt ta 0 0 0 T8 (by omega) (by omega) (Jvm.OwnFp.Sx.zero.mono (by decide)) X8 e8 K9
  have K11 : Rc K0 T10 (mkF m 101 #[sR r, sI 0, sI (Int32.ofNat ch), sR va, sR prb, sI 0, sD sg10, sV, sI t10] [(kD sg10)]) := fun t k => K10 t (XS.dload X10.here hx rfl (hD 56 rfl) rfl k)
  obtain ⟨fs, hr, hrun, hended, hWm, hsame⟩ := X10.leave (v := some (.double sg10)) (fun h => by rw [Bd.returns] at h; cases h)
  refine ⟨_, _, pre0 _ (K11 _ (Jvm.OwnKit.retD X10 hx Bd.returns (hD 57 rfl) hr)), hrun, hended, _, _, rfl, ?_, ⟨_, rfl⟩, hWm, hsame.mono (by decide) (by decide)⟩
  show QrmVAF Z r ks rgs ns fch fk kl frg fac fcm ftr acs cms sus prb va shc rwc g_ftr g_sus gw gv ch ta kt tb S w B Rr n0 _ T10.heap _
  rw [e10]
  exact ⟨_, rfl, N0, W0, by rw [Int.zero_add] at hsx10; exact hsx10⟩
theorem ef_rmVA00 (m : MethodId) (r ks rgs ns fch fk kl frg fac fcm ftr acs cms sus prb : Addr) (lr so nr bo shf vcn bl : Addr) (va : Addr) (shc rwc usd : Int32) (g_ftr g_sus gw gv g_bl g_bo g_shf : Nat → Value) (ch mv ta kt tb : Nat) (S : Nat → Nat) (w B : Nat → Int) : entryFrame m #[(.ref r), (.int (0 : Int32)), (.int (Int32.ofNat ch)), (.ref va)] 9 = mkF m 0 #[.val (.ref r), .val (.int (0 : Int32)), .val (.int (Int32.ofNat ch)), .val (.ref va), .unset, .unset, .unset, .unset, .unset] [] := by first | (simp [entryFrame, mkF, argsToLocals, Value.category]; done) | rfl
def QrmVA00 (Z : State) (r ks rgs ns fch fk kl frg fac fcm ftr acs cms sus prb : Addr) (lr so nr bo shf vcn bl : Addr) (va : Addr) (shc rwc usd : Int32) (g_ftr g_sus gw gv g_bl g_bo g_shf : Nat → Value) (ch mv ta kt tb : Nat) (S : Nat → Nat) (w B : Nat → Int) (Rr : List (Addr × (Cell → Prop))) (n0 : Nat) (v : Option Value) (h : Heap) (L : List Loc) : Prop := ∃ z : UInt64, v = some (.double z) ∧ Fr n0 L ∧ Wo n0 h ((r, oR Z [(kR ks), (kR rgs), (kR ns), (kR fch), (kR fk), (kR kl), (kR frg), (kR fac), (kR fcm), (kR ftr), (kR acs), (kR cms), (kR sus), (kR prb), (kI shc), (kR lr), (kI rwc), (kR so), (kR nr), (kR bo), (kR shf), (kR vcn), (kR bl), (kI 2), (kI usd)]) :: (ftr, Ar Z .int 17 g_ftr) :: (sus, Ar Z .int 64 g_sus) :: (prb, Ar Z .double 64 gw) :: (va, Ar Z .double 8 gv) :: (bl, Pg Z .double 4 g_bl) :: (bo, Ar Z .int 4 g_bo) :: (shf, Ar Z .int 4 g_shf) :: Rr) ∧ Sx 257698037760 (own_sum (fun t => w t * B (S t)) ta kt) z
set_option maxRecDepth 65536 in
set_option maxHeartbeats 40000000 in
theorem rmVA00 (l : Launch) (Z : State) (a0 : Array Value) (hw : ∀ d ∈ tables_1, d.before a0 Z = true) (ws : List Jvm.Cond) (r ks rgs ns fch fk kl frg fac fcm ftr acs cms sus prb : Addr) (lr so nr bo shf vcn bl : Addr) (va : Addr) (shc rwc usd : Int32) (g_ftr g_sus gw gv g_bl g_bo g_shf : Nat → Value) (ch mv ta kt tb : Nat) (S : Nat → Nat) (w B : Nat → Int) (Rr : List (Addr × (Cell → Prop))) (h0 : Heap) (n0 : Nat) (W0 : Wo n0 h0 ((r, oR Z [(kR ks), (kR rgs), (kR ns), (kR fch), (kR fk), (kR kl), (kR frg), (kR fac), (kR fcm), (kR ftr), (kR acs), (kR cms), (kR sus), (kR prb), (kI shc), (kR lr), (kI rwc), (kR so), (kR nr), (kR bo), (kR shf), (kR vcn), (kR bl), (kI 2), (kI usd)]) :: (ftr, Ar Z .int 17 g_ftr) :: (sus, Ar Z .int 64 g_sus) :: (prb, Ar Z .double 64 gw) :: (va, Ar Z .double 8 gv) :: (bl, Pg Z .double 4 g_bl) :: (bo, Ar Z .int 4 g_bo) :: (shf, Ar Z .int 4 g_shf) :: Rr)) (hch : ch < 2) (htb : tb ≤ 4) (hmv : tb + mv ≤ 64) (htk : ta + kt = tb) (hfa : g_ftr ch = .int (Int32.ofNat ta)) (hft : g_ftr (ch + 1) = .int (Int32.ofNat tb)) (hS : ∀ t, t < tb → g_sus t = .int (Int32.ofNat (S t)) ∧ S t < 8) (hW : ∀ t, t < tb → Sx 30 (w t) (own_dv (gw (t + mv)))) (hV : ∀ j, j < 8 → Vx (B j) (own_dv (gv j))) (h5 : g_bl 0 = .ref prb) (h7 : g_bo 0 = .int 0) (h9 : g_shf 0 = .int (Int32.ofNat mv)) :
    MetFree l y_va (head1 (Jvm.Cond.code y_va prog_87_method_32_code 9 (some .double) :: ws) ({ frames := 0, cells := 0, slots := 0, locals := 0 } : Room)) (fun aa U => aa = #[(.ref r), (.int (0 : Int32)), (.int (Int32.ofNat ch)), (.ref va)] ∧ Z.Warmed39 U.vm ∧ U.heap = h0) (fun _ _ _ _ _ => True) (fun _ U ou U' => ∃ v L, ou = .returned v ∧ QrmVA00 Z r ks rgs ns fch fk kl frg fac fcm ftr acs cms sus prb lr so nr bo shf vcn bl va shc rwc usd g_ftr g_sus gw gv g_bl g_bo g_shf ch mv ta kt tb S w B Rr n0 v U'.heap L ∧ FrameEnd U ou U' L ({ frames := 0, cells := 0, slots := 0, locals := 0 } : Room).cells ({ frames := 0, cells := 0, slots := 0, locals := 0 } : Room).slots) := by
  refine MetFree.of_bodySF (plainFor_of_name pn_Rows) hisR ?_
  intro p e s m args below meth c s₁ Bd hml0 hP hK
  obtain ⟨rfl, hZ, hh⟩ := hP
  have hx := Bd.exec
  have hby := Bd.bytes
  have hml : c.maxLocals = 9 := hml0
  have hD : ∀ (k : Nat) {pc : Nat} {i : Instr} {n : Nat}, Ld_va[k]? = some (pc, i, n) → decode c.code pc = .ok (i, n) := by intro k pc i n h; exact hb hby (d_va (pc, i, n) (mi k h))
  have hown : s.vm.findClass "com/example/sambre/sambre/engine/Rows" = some m.cls := findClass_of_methodNamed Bd.named
  have hnm := (name_of_methodNamed Bd.named Bd.method).1
  have X0 : Stand p l e ({ frames := 0, cells := 0, slots := 0, locals := 0 } : Room) s m #[(.ref r), (.int (0 : Int32)), (.int (Int32.ofNat ch)), (.ref va)] below meth c s₁ [] 0 0 := Stand.of_body Bd
  have e0 : s₁.heap = h0 := by rw [← hh, Bd.state]; rfl
  have N0 := Fr.nil n0
  obtain ⟨F0, hF0⟩ : ∃ F, F = mkF m 0 #[.val (.ref r), .val (.int (0 : Int32)), .val (.int (Int32.ofNat ch)), .val (.ref va), .unset, .unset, .unset, .unset, .unset] [] := ⟨_, rfl⟩
  have pre0 : ∀ t, Steps p.tables e below (s₁.setTop F0) t → Steps p.tables e below (s₁.setTop (entryFrame m #[(.ref r), (.int (0 : Int32)), (.int (Int32.ofNat ch)), (.ref va)] 9)) t := fun t k => castTop ((ef_rmVA00 m r ks rgs ns fch fk kl frg fac fcm ftr acs cms sus prb lr so nr bo shf vcn bl va shc rwc usd g_ftr g_sus gw gv g_bl g_bo g_shf ch mv ta kt tb S w B).trans hF0.symm) k
  have K0 : Rch p e below s₁ F0 s₁ (mkF m 0 #[.val (.ref r), .val (.int (0 : Int32)), .val (.int (Int32.ofNat ch)), .val (.ref va), .unset, .unset, .unset, .unset, .unset] []) := fun t k => castTop hF0 k
  have K1 : Rc K0 s₁ (mkF m 1 #[sR r, sI 0, sI (Int32.ofNat ch), sR va, sU, sU, sU, sU, sU] [(kR r)]) := fun t k => K0 t (XS.aloadN X0.here hx rfl (hD 0 rfl) rfl rfl k)
  obtain ⟨T2, X2, e2, st2⟩ := getF X0 hx hZ hown (host := "") (Or.inl (hw _ (mi 129 rfl))) Via.refl e0 (W0.fld (i := 0) rfl (j := 17) rfl rfl) (g := K1.g) rfl rfl (hD 1 rfl)
  have K3 : Rc K0 T2 (mkF m 15 #[sR r, sI 0, sI (Int32.ofNat ch), sR va, sU, sU, sU, sU, sU] [(kR r)]) := fun t k => K1 t (st2 t (by
    refine XS.ifnonnullYes X2.here hx rfl (pc0 := 4) (pc' := 14) rfl (hD 2 rfl) rfl (by decide) (by decide) ?_
    refine XS.aloadN X2.here hx rfl (hD 6 rfl) rfl rfl ?_
    exact k))
  obtain ⟨T4, X4, e4, st4⟩ := getF X2 hx hZ hown (host := "") (Or.inl (hw _ (mi 171 rfl))) Via.refl e2 (W0.fld (i := 0) rfl (j := 22) rfl rfl) (g := K3.g) rfl rfl (hD 7 rfl)
  have K5 : Rc K0 T4 (mkF m 19 #[sR r, sI 0, sI (Int32.ofNat ch), sR va, sU, sU, sU, sU, sU] [(kR r), (kR bl)]) := fun t k => K3 t (st4 t (XS.aloadN X4.here hx rfl (hD 8 rfl) rfl rfl k))
  obtain ⟨T6, X6, e6, st6⟩ := getF X4 hx hZ hown (host := "") (Or.inl (hw _ (mi 163 rfl))) Via.refl e4 (W0.fld (i := 0) rfl (j := 19) rfl rfl) (g := K5.g) rfl rfl (hD 9 rfl)
  have K7 : Rc K0 T6 (mkF m 28 #[sR r, sI 0, sI (Int32.ofNat ch), sR va, sR prb, sU, sU, sU, sU] [(kR r)]) := fun t k => K5 t (st6 t (by
    refine XS.iloadN X6.here hx rfl (hD 10 rfl) rfl ?_
    refine ialW X6 hx hZ e6 W0 (i := 6) rfl (j := (0 : Int32)) (k := 0) (by decide) (by decide) (by decide) (v := (.int (0 : Int32))) h7 (g := (mkF m 23 #[sR r, sI 0, sI (Int32.ofNat ch), sR va, sU, sU, sU, sU, sU] [(kI 0), (kR bo), (kR bl)])) rfl rfl (hD 11 rfl) _ ?_
    refine aalW X6 hx hZ e6 W0 (i := 5) rfl (fun _ q => q.1) rfl (j := (0 : Int32)) (k := 0) (by decide) (by decide) (by decide) (v := (.ref prb)) h5 (g := (mkF m 24 #[sR r, sI 0, sI (Int32.ofNat ch), sR va, sU, sU, sU, sU, sU] [(kI 0), (kR bl)])) rfl rfl (hD 12 rfl) _ ?_
    refine XS.astore X6.here hx rfl (hD 13 rfl) rfl rfl (l' := #[sR r, sI 0, sI (Int32.ofNat ch), sR va, sR prb, sU, sU, sU, sU]) rfl ?_
    refine XS.aloadN X6.here hx rfl (hD 14 rfl) rfl rfl ?_
    exact k))
  obtain ⟨T8, X8, e8, st8⟩ := getF X6 hx hZ hown (host := "") (Or.inl (hw _ (mi 129 rfl))) Via.refl e6 (W0.fld (i := 0) rfl (j := 17) rfl rfl) (g := K7.g) rfl rfl (hD 15 rfl)
  have K9 : Rc K0 T8 (mkF m 39 #[sR r, sI 0, sI (Int32.ofNat ch), sR va, sR prb, sU, sU, sU, sU] [(kR r)]) := fun t k => K7 t (st8 t (by
    refine XS.ifnonnullYes X8.here hx rfl (pc0 := 31) (pc' := 38) rfl (hD 16 rfl) rfl (by decide) (by decide) ?_
    refine XS.aloadN X8.here hx rfl (hD 19 rfl) rfl rfl ?_
    exact k))
  obtain ⟨T10, X10, e10, st10⟩ := getF X8 hx hZ hown (host := "") (Or.inl (hw _ (mi 165 rfl))) Via.refl e8 (W0.fld (i := 0) rfl (j := 20) rfl rfl) (g := K9.g) rfl rfl (hD 20 rfl)
  have K11 : Rc K0 T10 (mkF m 50 #[sR r, sI 0, sI (Int32.ofNat ch), sR va, sR prb, sI (Int32.ofNat mv), sD 0, sV, sU] [(kR r)]) := fun t k => K9 t (st10 t (by
    refine XS.iloadN X10.here hx rfl (hD 21 rfl) rfl ?_
    refine ialW X10 hx hZ e10 W0 (i := 7) rfl (j := (0 : Int32)) (k := 0) (by decide) (by decide) (by decide) (v := (.int (Int32.ofNat mv))) h9 (g := (mkF m 43 #[sR r, sI 0, sI (Int32.ofNat ch), sR va, sR prb, sU, sU, sU, sU] [(kI 0), (kR shf)])) rfl rfl (hD 22 rfl) _ ?_
    refine XS.istore X10.here hx rfl (hD 23 rfl) rfl (l' := #[sR r, sI 0, sI (Int32.ofNat ch), sR va, sR prb, sI (Int32.ofNat mv), sU, sU, sU]) rfl ?_
    refine XS.dconst0 X10.here hx rfl (hD 24 rfl) rfl ?_
    refine XS.dstore X10.here hx rfl (hD 25 rfl) rfl (l' := #[sR r, sI 0, sI (Int32.ofNat ch), sR va, sR prb, sI (Int32.ofNat mv), sD 0, sV, sU]) rfl ?_
    refine XS.aloadN X10.here hx rfl (hD 26 rfl) rfl rfl ?_
    exact k))
  obtain ⟨T12, X12, e12, st12⟩ := getF X10 hx hZ hown (host := "") (Or.inl (hw _ (mi 32 rfl))) Via.refl e10 (W0.fld (i := 0) rfl (j := 9) rfl rfl) (g := K11.g) rfl rfl (hD 27 rfl)
  have K13 : Rc K0 T12 (mkF m 57 #[sR r, sI 0, sI (Int32.ofNat ch), sR va, sR prb, sI (Int32.ofNat mv), sD 0, sV, sI (Int32.ofNat ta)] []) := fun t k => K11 t (st12 t (by
    refine XS.iloadN X12.here hx rfl (hD 28 rfl) rfl ?_
    refine ialW X12 hx hZ e12 W0 (i := 1) rfl (j := (Int32.ofNat ch)) (k := ch) (own_nn (by omega)) (own_tn (by omega)) (by omega) (v := (.int (Int32.ofNat ta))) hfa (g := (mkF m 54 #[sR r, sI 0, sI (Int32.ofNat ch), sR va, sR prb, sI (Int32.ofNat mv), sD 0, sV, sU] [(kI (Int32.ofNat ch)), (kR ftr)])) rfl rfl (hD 29 rfl) _ ?_
    refine XS.istore X12.here hx rfl (hD 30 rfl) rfl (l' := #[sR r, sI 0, sI (Int32.ofNat ch), sR va, sR prb, sI (Int32.ofNat mv), sD 0, sV, sI (Int32.ofNat ta)]) rfl ?_
    exact k))
  obtain ⟨T14, sg14, t14, X14, e14, K14, hsx14⟩ := own_vl r ftr sus prb va (.ref ks) (.ref rgs) (.ref ns) (.ref fch) (.ref fk) (.ref kl) (.ref frg) (.ref fac) (.ref fcm) (.ref acs) (.ref cms) (.ref prb) (.int shc) (.ref lr) (.int rwc) (.ref so) (.ref nr) (.ref bo) (.ref shf) (.ref vcn) (.ref bl) (.int (2 : Int32)) (.int usd) g_ftr g_sus gw gv ch mv tb (.val (.int (0 : Int32))) ((bl, Pg Z .double 4 g_bl) :: (bo, Ar Z .int 4 g_bo) :: (shf, Ar Z .int 4 g_shf) :: Rr) hx hZ hw hby hml hown W0 hch htb hmv hft hS hW hV kt ta 0 0 0 T12 (by omega) (by omega) (Jvm.OwnFp.Sx.zero.mono (by decide)) X12 e12 K13
  have K15 : Rc K0 T14 (mkF m 101 #[sR r, sI 0, sI (Int32.ofNat ch), sR va, sR prb, sI (Int32.ofNat mv), sD sg14, sV, sI t14] [(kD sg14)]) := fun t k => K14 t (XS.dload X14.here hx rfl (hD 56 rfl) rfl k)
  obtain ⟨fs, hr, hrun, hended, hWm, hsame⟩ := X14.leave (v := some (.double sg14)) (fun h => by rw [Bd.returns] at h; cases h)
  refine ⟨_, _, pre0 _ (K15 _ (Jvm.OwnKit.retD X14 hx Bd.returns (hD 57 rfl) hr)), hrun, hended, _, _, rfl, ?_, ⟨_, rfl⟩, hWm, hsame.mono (by decide) (by decide)⟩
  show QrmVA00 Z r ks rgs ns fch fk kl frg fac fcm ftr acs cms sus prb lr so nr bo shf vcn bl va shc rwc usd g_ftr g_sus gw gv g_bl g_bo g_shf ch mv ta kt tb S w B Rr n0 _ T14.heap _
  rw [e14]
  exact ⟨_, rfl, N0, W0, by rw [Int.zero_add] at hsx14; exact hsx14⟩
theorem ef_rmVA01 (m : MethodId) (r ks rgs ns fch fk kl frg fac fcm ftr acs cms sus prb : Addr) (lr so nr bo shf vcn bl : Addr) (bk : Addr) (va : Addr) (shc rwc usd : Int32) (g_ftr g_sus gw gv g_bl g_bo g_shf : Nat → Value) (ch mv ta kt tb : Nat) (S : Nat → Nat) (w B : Nat → Int) : entryFrame m #[(.ref r), (.int (0 : Int32)), (.int (Int32.ofNat ch)), (.ref va)] 9 = mkF m 0 #[.val (.ref r), .val (.int (0 : Int32)), .val (.int (Int32.ofNat ch)), .val (.ref va), .unset, .unset, .unset, .unset, .unset] [] := by first | (simp [entryFrame, mkF, argsToLocals, Value.category]; done) | rfl
def QrmVA01 (Z : State) (r ks rgs ns fch fk kl frg fac fcm ftr acs cms sus prb : Addr) (lr so nr bo shf vcn bl : Addr) (bk : Addr) (va : Addr) (shc rwc usd : Int32) (g_ftr g_sus gw gv g_bl g_bo g_shf : Nat → Value) (ch mv ta kt tb : Nat) (S : Nat → Nat) (w B : Nat → Int) (Rr : List (Addr × (Cell → Prop))) (n0 : Nat) (v : Option Value) (h : Heap) (L : List Loc) : Prop := ∃ z : UInt64, v = some (.double z) ∧ Fr n0 L ∧ Wo n0 h ((r, oR Z [(kR ks), (kR rgs), (kR ns), (kR fch), (kR fk), (kR kl), (kR frg), (kR fac), (kR fcm), (kR ftr), (kR acs), (kR cms), (kR sus), (kR prb), (kI shc), (kR lr), (kI rwc), (kR so), (kR nr), (kR bo), (kR shf), (kR vcn), (kR bl), (kI 2), (kI usd)]) :: (ftr, Ar Z .int 17 g_ftr) :: (sus, Ar Z .int 64 g_sus) :: (bk, Ar Z .double 64 gw) :: (va, Ar Z .double 8 gv) :: (bl, Pg Z .double 4 g_bl) :: (bo, Ar Z .int 4 g_bo) :: (shf, Ar Z .int 4 g_shf) :: Rr) ∧ Sx 257698037760 (own_sum (fun t => w t * B (S t)) ta kt) z
set_option maxRecDepth 65536 in
set_option maxHeartbeats 40000000 in
theorem rmVA01 (l : Launch) (Z : State) (a0 : Array Value) (hw : ∀ d ∈ tables_1, d.before a0 Z = true) (ws : List Jvm.Cond) (r ks rgs ns fch fk kl frg fac fcm ftr acs cms sus prb : Addr) (lr so nr bo shf vcn bl : Addr) (bk : Addr) (va : Addr) (shc rwc usd : Int32) (g_ftr g_sus gw gv g_bl g_bo g_shf : Nat → Value) (ch mv ta kt tb : Nat) (S : Nat → Nat) (w B : Nat → Int) (Rr : List (Addr × (Cell → Prop))) (h0 : Heap) (n0 : Nat) (W0 : Wo n0 h0 ((r, oR Z [(kR ks), (kR rgs), (kR ns), (kR fch), (kR fk), (kR kl), (kR frg), (kR fac), (kR fcm), (kR ftr), (kR acs), (kR cms), (kR sus), (kR prb), (kI shc), (kR lr), (kI rwc), (kR so), (kR nr), (kR bo), (kR shf), (kR vcn), (kR bl), (kI 2), (kI usd)]) :: (ftr, Ar Z .int 17 g_ftr) :: (sus, Ar Z .int 64 g_sus) :: (bk, Ar Z .double 64 gw) :: (va, Ar Z .double 8 gv) :: (bl, Pg Z .double 4 g_bl) :: (bo, Ar Z .int 4 g_bo) :: (shf, Ar Z .int 4 g_shf) :: Rr)) (hch : ch < 2) (htb : tb ≤ 4) (hmv : tb + mv ≤ 64) (htk : ta + kt = tb) (hfa : g_ftr ch = .int (Int32.ofNat ta)) (hft : g_ftr (ch + 1) = .int (Int32.ofNat tb)) (hS : ∀ t, t < tb → g_sus t = .int (Int32.ofNat (S t)) ∧ S t < 8) (hW : ∀ t, t < tb → Sx 30 (w t) (own_dv (gw (t + mv)))) (hV : ∀ j, j < 8 → Vx (B j) (own_dv (gv j))) (h5 : g_bl 1 = .ref bk) (h7 : g_bo 0 = .int 1) (h9 : g_shf 0 = .int (Int32.ofNat mv)) :
    MetFree l y_va (head1 (Jvm.Cond.code y_va prog_87_method_32_code 9 (some .double) :: ws) ({ frames := 0, cells := 0, slots := 0, locals := 0 } : Room)) (fun aa U => aa = #[(.ref r), (.int (0 : Int32)), (.int (Int32.ofNat ch)), (.ref va)] ∧ Z.Warmed39 U.vm ∧ U.heap = h0) (fun _ _ _ _ _ => True) (fun _ U ou U' => ∃ v L, ou = .returned v ∧ QrmVA01 Z r ks rgs ns fch fk kl frg fac fcm ftr acs cms sus prb lr so nr bo shf vcn bl bk va shc rwc usd g_ftr g_sus gw gv g_bl g_bo g_shf ch mv ta kt tb S w B Rr n0 v U'.heap L ∧ FrameEnd U ou U' L ({ frames := 0, cells := 0, slots := 0, locals := 0 } : Room).cells ({ frames := 0, cells := 0, slots := 0, locals := 0 } : Room).slots) := by
  refine MetFree.of_bodySF (plainFor_of_name pn_Rows) hisR ?_
  intro p e s m args below meth c s₁ Bd hml0 hP hK
  obtain ⟨rfl, hZ, hh⟩ := hP
  have hx := Bd.exec
  have hby := Bd.bytes
  have hml : c.maxLocals = 9 := hml0
  have hD : ∀ (k : Nat) {pc : Nat} {i : Instr} {n : Nat}, Ld_va[k]? = some (pc, i, n) → decode c.code pc = .ok (i, n) := by intro k pc i n h; exact hb hby (d_va (pc, i, n) (mi k h))
  have hown : s.vm.findClass "com/example/sambre/sambre/engine/Rows" = some m.cls := findClass_of_methodNamed Bd.named
  have hnm := (name_of_methodNamed Bd.named Bd.method).1
  have X0 : Stand p l e ({ frames := 0, cells := 0, slots := 0, locals := 0 } : Room) s m #[(.ref r), (.int (0 : Int32)), (.int (Int32.ofNat ch)), (.ref va)] below meth c s₁ [] 0 0 := Stand.of_body Bd
  have e0 : s₁.heap = h0 := by rw [← hh, Bd.state]; rfl
  have N0 := Fr.nil n0
  obtain ⟨F0, hF0⟩ : ∃ F, F = mkF m 0 #[.val (.ref r), .val (.int (0 : Int32)), .val (.int (Int32.ofNat ch)), .val (.ref va), .unset, .unset, .unset, .unset, .unset] [] := ⟨_, rfl⟩
  have pre0 : ∀ t, Steps p.tables e below (s₁.setTop F0) t → Steps p.tables e below (s₁.setTop (entryFrame m #[(.ref r), (.int (0 : Int32)), (.int (Int32.ofNat ch)), (.ref va)] 9)) t := fun t k => castTop ((ef_rmVA01 m r ks rgs ns fch fk kl frg fac fcm ftr acs cms sus prb lr so nr bo shf vcn bl bk va shc rwc usd g_ftr g_sus gw gv g_bl g_bo g_shf ch mv ta kt tb S w B).trans hF0.symm) k
  have K0 : Rch p e below s₁ F0 s₁ (mkF m 0 #[.val (.ref r), .val (.int (0 : Int32)), .val (.int (Int32.ofNat ch)), .val (.ref va), .unset, .unset, .unset, .unset, .unset] []) := fun t k => castTop hF0 k
  have K1 : Rc K0 s₁ (mkF m 1 #[sR r, sI 0, sI (Int32.ofNat ch), sR va, sU, sU, sU, sU, sU] [(kR r)]) := fun t k => K0 t (XS.aloadN X0.here hx rfl (hD 0 rfl) rfl rfl k)
  obtain ⟨T2, X2, e2, st2⟩ := getF X0 hx hZ hown (host := "") (Or.inl (hw _ (mi 129 rfl))) Via.refl e0 (W0.fld (i := 0) rfl (j := 17) rfl rfl) (g := K1.g) rfl rfl (hD 1 rfl)
  have K3 : Rc K0 T2 (mkF m 15 #[sR r, sI 0, sI (Int32.ofNat ch), sR va, sU, sU, sU, sU, sU] [(kR r)]) := fun t k => K1 t (st2 t (by
    refine XS.ifnonnullYes X2.here hx rfl (pc0 := 4) (pc' := 14) rfl (hD 2 rfl) rfl (by decide) (by decide) ?_
    refine XS.aloadN X2.here hx rfl (hD 6 rfl) rfl rfl ?_
    exact k))
  obtain ⟨T4, X4, e4, st4⟩ := getF X2 hx hZ hown (host := "") (Or.inl (hw _ (mi 171 rfl))) Via.refl e2 (W0.fld (i := 0) rfl (j := 22) rfl rfl) (g := K3.g) rfl rfl (hD 7 rfl)
  have K5 : Rc K0 T4 (mkF m 19 #[sR r, sI 0, sI (Int32.ofNat ch), sR va, sU, sU, sU, sU, sU] [(kR r), (kR bl)]) := fun t k => K3 t (st4 t (XS.aloadN X4.here hx rfl (hD 8 rfl) rfl rfl k))
  obtain ⟨T6, X6, e6, st6⟩ := getF X4 hx hZ hown (host := "") (Or.inl (hw _ (mi 163 rfl))) Via.refl e4 (W0.fld (i := 0) rfl (j := 19) rfl rfl) (g := K5.g) rfl rfl (hD 9 rfl)
  have K7 : Rc K0 T6 (mkF m 28 #[sR r, sI 0, sI (Int32.ofNat ch), sR va, sR bk, sU, sU, sU, sU] [(kR r)]) := fun t k => K5 t (st6 t (by
    refine XS.iloadN X6.here hx rfl (hD 10 rfl) rfl ?_
    refine ialW X6 hx hZ e6 W0 (i := 6) rfl (j := (0 : Int32)) (k := 0) (by decide) (by decide) (by decide) (v := (.int (1 : Int32))) h7 (g := (mkF m 23 #[sR r, sI 0, sI (Int32.ofNat ch), sR va, sU, sU, sU, sU, sU] [(kI 0), (kR bo), (kR bl)])) rfl rfl (hD 11 rfl) _ ?_
    refine aalW X6 hx hZ e6 W0 (i := 5) rfl (fun _ q => q.1) rfl (j := (1 : Int32)) (k := 1) (by decide) (by decide) (by decide) (v := (.ref bk)) h5 (g := (mkF m 24 #[sR r, sI 0, sI (Int32.ofNat ch), sR va, sU, sU, sU, sU, sU] [(kI 1), (kR bl)])) rfl rfl (hD 12 rfl) _ ?_
    refine XS.astore X6.here hx rfl (hD 13 rfl) rfl rfl (l' := #[sR r, sI 0, sI (Int32.ofNat ch), sR va, sR bk, sU, sU, sU, sU]) rfl ?_
    refine XS.aloadN X6.here hx rfl (hD 14 rfl) rfl rfl ?_
    exact k))
  obtain ⟨T8, X8, e8, st8⟩ := getF X6 hx hZ hown (host := "") (Or.inl (hw _ (mi 129 rfl))) Via.refl e6 (W0.fld (i := 0) rfl (j := 17) rfl rfl) (g := K7.g) rfl rfl (hD 15 rfl)
  have K9 : Rc K0 T8 (mkF m 39 #[sR r, sI 0, sI (Int32.ofNat ch), sR va, sR bk, sU, sU, sU, sU] [(kR r)]) := fun t k => K7 t (st8 t (by
    refine XS.ifnonnullYes X8.here hx rfl (pc0 := 31) (pc' := 38) rfl (hD 16 rfl) rfl (by decide) (by decide) ?_
    refine XS.aloadN X8.here hx rfl (hD 19 rfl) rfl rfl ?_
    exact k))
  obtain ⟨T10, X10, e10, st10⟩ := getF X8 hx hZ hown (host := "") (Or.inl (hw _ (mi 165 rfl))) Via.refl e8 (W0.fld (i := 0) rfl (j := 20) rfl rfl) (g := K9.g) rfl rfl (hD 20 rfl)
  have K11 : Rc K0 T10 (mkF m 50 #[sR r, sI 0, sI (Int32.ofNat ch), sR va, sR bk, sI (Int32.ofNat mv), sD 0, sV, sU] [(kR r)]) := fun t k => K9 t (st10 t (by
    refine XS.iloadN X10.here hx rfl (hD 21 rfl) rfl ?_
    refine ialW X10 hx hZ e10 W0 (i := 7) rfl (j := (0 : Int32)) (k := 0) (by decide) (by decide) (by decide) (v := (.int (Int32.ofNat mv))) h9 (g := (mkF m 43 #[sR r, sI 0, sI (Int32.ofNat ch), sR va, sR bk, sU, sU, sU, sU] [(kI 0), (kR shf)])) rfl rfl (hD 22 rfl) _ ?_
    refine XS.istore X10.here hx rfl (hD 23 rfl) rfl (l' := #[sR r, sI 0, sI (Int32.ofNat ch), sR va, sR bk, sI (Int32.ofNat mv), sU, sU, sU]) rfl ?_
    refine XS.dconst0 X10.here hx rfl (hD 24 rfl) rfl ?_
    refine XS.dstore X10.here hx rfl (hD 25 rfl) rfl (l' := #[sR r, sI 0, sI (Int32.ofNat ch), sR va, sR bk, sI (Int32.ofNat mv), sD 0, sV, sU]) rfl ?_
    refine XS.aloadN X10.here hx rfl (hD 26 rfl) rfl rfl ?_
    exact k))
  obtain ⟨T12, X12, e12, st12⟩ := getF X10 hx hZ hown (host := "") (Or.inl (hw _ (mi 32 rfl))) Via.refl e10 (W0.fld (i := 0) rfl (j := 9) rfl rfl) (g := K11.g) rfl rfl (hD 27 rfl)
  have K13 : Rc K0 T12 (mkF m 57 #[sR r, sI 0, sI (Int32.ofNat ch), sR va, sR bk, sI (Int32.ofNat mv), sD 0, sV, sI (Int32.ofNat ta)] []) := fun t k => K11 t (st12 t (by
    refine XS.iloadN X12.here hx rfl (hD 28 rfl) rfl ?_
    refine ialW X12 hx hZ e12 W0 (i := 1) rfl (j := (Int32.ofNat ch)) (k := ch) (own_nn (by omega)) (own_tn (by omega)) (by omega) (v := (.int (Int32.ofNat ta))) hfa (g := (mkF m 54 #[sR r, sI 0, sI (Int32.ofNat ch), sR va, sR bk, sI (Int32.ofNat mv), sD 0, sV, sU] [(kI (Int32.ofNat ch)), (kR ftr)])) rfl rfl (hD 29 rfl) _ ?_
    refine XS.istore X12.here hx rfl (hD 30 rfl) rfl (l' := #[sR r, sI 0, sI (Int32.ofNat ch), sR va, sR bk, sI (Int32.ofNat mv), sD 0, sV, sI (Int32.ofNat ta)]) rfl ?_
    exact k))
  obtain ⟨T14, sg14, t14, X14, e14, K14, hsx14⟩ := own_vl r ftr sus bk va (.ref ks) (.ref rgs) (.ref ns) (.ref fch) (.ref fk) (.ref kl) (.ref frg) (.ref fac) (.ref fcm) (.ref acs) (.ref cms) (.ref prb) (.int shc) (.ref lr) (.int rwc) (.ref so) (.ref nr) (.ref bo) (.ref shf) (.ref vcn) (.ref bl) (.int (2 : Int32)) (.int usd) g_ftr g_sus gw gv ch mv tb (.val (.int (0 : Int32))) ((bl, Pg Z .double 4 g_bl) :: (bo, Ar Z .int 4 g_bo) :: (shf, Ar Z .int 4 g_shf) :: Rr) hx hZ hw hby hml hown W0 hch htb hmv hft hS hW hV kt ta 0 0 0 T12 (by omega) (by omega) (Jvm.OwnFp.Sx.zero.mono (by decide)) X12 e12 K13
  have K15 : Rc K0 T14 (mkF m 101 #[sR r, sI 0, sI (Int32.ofNat ch), sR va, sR bk, sI (Int32.ofNat mv), sD sg14, sV, sI t14] [(kD sg14)]) := fun t k => K14 t (XS.dload X14.here hx rfl (hD 56 rfl) rfl k)
  obtain ⟨fs, hr, hrun, hended, hWm, hsame⟩ := X14.leave (v := some (.double sg14)) (fun h => by rw [Bd.returns] at h; cases h)
  refine ⟨_, _, pre0 _ (K15 _ (Jvm.OwnKit.retD X14 hx Bd.returns (hD 57 rfl) hr)), hrun, hended, _, _, rfl, ?_, ⟨_, rfl⟩, hWm, hsame.mono (by decide) (by decide)⟩
  show QrmVA01 Z r ks rgs ns fch fk kl frg fac fcm ftr acs cms sus prb lr so nr bo shf vcn bl bk va shc rwc usd g_ftr g_sus gw gv g_bl g_bo g_shf ch mv ta kt tb S w B Rr n0 _ T14.heap _
  rw [e14]
  exact ⟨_, rfl, N0, W0, by rw [Int.zero_add] at hsx14; exact hsx14⟩
theorem ef_rmVA11 (m : MethodId) (r ks rgs ns fch fk kl frg fac fcm ftr acs cms sus prb : Addr) (lr so nr bo shf vcn bl : Addr) (bk : Addr) (va : Addr) (shc rwc usd : Int32) (g_ftr g_sus gw gv g_bl g_bo g_shf : Nat → Value) (ch mv ta kt tb : Nat) (S : Nat → Nat) (w B : Nat → Int) : entryFrame m #[(.ref r), (.int (1 : Int32)), (.int (Int32.ofNat ch)), (.ref va)] 9 = mkF m 0 #[.val (.ref r), .val (.int (1 : Int32)), .val (.int (Int32.ofNat ch)), .val (.ref va), .unset, .unset, .unset, .unset, .unset] [] := by first | (simp [entryFrame, mkF, argsToLocals, Value.category]; done) | rfl
def QrmVA11 (Z : State) (r ks rgs ns fch fk kl frg fac fcm ftr acs cms sus prb : Addr) (lr so nr bo shf vcn bl : Addr) (bk : Addr) (va : Addr) (shc rwc usd : Int32) (g_ftr g_sus gw gv g_bl g_bo g_shf : Nat → Value) (ch mv ta kt tb : Nat) (S : Nat → Nat) (w B : Nat → Int) (Rr : List (Addr × (Cell → Prop))) (n0 : Nat) (v : Option Value) (h : Heap) (L : List Loc) : Prop := ∃ z : UInt64, v = some (.double z) ∧ Fr n0 L ∧ Wo n0 h ((r, oR Z [(kR ks), (kR rgs), (kR ns), (kR fch), (kR fk), (kR kl), (kR frg), (kR fac), (kR fcm), (kR ftr), (kR acs), (kR cms), (kR sus), (kR prb), (kI shc), (kR lr), (kI rwc), (kR so), (kR nr), (kR bo), (kR shf), (kR vcn), (kR bl), (kI 2), (kI usd)]) :: (ftr, Ar Z .int 17 g_ftr) :: (sus, Ar Z .int 64 g_sus) :: (bk, Ar Z .double 64 gw) :: (va, Ar Z .double 8 gv) :: (bl, Pg Z .double 4 g_bl) :: (bo, Ar Z .int 4 g_bo) :: (shf, Ar Z .int 4 g_shf) :: Rr) ∧ Sx 257698037760 (own_sum (fun t => w t * B (S t)) ta kt) z
set_option maxRecDepth 65536 in
set_option maxHeartbeats 40000000 in
theorem rmVA11 (l : Launch) (Z : State) (a0 : Array Value) (hw : ∀ d ∈ tables_1, d.before a0 Z = true) (ws : List Jvm.Cond) (r ks rgs ns fch fk kl frg fac fcm ftr acs cms sus prb : Addr) (lr so nr bo shf vcn bl : Addr) (bk : Addr) (va : Addr) (shc rwc usd : Int32) (g_ftr g_sus gw gv g_bl g_bo g_shf : Nat → Value) (ch mv ta kt tb : Nat) (S : Nat → Nat) (w B : Nat → Int) (Rr : List (Addr × (Cell → Prop))) (h0 : Heap) (n0 : Nat) (W0 : Wo n0 h0 ((r, oR Z [(kR ks), (kR rgs), (kR ns), (kR fch), (kR fk), (kR kl), (kR frg), (kR fac), (kR fcm), (kR ftr), (kR acs), (kR cms), (kR sus), (kR prb), (kI shc), (kR lr), (kI rwc), (kR so), (kR nr), (kR bo), (kR shf), (kR vcn), (kR bl), (kI 2), (kI usd)]) :: (ftr, Ar Z .int 17 g_ftr) :: (sus, Ar Z .int 64 g_sus) :: (bk, Ar Z .double 64 gw) :: (va, Ar Z .double 8 gv) :: (bl, Pg Z .double 4 g_bl) :: (bo, Ar Z .int 4 g_bo) :: (shf, Ar Z .int 4 g_shf) :: Rr)) (hch : ch < 2) (htb : tb ≤ 4) (hmv : tb + mv ≤ 64) (htk : ta + kt = tb) (hfa : g_ftr ch = .int (Int32.ofNat ta)) (hft : g_ftr (ch + 1) = .int (Int32.ofNat tb)) (hS : ∀ t, t < tb → g_sus t = .int (Int32.ofNat (S t)) ∧ S t < 8) (hW : ∀ t, t < tb → Sx 30 (w t) (own_dv (gw (t + mv)))) (hV : ∀ j, j < 8 → Vx (B j) (own_dv (gv j))) (h5 : g_bl 1 = .ref bk) (h7 : g_bo 1 = .int 1) (h9 : g_shf 1 = .int (Int32.ofNat mv)) :
    MetFree l y_va (head1 (Jvm.Cond.code y_va prog_87_method_32_code 9 (some .double) :: ws) ({ frames := 0, cells := 0, slots := 0, locals := 0 } : Room)) (fun aa U => aa = #[(.ref r), (.int (1 : Int32)), (.int (Int32.ofNat ch)), (.ref va)] ∧ Z.Warmed39 U.vm ∧ U.heap = h0) (fun _ _ _ _ _ => True) (fun _ U ou U' => ∃ v L, ou = .returned v ∧ QrmVA11 Z r ks rgs ns fch fk kl frg fac fcm ftr acs cms sus prb lr so nr bo shf vcn bl bk va shc rwc usd g_ftr g_sus gw gv g_bl g_bo g_shf ch mv ta kt tb S w B Rr n0 v U'.heap L ∧ FrameEnd U ou U' L ({ frames := 0, cells := 0, slots := 0, locals := 0 } : Room).cells ({ frames := 0, cells := 0, slots := 0, locals := 0 } : Room).slots) := by
  refine MetFree.of_bodySF (plainFor_of_name pn_Rows) hisR ?_
  intro p e s m args below meth c s₁ Bd hml0 hP hK
  obtain ⟨rfl, hZ, hh⟩ := hP
  have hx := Bd.exec
  have hby := Bd.bytes
  have hml : c.maxLocals = 9 := hml0
  have hD : ∀ (k : Nat) {pc : Nat} {i : Instr} {n : Nat}, Ld_va[k]? = some (pc, i, n) → decode c.code pc = .ok (i, n) := by intro k pc i n h; exact hb hby (d_va (pc, i, n) (mi k h))
  have hown : s.vm.findClass "com/example/sambre/sambre/engine/Rows" = some m.cls := findClass_of_methodNamed Bd.named
  have hnm := (name_of_methodNamed Bd.named Bd.method).1
  have X0 : Stand p l e ({ frames := 0, cells := 0, slots := 0, locals := 0 } : Room) s m #[(.ref r), (.int (1 : Int32)), (.int (Int32.ofNat ch)), (.ref va)] below meth c s₁ [] 0 0 := Stand.of_body Bd
  have e0 : s₁.heap = h0 := by rw [← hh, Bd.state]; rfl
  have N0 := Fr.nil n0
  obtain ⟨F0, hF0⟩ : ∃ F, F = mkF m 0 #[.val (.ref r), .val (.int (1 : Int32)), .val (.int (Int32.ofNat ch)), .val (.ref va), .unset, .unset, .unset, .unset, .unset] [] := ⟨_, rfl⟩
  have pre0 : ∀ t, Steps p.tables e below (s₁.setTop F0) t → Steps p.tables e below (s₁.setTop (entryFrame m #[(.ref r), (.int (1 : Int32)), (.int (Int32.ofNat ch)), (.ref va)] 9)) t := fun t k => castTop ((ef_rmVA11 m r ks rgs ns fch fk kl frg fac fcm ftr acs cms sus prb lr so nr bo shf vcn bl bk va shc rwc usd g_ftr g_sus gw gv g_bl g_bo g_shf ch mv ta kt tb S w B).trans hF0.symm) k
  have K0 : Rch p e below s₁ F0 s₁ (mkF m 0 #[.val (.ref r), .val (.int (1 : Int32)), .val (.int (Int32.ofNat ch)), .val (.ref va), .unset, .unset, .unset, .unset, .unset] []) := fun t k => castTop hF0 k
  have K1 : Rc K0 s₁ (mkF m 1 #[sR r, sI 1, sI (Int32.ofNat ch), sR va, sU, sU, sU, sU, sU] [(kR r)]) := fun t k => K0 t (XS.aloadN X0.here hx rfl (hD 0 rfl) rfl rfl k)
  obtain ⟨T2, X2, e2, st2⟩ := getF X0 hx hZ hown (host := "") (Or.inl (hw _ (mi 129 rfl))) Via.refl e0 (W0.fld (i := 0) rfl (j := 17) rfl rfl) (g := K1.g) rfl rfl (hD 1 rfl)
  have K3 : Rc K0 T2 (mkF m 15 #[sR r, sI 1, sI (Int32.ofNat ch), sR va, sU, sU, sU, sU, sU] [(kR r)]) := fun t k => K1 t (st2 t (by
    refine XS.ifnonnullYes X2.here hx rfl (pc0 := 4) (pc' := 14) rfl (hD 2 rfl) rfl (by decide) (by decide) ?_
    refine XS.aloadN X2.here hx rfl (hD 6 rfl) rfl rfl ?_
    exact k))
  obtain ⟨T4, X4, e4, st4⟩ := getF X2 hx hZ hown (host := "") (Or.inl (hw _ (mi 171 rfl))) Via.refl e2 (W0.fld (i := 0) rfl (j := 22) rfl rfl) (g := K3.g) rfl rfl (hD 7 rfl)
  have K5 : Rc K0 T4 (mkF m 19 #[sR r, sI 1, sI (Int32.ofNat ch), sR va, sU, sU, sU, sU, sU] [(kR r), (kR bl)]) := fun t k => K3 t (st4 t (XS.aloadN X4.here hx rfl (hD 8 rfl) rfl rfl k))
  obtain ⟨T6, X6, e6, st6⟩ := getF X4 hx hZ hown (host := "") (Or.inl (hw _ (mi 163 rfl))) Via.refl e4 (W0.fld (i := 0) rfl (j := 19) rfl rfl) (g := K5.g) rfl rfl (hD 9 rfl)
  have K7 : Rc K0 T6 (mkF m 28 #[sR r, sI 1, sI (Int32.ofNat ch), sR va, sR bk, sU, sU, sU, sU] [(kR r)]) := fun t k => K5 t (st6 t (by
    refine XS.iloadN X6.here hx rfl (hD 10 rfl) rfl ?_
    refine ialW X6 hx hZ e6 W0 (i := 6) rfl (j := (1 : Int32)) (k := 1) (by decide) (by decide) (by decide) (v := (.int (1 : Int32))) h7 (g := (mkF m 23 #[sR r, sI 1, sI (Int32.ofNat ch), sR va, sU, sU, sU, sU, sU] [(kI 1), (kR bo), (kR bl)])) rfl rfl (hD 11 rfl) _ ?_
    refine aalW X6 hx hZ e6 W0 (i := 5) rfl (fun _ q => q.1) rfl (j := (1 : Int32)) (k := 1) (by decide) (by decide) (by decide) (v := (.ref bk)) h5 (g := (mkF m 24 #[sR r, sI 1, sI (Int32.ofNat ch), sR va, sU, sU, sU, sU, sU] [(kI 1), (kR bl)])) rfl rfl (hD 12 rfl) _ ?_
    refine XS.astore X6.here hx rfl (hD 13 rfl) rfl rfl (l' := #[sR r, sI 1, sI (Int32.ofNat ch), sR va, sR bk, sU, sU, sU, sU]) rfl ?_
    refine XS.aloadN X6.here hx rfl (hD 14 rfl) rfl rfl ?_
    exact k))
  obtain ⟨T8, X8, e8, st8⟩ := getF X6 hx hZ hown (host := "") (Or.inl (hw _ (mi 129 rfl))) Via.refl e6 (W0.fld (i := 0) rfl (j := 17) rfl rfl) (g := K7.g) rfl rfl (hD 15 rfl)
  have K9 : Rc K0 T8 (mkF m 39 #[sR r, sI 1, sI (Int32.ofNat ch), sR va, sR bk, sU, sU, sU, sU] [(kR r)]) := fun t k => K7 t (st8 t (by
    refine XS.ifnonnullYes X8.here hx rfl (pc0 := 31) (pc' := 38) rfl (hD 16 rfl) rfl (by decide) (by decide) ?_
    refine XS.aloadN X8.here hx rfl (hD 19 rfl) rfl rfl ?_
    exact k))
  obtain ⟨T10, X10, e10, st10⟩ := getF X8 hx hZ hown (host := "") (Or.inl (hw _ (mi 165 rfl))) Via.refl e8 (W0.fld (i := 0) rfl (j := 20) rfl rfl) (g := K9.g) rfl rfl (hD 20 rfl)
  have K11 : Rc K0 T10 (mkF m 50 #[sR r, sI 1, sI (Int32.ofNat ch), sR va, sR bk, sI (Int32.ofNat mv), sD 0, sV, sU] [(kR r)]) := fun t k => K9 t (st10 t (by
    refine XS.iloadN X10.here hx rfl (hD 21 rfl) rfl ?_
    refine ialW X10 hx hZ e10 W0 (i := 7) rfl (j := (1 : Int32)) (k := 1) (by decide) (by decide) (by decide) (v := (.int (Int32.ofNat mv))) h9 (g := (mkF m 43 #[sR r, sI 1, sI (Int32.ofNat ch), sR va, sR bk, sU, sU, sU, sU] [(kI 1), (kR shf)])) rfl rfl (hD 22 rfl) _ ?_
    refine XS.istore X10.here hx rfl (hD 23 rfl) rfl (l' := #[sR r, sI 1, sI (Int32.ofNat ch), sR va, sR bk, sI (Int32.ofNat mv), sU, sU, sU]) rfl ?_
    refine XS.dconst0 X10.here hx rfl (hD 24 rfl) rfl ?_
    refine XS.dstore X10.here hx rfl (hD 25 rfl) rfl (l' := #[sR r, sI 1, sI (Int32.ofNat ch), sR va, sR bk, sI (Int32.ofNat mv), sD 0, sV, sU]) rfl ?_
    refine XS.aloadN X10.here hx rfl (hD 26 rfl) rfl rfl ?_
    exact k))
  obtain ⟨T12, X12, e12, st12⟩ := getF X10 hx hZ hown (host := "") (Or.inl (hw _ (mi 32 rfl))) Via.refl e10 (W0.fld (i := 0) rfl (j := 9) rfl rfl) (g := K11.g) rfl rfl (hD 27 rfl)
  have K13 : Rc K0 T12 (mkF m 57 #[sR r, sI 1, sI (Int32.ofNat ch), sR va, sR bk, sI (Int32.ofNat mv), sD 0, sV, sI (Int32.ofNat ta)] []) := fun t k => K11 t (st12 t (by
    refine XS.iloadN X12.here hx rfl (hD 28 rfl) rfl ?_
    refine ialW X12 hx hZ e12 W0 (i := 1) rfl (j := (Int32.ofNat ch)) (k := ch) (own_nn (by omega)) (own_tn (by omega)) (by omega) (v := (.int (Int32.ofNat ta))) hfa (g := (mkF m 54 #[sR r, sI 1, sI (Int32.ofNat ch), sR va, sR bk, sI (Int32.ofNat mv), sD 0, sV, sU] [(kI (Int32.ofNat ch)), (kR ftr)])) rfl rfl (hD 29 rfl) _ ?_
    refine XS.istore X12.here hx rfl (hD 30 rfl) rfl (l' := #[sR r, sI 1, sI (Int32.ofNat ch), sR va, sR bk, sI (Int32.ofNat mv), sD 0, sV, sI (Int32.ofNat ta)]) rfl ?_
    exact k))
  obtain ⟨T14, sg14, t14, X14, e14, K14, hsx14⟩ := own_vl r ftr sus bk va (.ref ks) (.ref rgs) (.ref ns) (.ref fch) (.ref fk) (.ref kl) (.ref frg) (.ref fac) (.ref fcm) (.ref acs) (.ref cms) (.ref prb) (.int shc) (.ref lr) (.int rwc) (.ref so) (.ref nr) (.ref bo) (.ref shf) (.ref vcn) (.ref bl) (.int (2 : Int32)) (.int usd) g_ftr g_sus gw gv ch mv tb (.val (.int (1 : Int32))) ((bl, Pg Z .double 4 g_bl) :: (bo, Ar Z .int 4 g_bo) :: (shf, Ar Z .int 4 g_shf) :: Rr) hx hZ hw hby hml hown W0 hch htb hmv hft hS hW hV kt ta 0 0 0 T12 (by omega) (by omega) (Jvm.OwnFp.Sx.zero.mono (by decide)) X12 e12 K13
  have K15 : Rc K0 T14 (mkF m 101 #[sR r, sI 1, sI (Int32.ofNat ch), sR va, sR bk, sI (Int32.ofNat mv), sD sg14, sV, sI t14] [(kD sg14)]) := fun t k => K14 t (XS.dload X14.here hx rfl (hD 56 rfl) rfl k)
  obtain ⟨fs, hr, hrun, hended, hWm, hsame⟩ := X14.leave (v := some (.double sg14)) (fun h => by rw [Bd.returns] at h; cases h)
  refine ⟨_, _, pre0 _ (K15 _ (Jvm.OwnKit.retD X14 hx Bd.returns (hD 57 rfl) hr)), hrun, hended, _, _, rfl, ?_, ⟨_, rfl⟩, hWm, hsame.mono (by decide) (by decide)⟩
  show QrmVA11 Z r ks rgs ns fch fk kl frg fac fcm ftr acs cms sus prb lr so nr bo shf vcn bl bk va shc rwc usd g_ftr g_sus gw gv g_bl g_bo g_shf ch mv ta kt tb S w B Rr n0 _ T14.heap _
  rw [e14]
  exact ⟨_, rfl, N0, W0, by rw [Int.zero_add] at hsx14; exact hsx14⟩
set_option maxRecDepth 65536 in
set_option maxHeartbeats 40000000 in
theorem tnH {p : Program} {l : Launch} {e : Env} {s : State} {m : MethodId} {args : Array Value} {below : List Frame} {meth : Method} {c : Code} {s₁ : State} {F0 : JFrame} {T0 : State} {locs : List Loc} {cells slots : Nat} {Z : State} {a0 : Array Value} {n0 : Nat} {h0 : Heap} (b fa ac fc cm ft su pr : Addr) (vv : Addr) (cv sc : Int32) (xc : UInt64) (hbt : Bool) (t1 : Nat) (f3 f6 f7 : Nat → Value) (sl0 sl1 sl2 sl3 sl4 sl5 sl6 sl7 sl8 sl9 sl10 sl13 sl14 sl15 sl16 sl17 sl18 sl19 sl20 sl22 sl23 sl24 sl25 sl27 sl28 sl29 sl30 sl32 sl33 sl34 sl35 sl36 sl37 sl38 : Slot) (Rr : List (Addr × (Cell → Prop)))
    (X0 : Stand p l e room_1 s m args below meth c T0 locs cells slots) (hx : p.tables.exec = Jvm.exec) (hZ : Z.Warmed39 s.vm) (hw : ∀ d ∈ tables_1, d.before a0 Z = true) (hby : c.code = code) (hml : c.maxLocals = 39) (hown : s.vm.findClass "com/example/sambre/sambre/engine/RowsValuePinLaw" = some m.cls) (e0 : T0.heap = h0) (W0 : Wo n0 h0 ((b, oB Z [.null, (kI 0), (kR vv), (kI cv), (kR fa), (kR ac), (kR fc), (kR cm), (kR ft), (kR su), (kR pr), (kI 2), (kI 0), (kI 0), (kI (Int32.ofNat t1)), .null]) :: (ft, Ar Z .int 2 f3) :: (su, Ar Z .int 4 f6) :: (pr, Ar Z .double 4 f7) :: Rr)) (N0 : Fr n0 locs) (hcl : cells + 0 ≤ room_1.cells) (hsl : slots + 0 ≤ room_1.slots) (ht : t1 ≤ 2) (h3 : f3 1 = .int (Int32.ofNat t1)) (K0 : Rch p e below s₁ F0 T0 (mkF m 409 #[sl0, sl1, sl2, sl3, sl4, sl5, sl6, sl7, sl8, sl9, sl10, .val (.double xc), .second, sl13, sl14, sl15, sl16, sl17, sl18, sl19, sl20, .val (.int sc), sl22, sl23, sl24, sl25, .val (.int (own_bi hbt)), sl27, sl28, sl29, sl30, .val (.ref b), sl32, sl33, sl34, sl35, sl36, sl37, sl38] [])) :
    ∃ (T' : State) (L' : List Loc) (t2 : Nat) (f q : Nat → Value), Stand p l e room_1 s m args below meth c T' L' cells slots ∧ Fr n0 L' ∧ Wo n0 T'.heap ((b, oB Z [.null, (kI 0), (kR vv), (kI cv), (kR fa), (kR ac), (kR fc), (kR cm), (kR ft), (kR su), (kR pr), (kI 2), (kI 0), (kI 0), (kI (Int32.ofNat t2)), .null]) :: (ft, Ar Z .int 2 f3) :: (su, Ar Z .int 4 f) :: (pr, Ar Z .double 4 q) :: Rr) ∧ Rch p e below s₁ F0 T' (mkF m 424 #[sl0, sl1, sl2, sl3, sl4, sl5, sl6, sl7, sl8, sl9, sl10, .val (.double xc), .second, sl13, sl14, sl15, sl16, sl17, sl18, sl19, sl20, .val (.int sc), sl22, sl23, sl24, sl25, .val (.int (own_bi hbt)), sl27, sl28, sl29, sl30, .val (.ref b), sl32, sl33, sl34, sl35, sl36, sl37, sl38] []) ∧ own_h2 hbt t1 sc xc f6 f7 t2 f q := by
  have K1 : Rc K0 T0 (mkF m 411 #[sl0, sl1, sl2, sl3, sl4, sl5, sl6, sl7, sl8, sl9, sl10, sD xc, sV, sl13, sl14, sl15, sl16, sl17, sl18, sl19, sl20, sI sc, sl22, sl23, sl24, sl25, sI (own_bi hbt), sl27, sl28, sl29, sl30, sR b, sl32, sl33, sl34, sl35, sl36, sl37, sl38] [(kI (own_bi hbt))]) := fun t k => K0 t (XS.iload X0.here hx rfl (hb hby at_409) rfl k)
  by_cases ht2 : hbt = true
  · have hbb := ht2
    have K2 : Rc K0 T0 (mkF m 420 #[sl0, sl1, sl2, sl3, sl4, sl5, sl6, sl7, sl8, sl9, sl10, sD xc, sV, sl13, sl14, sl15, sl16, sl17, sl18, sl19, sl20, sI sc, sl22, sl23, sl24, sl25, sI (own_bi hbt), sl27, sl28, sl29, sl30, sR b, sl32, sl33, sl34, sl35, sl36, sl37, sl38] [(kD xc), (kI sc), (kR b)]) := fun t k => K1 t (by
      refine XS.ifNo X0.here hx rfl (hb hby at_411) rfl ((if0 _ _).trans (feq (show ¬ (own_bi hbt = 0) from by rw [hbb]; decide)).1) ?_
      refine XS.aload X0.here hx rfl (hb hby at_414) rfl rfl ?_
      refine XS.iload X0.here hx rfl (hb hby at_416) rfl ?_
      refine XS.dload X0.here hx rfl (hb hby at_418) rfl ?_
      exact k)
    obtain ⟨cq3, kq3, q3a, q3b, q3c⟩ := isOf hZ e0 (W0.exa (i := 0) rfl)
    obtain ⟨_, _, ⟨T3, L3, k3, n3⟩, -, X3, ⟨Lc3, hQ3, l3, y3, z3⟩, st3⟩ := X0.virtualBack hx (y := y_am) (z := y_am) hown (mvT hZ (hw _ (mi 91 rfl))) (mvT hZ (hw _ (mi 92 rfl))) (notFace_of_selects (args := #[]) (mvT hZ (hw _ (mi 94 rfl)))) (mvT hZ (hw _ (mi 94 rfl))) (mvT hZ (hw _ (mi 93 rfl))) (by decide) (backOf (W := 0) (rmAM3 l Z a0 hw [] b fa ac fc cm ft su pr vv cv sc xc t1 f3 f6 f7 (Rr) h0 n0 W0 ht h3) hZ (hw _ (mi 95 rfl)) (hw _ (mi 44 rfl)) (by decide) (by decide)) q3a q3c (g := K2.g) rfl (by rw [hml]; rfl) (Steps.refl _) (argsL := [(.int sc), (.double xc)]) (rest := []) (lenOf pd_am rfl) rfl (by show 2 * 0 + _ ≤ _; exact Nat.le_of_eq rfl) (hb hby at_420) (fun _ _ => ⟨rfl, e0, hcl, hsl⟩)
    dsimp only [Pt.U, Pt.locs, Pt.cells, Pt.slots] at X3 l3 y3 z3 st3 hQ3
    subst l3 y3 z3
    obtain ⟨rfl, N3q, W3⟩ := hQ3
    have N3 := Fr.app N0 N3q
    have K4 : Rc K0 T3 (mkF m 424 #[sl0, sl1, sl2, sl3, sl4, sl5, sl6, sl7, sl8, sl9, sl10, sD xc, sV, sl13, sl14, sl15, sl16, sl17, sl18, sl19, sl20, sI sc, sl22, sl23, sl24, sl25, sI (own_bi hbt), sl27, sl28, sl29, sl30, sR b, sl32, sl33, sl34, sl35, sl36, sl37, sl38] []) := fun t k => K2 t (st3.trans (XS.pop X3.here hx rfl (hb hby at_423) rfl rfl k))
    exact ⟨T3, _, t1 + 1, upd f6 t1 (.int sc), upd f7 t1 (.double xc), X3, N3, W3, K4, Or.inl ⟨hbb, rfl, rfl, rfl⟩⟩
  · have hbb := Bool.eq_false_iff.mpr ht2
    have K5 : Rc K0 T0 (mkF m 424 #[sl0, sl1, sl2, sl3, sl4, sl5, sl6, sl7, sl8, sl9, sl10, sD xc, sV, sl13, sl14, sl15, sl16, sl17, sl18, sl19, sl20, sI sc, sl22, sl23, sl24, sl25, sI (own_bi hbt), sl27, sl28, sl29, sl30, sR b, sl32, sl33, sl34, sl35, sl36, sl37, sl38] []) := fun t k => K1 t (XS.ifYes X0.here hx rfl (pc0 := 411) (pc' := 424) rfl (hb hby at_411) rfl ((if0 _ _).trans (teq (show own_bi hbt = 0 from by rw [hbb]; rfl)).1) (by decide) (by decide) k)
    exact ⟨T0, _, t1, f6, f7, X0, N0, by rw [e0]; exact W0, K5, Or.inr ⟨hbb, rfl, rfl, rfl⟩⟩
set_option maxRecDepth 65536 in
set_option maxHeartbeats 40000000 in
theorem tnE {p : Program} {l : Launch} {e : Env} {s : State} {m : MethodId} {args : Array Value} {below : List Frame} {meth : Method} {c : Code} {s₁ : State} {F0 : JFrame} {T0 : State} {locs : List Loc} {cells slots : Nat} {Z : State} {a0 : Array Value} {n0 : Nat} {h0 : Heap} {R : Room} (va : Addr) (gv : Nat → Value) (du0 du1 du2 dw0 dw1 dw2 ac : UInt64) (sa0 sa1 sa2 ch : Nat) (lbt hbt : Bool) (lz : Int32) (ku0 ku1 ku2 kw0 kw1 kw2 : Int) (Bq : Nat → Int) (sl0 sl1 sl2 sl3 sl4 sl5 sl22 sl23 sl25 sl27 sl28 sl29 sl30 sl31 sl32 : Slot) (Rr : List (Addr × (Cell → Prop)))
    (X0 : Stand p l e R s m args below meth c T0 locs cells slots) (hx : p.tables.exec = Jvm.exec) (hZ : Z.Warmed39 s.vm) (hw : ∀ d ∈ tables_1, d.before a0 Z = true) (hby : c.code = code) (hml : c.maxLocals = 39) (hown : s.vm.findClass "com/example/sambre/sambre/engine/RowsValuePinLaw" = some m.cls) (e0 : T0.heap = h0) (W0 : Wo n0 h0 ((va, Ar Z .double 8 gv) :: Rr)) (hlz : lz = own_bi lbt) (hch : ch < 2) (hsa0 : sa0 < 8) (hsa1 : sa1 < 8) (hsa2 : sa2 < 8) (hVq : ∀ j, j < 8 → Vx (Bq j) (own_dv (gv j))) (hdu0 : Sx 15 ku0 du0) (hdw0 : Sx 15 kw0 dw0) (hdu1 : Sx 15 ku1 du1) (hdw1 : Sx 15 kw1 dw1) (hdu2 : Sx 15 ku2 du2) (hdw2 : Sx 15 kw2 dw2) (hac : Sx 257698037760 (own_val ch sa0 sa1 lbt hbt ku0 ku1 ku2 kw0 kw1 kw2 (Bq sa0) (Bq sa1) (Bq sa2)) ac) (K0 : Rch p e below s₁ F0 T0 (mkF m 515 #[sl0, sl1, sl2, sl3, sl4, sl5, .val (.ref va), .val (.double du0), .second, .val (.double du1), .second, .val (.double du2), .second, .val (.double dw0), .second, .val (.double dw1), .second, .val (.double dw2), .second, .val (.int (Int32.ofNat sa0)), .val (.int (Int32.ofNat sa1)), .val (.int (Int32.ofNat sa2)), sl22, sl23, .val (.int (Int32.ofNat ch)), sl25, .val (.int (own_bi hbt)), sl27, sl28, sl29, sl30, sl31, sl32, .val (.int lz), .val (.double ac), .second, .unset, .unset, .unset] [])) :
    ∃ (T' : State) (Ls : Array Slot), Stand p l e R s m args below meth c T' locs cells slots ∧ T'.heap = h0 ∧ Rch p e below s₁ F0 T' (mkF m 661 Ls [.int 1]) := by
  have K1 : Rc K0 T0 (mkF m 519 #[sl0, sl1, sl2, sl3, sl4, sl5, sR va, sD du0, sV, sD du1, sV, sD du2, sV, sD dw0, sV, sD dw1, sV, sD dw2, sV, sI (Int32.ofNat sa0), sI (Int32.ofNat sa1), sI (Int32.ofNat sa2), sl22, sl23, sI (Int32.ofNat ch), sl25, sI (own_bi hbt), sl27, sl28, sl29, sl30, sl31, sl32, sI lz, sD ac, sV, sU, sU, sU] [(kI (Int32.ofNat sa1)), (kI (Int32.ofNat sa0))]) := fun t k => K0 t (by
    refine XS.iload X0.here hx rfl (hb hby at_515) rfl ?_
    refine XS.iload X0.here hx rfl (hb hby at_517) rfl ?_
    exact k)
  have K2 : Rc K0 T0 (mkF m 527 #[sl0, sl1, sl2, sl3, sl4, sl5, sR va, sD du0, sV, sD du1, sV, sD du2, sV, sD dw0, sV, sD dw1, sV, sD dw2, sV, sI (Int32.ofNat sa0), sI (Int32.ofNat sa1), sI (Int32.ofNat sa2), sl22, sl23, sI (Int32.ofNat ch), sl25, sI (own_bi hbt), sl27, sl28, sl29, sl30, sl31, sl32, sI lz, sD ac, sV, sU, sU, sU] [(kI (own_bi (decide (sa0 = sa1))))]) := fun t k => K1 t (by
    by_cases hq : sa0 = sa1
    · rw [show own_bi (decide (sa0 = sa1)) = 1 from by rw [decide_eq_true hq]; rfl] at k
      refine XS.icmpNo X0.here hx rfl (hb hby at_519) rfl (teq (congrArg Int32.ofNat hq)).2 ?_
      refine XS.iconst X0.here hx rfl (hb hby at_522) ?_
      refine XS.goto X0.here hx rfl (pc0 := 523) (pc' := 527) rfl (hb hby at_523) (by decide) (by decide) ?_
      exact k
    · rw [show own_bi (decide (sa0 = sa1)) = 0 from by rw [decide_eq_false hq]; rfl] at k
      refine XS.icmpYes X0.here hx rfl (pc0 := 519) (pc' := 526) rfl (hb hby at_519) rfl (feq (own_ne hq (by omega) (by omega))).2 (by decide) (by decide) ?_
      refine XS.iconst X0.here hx rfl (hb hby at_526) ?_
      exact k)
  have K3 : Rc K0 T0 (mkF m 531 #[sl0, sl1, sl2, sl3, sl4, sl5, sR va, sD du0, sV, sD du1, sV, sD du2, sV, sD dw0, sV, sD dw1, sV, sD dw2, sV, sI (Int32.ofNat sa0), sI (Int32.ofNat sa1), sI (Int32.ofNat sa2), sl22, sl23, sI (Int32.ofNat ch), sl25, sI (own_bi hbt), sl27, sl28, sl29, sl30, sl31, sl32, sI lz, sD ac, sV, sI (own_bi (decide (sa0 = sa1))), sU, sU] [(kI (Int32.ofNat ch))]) := fun t k => K2 t (by
    refine XS.istore X0.here hx rfl (hb hby at_527) rfl (l' := #[sl0, sl1, sl2, sl3, sl4, sl5, sR va, sD du0, sV, sD du1, sV, sD du2, sV, sD dw0, sV, sD dw1, sV, sD dw2, sV, sI (Int32.ofNat sa0), sI (Int32.ofNat sa1), sI (Int32.ofNat sa2), sl22, sl23, sI (Int32.ofNat ch), sl25, sI (own_bi hbt), sl27, sl28, sl29, sl30, sl31, sl32, sI lz, sD ac, sV, sI (own_bi (decide (sa0 = sa1))), sU, sU]) rfl ?_
    refine XS.iload X0.here hx rfl (hb hby at_529) rfl ?_
    exact k)
  by_cases hc : ch = 0
  · have hcb := hc
    have K4 : Rc K0 T0 (mkF m 536 #[sl0, sl1, sl2, sl3, sl4, sl5, sR va, sD du0, sV, sD du1, sV, sD du2, sV, sD dw0, sV, sD dw1, sV, sD dw2, sV, sI (Int32.ofNat sa0), sI (Int32.ofNat sa1), sI (Int32.ofNat sa2), sl22, sl23, sI (Int32.ofNat ch), sl25, sI (own_bi hbt), sl27, sl28, sl29, sl30, sl31, sl32, sI lz, sD ac, sV, sI (own_bi (decide (sa0 = sa1))), sU, sU] [(kI lz)]) := fun t k => K3 t (by
      refine XS.ifNo X0.here hx rfl (hb hby at_531) rfl ((if0 _ _).trans (teq (show Int32.ofNat ch = 0 from congrArg Int32.ofNat hc)).2) ?_
      refine XS.iload X0.here hx rfl (hb hby at_534) rfl ?_
      exact k)
    by_cases hl : lbt = true
    · have hlb := hl
      have K5 : Rc K0 T0 (mkF m 541 #[sl0, sl1, sl2, sl3, sl4, sl5, sR va, sD du0, sV, sD du1, sV, sD du2, sV, sD dw0, sV, sD dw1, sV, sD dw2, sV, sI (Int32.ofNat sa0), sI (Int32.ofNat sa1), sI (Int32.ofNat sa2), sl22, sl23, sI (Int32.ofNat ch), sl25, sI (own_bi hbt), sl27, sl28, sl29, sl30, sl31, sl32, sI lz, sD ac, sV, sI (own_bi (decide (sa0 = sa1))), sU, sU] [(kI (own_bi (decide (sa0 = sa1))))]) := fun t k => K4 t (by
        refine XS.ifNo X0.here hx rfl (hb hby at_536) rfl ((if0 _ _).trans (feq (show ¬ (lz = 0) from by rw [hlz, hlb]; decide)).1) ?_
        refine XS.iload X0.here hx rfl (hb hby at_539) rfl ?_
        exact k)
      by_cases hm : sa0 = sa1
      · have hmb := hm
        have K6 : Rc K0 T0 (mkF m 552 #[sl0, sl1, sl2, sl3, sl4, sl5, sR va, sD du0, sV, sD du1, sV, sD du2, sV, sD dw0, sV, sD dw1, sV, sD dw2, sV, sI (Int32.ofNat sa0), sI (Int32.ofNat sa1), sI (Int32.ofNat sa2), sl22, sl23, sI (Int32.ofNat ch), sl25, sI (own_bi hbt), sl27, sl28, sl29, sl30, sl31, sl32, sI lz, sD ac, sV, sI (own_bi (decide (sa0 = sa1))), sU, sU] [(kD (FP.dmul dw0 (own_dv (gv sa0))))]) := fun t k => K5 t (by
          refine XS.ifNo X0.here hx rfl (hb hby at_541) rfl ((if0 _ _).trans (feq (show ¬ (own_bi (decide (sa0 = sa1)) = 0) from by rw [decide_eq_true hm]; decide)).1) ?_
          refine XS.dload X0.here hx rfl (hb hby at_544) rfl ?_
          refine XS.aload X0.here hx rfl (hb hby at_546) rfl rfl ?_
          refine XS.iload X0.here hx rfl (hb hby at_548) rfl ?_
          refine dalW X0 hx hZ e0 W0 (i := 0) rfl (j := (Int32.ofNat sa0)) (k := sa0) (own_nn (by omega)) (own_tn (by omega)) (by omega) (v := (.double (own_dv (gv sa0)))) (own_arD W0 (i := 0) rfl (by omega)) (g := (mkF m 550 #[sl0, sl1, sl2, sl3, sl4, sl5, sR va, sD du0, sV, sD du1, sV, sD du2, sV, sD dw0, sV, sD dw1, sV, sD dw2, sV, sI (Int32.ofNat sa0), sI (Int32.ofNat sa1), sI (Int32.ofNat sa2), sl22, sl23, sI (Int32.ofNat ch), sl25, sI (own_bi hbt), sl27, sl28, sl29, sl30, sl31, sl32, sI lz, sD ac, sV, sI (own_bi (decide (sa0 = sa1))), sU, sU] [(kI (Int32.ofNat sa0)), (kR va), (kD dw0)])) rfl rfl (hb hby at_550) _ ?_
          refine XS.dmulS X0.here hx rfl (hb hby at_551) rfl (Jvm.OwnFp.Sx.nn (Jvm.OwnFp.Sx.mul hdw0 (by decide) (hVq sa0 hsa0))) rfl ?_
          exact k)
        have K7 : Rc K0 T0 (mkF m 652 #[sl0, sl1, sl2, sl3, sl4, sl5, sR va, sD du0, sV, sD du1, sV, sD du2, sV, sD dw0, sV, sD dw1, sV, sD dw2, sV, sI (Int32.ofNat sa0), sI (Int32.ofNat sa1), sI (Int32.ofNat sa2), sl22, sl23, sI (Int32.ofNat ch), sl25, sI (own_bi hbt), sl27, sl28, sl29, sl30, sl31, sl32, sI lz, sD ac, sV, sI (own_bi (decide (sa0 = sa1))), sD (FP.dmul dw0 (own_dv (gv sa0))), sV] [(kD (FP.dmul dw0 (own_dv (gv sa0)))), (kD ac)]) := fun t k => K6 t (by
          refine XS.goto X0.here hx rfl (pc0 := 552) (pc' := 572) rfl (hb hby at_552) (by decide) (by decide) ?_
          refine XS.dstore X0.here hx rfl (hb hby at_572) rfl (l' := #[sl0, sl1, sl2, sl3, sl4, sl5, sR va, sD du0, sV, sD du1, sV, sD du2, sV, sD dw0, sV, sD dw1, sV, sD dw2, sV, sI (Int32.ofNat sa0), sI (Int32.ofNat sa1), sI (Int32.ofNat sa2), sl22, sl23, sI (Int32.ofNat ch), sl25, sI (own_bi hbt), sl27, sl28, sl29, sl30, sl31, sl32, sI lz, sD ac, sV, sI (own_bi (decide (sa0 = sa1))), sD (FP.dmul dw0 (own_dv (gv sa0))), sV]) rfl ?_
          refine XS.goto X0.here hx rfl (pc0 := 574) (pc' := 648) rfl (hb hby at_574) (by decide) (by decide) ?_
          refine XS.dload X0.here hx rfl (hb hby at_648) rfl ?_
          refine XS.dload X0.here hx rfl (hb hby at_650) rfl ?_
          exact k)
        have hva := hac
        unfold own_val at hva
        rw [if_pos hc, if_pos hl, if_pos hm] at hva
        have K8 : Rc K0 T0 (mkF m 661 #[sl0, sl1, sl2, sl3, sl4, sl5, sR va, sD du0, sV, sD du1, sV, sD du2, sV, sD dw0, sV, sD dw1, sV, sD dw2, sV, sI (Int32.ofNat sa0), sI (Int32.ofNat sa1), sI (Int32.ofNat sa2), sl22, sl23, sI (Int32.ofNat ch), sl25, sI (own_bi hbt), sl27, sl28, sl29, sl30, sl31, sl32, sI lz, sD ac, sV, sI (own_bi (decide (sa0 = sa1))), sD (FP.dmul dw0 (own_dv (gv sa0))), sV] [(kI 1)]) := fun t k => K7 t (by
          refine XS.dcmpS X0.here hx rfl (hb hby at_652) rfl rfl ?_
          refine XS.ifNo X0.here hx rfl (hb hby at_653) rfl ((if0 _ _).trans (teq (Jvm.OwnFp.Sx.eq hva (Jvm.OwnFp.Sx.mul hdw0 (by decide) (hVq sa0 hsa0)))).2) ?_
          refine XS.iconst X0.here hx rfl (hb hby at_656) ?_
          refine XS.goto X0.here hx rfl (pc0 := 657) (pc' := 661) rfl (hb hby at_657) (by decide) (by decide) ?_
          exact k)
        exact ⟨T0, _, X0, e0, K8⟩
      · have hmb := hm
        have K9 : Rc K0 T0 (mkF m 572 #[sl0, sl1, sl2, sl3, sl4, sl5, sR va, sD du0, sV, sD du1, sV, sD du2, sV, sD dw0, sV, sD dw1, sV, sD dw2, sV, sI (Int32.ofNat sa0), sI (Int32.ofNat sa1), sI (Int32.ofNat sa2), sl22, sl23, sI (Int32.ofNat ch), sl25, sI (own_bi hbt), sl27, sl28, sl29, sl30, sl31, sl32, sI lz, sD ac, sV, sI (own_bi (decide (sa0 = sa1))), sU, sU] [(kD (FP.dadd (FP.dmul dw0 (own_dv (gv sa0))) (FP.dmul dw1 (own_dv (gv sa1)))))]) := fun t k => K5 t (by
          refine XS.ifYes X0.here hx rfl (pc0 := 541) (pc' := 555) rfl (hb hby at_541) rfl ((if0 _ _).trans (teq (show own_bi (decide (sa0 = sa1)) = 0 from by rw [decide_eq_false hm]; rfl)).1) (by decide) (by decide) ?_
          refine XS.dload X0.here hx rfl (hb hby at_555) rfl ?_
          refine XS.aload X0.here hx rfl (hb hby at_557) rfl rfl ?_
          refine XS.iload X0.here hx rfl (hb hby at_559) rfl ?_
          refine dalW X0 hx hZ e0 W0 (i := 0) rfl (j := (Int32.ofNat sa0)) (k := sa0) (own_nn (by omega)) (own_tn (by omega)) (by omega) (v := (.double (own_dv (gv sa0)))) (own_arD W0 (i := 0) rfl (by omega)) (g := (mkF m 561 #[sl0, sl1, sl2, sl3, sl4, sl5, sR va, sD du0, sV, sD du1, sV, sD du2, sV, sD dw0, sV, sD dw1, sV, sD dw2, sV, sI (Int32.ofNat sa0), sI (Int32.ofNat sa1), sI (Int32.ofNat sa2), sl22, sl23, sI (Int32.ofNat ch), sl25, sI (own_bi hbt), sl27, sl28, sl29, sl30, sl31, sl32, sI lz, sD ac, sV, sI (own_bi (decide (sa0 = sa1))), sU, sU] [(kI (Int32.ofNat sa0)), (kR va), (kD dw0)])) rfl rfl (hb hby at_561) _ ?_
          refine XS.dmulS X0.here hx rfl (hb hby at_562) rfl (Jvm.OwnFp.Sx.nn (Jvm.OwnFp.Sx.mul hdw0 (by decide) (hVq sa0 hsa0))) rfl ?_
          refine XS.dload X0.here hx rfl (hb hby at_563) rfl ?_
          refine XS.aload X0.here hx rfl (hb hby at_565) rfl rfl ?_
          refine XS.iload X0.here hx rfl (hb hby at_567) rfl ?_
          refine dalW X0 hx hZ e0 W0 (i := 0) rfl (j := (Int32.ofNat sa1)) (k := sa1) (own_nn (by omega)) (own_tn (by omega)) (by omega) (v := (.double (own_dv (gv sa1)))) (own_arD W0 (i := 0) rfl (by omega)) (g := (mkF m 569 #[sl0, sl1, sl2, sl3, sl4, sl5, sR va, sD du0, sV, sD du1, sV, sD du2, sV, sD dw0, sV, sD dw1, sV, sD dw2, sV, sI (Int32.ofNat sa0), sI (Int32.ofNat sa1), sI (Int32.ofNat sa2), sl22, sl23, sI (Int32.ofNat ch), sl25, sI (own_bi hbt), sl27, sl28, sl29, sl30, sl31, sl32, sI lz, sD ac, sV, sI (own_bi (decide (sa0 = sa1))), sU, sU] [(kI (Int32.ofNat sa1)), (kR va), (kD dw1), (kD (FP.dmul dw0 (own_dv (gv sa0))))])) rfl rfl (hb hby at_569) _ ?_
          refine XS.dmulS X0.here hx rfl (hb hby at_570) rfl (Jvm.OwnFp.Sx.nn (Jvm.OwnFp.Sx.mul hdw1 (by decide) (hVq sa1 hsa1))) rfl ?_
          refine XS.daddS X0.here hx rfl (hb hby at_571) rfl (Jvm.OwnFp.Sx.nn (Jvm.OwnFp.Sx.add (Jvm.OwnFp.Sx.mul hdw0 (by decide) (hVq sa0 hsa0)) (Jvm.OwnFp.Sx.mul hdw1 (by decide) (hVq sa1 hsa1)) (by decide))) rfl ?_
          exact k)
        have K10 : Rc K0 T0 (mkF m 652 #[sl0, sl1, sl2, sl3, sl4, sl5, sR va, sD du0, sV, sD du1, sV, sD du2, sV, sD dw0, sV, sD dw1, sV, sD dw2, sV, sI (Int32.ofNat sa0), sI (Int32.ofNat sa1), sI (Int32.ofNat sa2), sl22, sl23, sI (Int32.ofNat ch), sl25, sI (own_bi hbt), sl27, sl28, sl29, sl30, sl31, sl32, sI lz, sD ac, sV, sI (own_bi (decide (sa0 = sa1))), sD (FP.dadd (FP.dmul dw0 (own_dv (gv sa0))) (FP.dmul dw1 (own_dv (gv sa1)))), sV] [(kD (FP.dadd (FP.dmul dw0 (own_dv (gv sa0))) (FP.dmul dw1 (own_dv (gv sa1))))), (kD ac)]) := fun t k => K9 t (by
          refine XS.dstore X0.here hx rfl (hb hby at_572) rfl (l' := #[sl0, sl1, sl2, sl3, sl4, sl5, sR va, sD du0, sV, sD du1, sV, sD du2, sV, sD dw0, sV, sD dw1, sV, sD dw2, sV, sI (Int32.ofNat sa0), sI (Int32.ofNat sa1), sI (Int32.ofNat sa2), sl22, sl23, sI (Int32.ofNat ch), sl25, sI (own_bi hbt), sl27, sl28, sl29, sl30, sl31, sl32, sI lz, sD ac, sV, sI (own_bi (decide (sa0 = sa1))), sD (FP.dadd (FP.dmul dw0 (own_dv (gv sa0))) (FP.dmul dw1 (own_dv (gv sa1)))), sV]) rfl ?_
          refine XS.goto X0.here hx rfl (pc0 := 574) (pc' := 648) rfl (hb hby at_574) (by decide) (by decide) ?_
          refine XS.dload X0.here hx rfl (hb hby at_648) rfl ?_
          refine XS.dload X0.here hx rfl (hb hby at_650) rfl ?_
          exact k)
        have hva := hac
        unfold own_val at hva
        rw [if_pos hc, if_pos hl, if_neg hm] at hva
        have K11 : Rc K0 T0 (mkF m 661 #[sl0, sl1, sl2, sl3, sl4, sl5, sR va, sD du0, sV, sD du1, sV, sD du2, sV, sD dw0, sV, sD dw1, sV, sD dw2, sV, sI (Int32.ofNat sa0), sI (Int32.ofNat sa1), sI (Int32.ofNat sa2), sl22, sl23, sI (Int32.ofNat ch), sl25, sI (own_bi hbt), sl27, sl28, sl29, sl30, sl31, sl32, sI lz, sD ac, sV, sI (own_bi (decide (sa0 = sa1))), sD (FP.dadd (FP.dmul dw0 (own_dv (gv sa0))) (FP.dmul dw1 (own_dv (gv sa1)))), sV] [(kI 1)]) := fun t k => K10 t (by
          refine XS.dcmpS X0.here hx rfl (hb hby at_652) rfl rfl ?_
          refine XS.ifNo X0.here hx rfl (hb hby at_653) rfl ((if0 _ _).trans (teq (Jvm.OwnFp.Sx.eq hva (Jvm.OwnFp.Sx.add (Jvm.OwnFp.Sx.mul hdw0 (by decide) (hVq sa0 hsa0)) (Jvm.OwnFp.Sx.mul hdw1 (by decide) (hVq sa1 hsa1)) (by decide)))).2) ?_
          refine XS.iconst X0.here hx rfl (hb hby at_656) ?_
          refine XS.goto X0.here hx rfl (pc0 := 657) (pc' := 661) rfl (hb hby at_657) (by decide) (by decide) ?_
          exact k)
        exact ⟨T0, _, X0, e0, K11⟩
    · have hlb := Bool.eq_false_iff.mpr hl
      have K12 : Rc K0 T0 (mkF m 594 #[sl0, sl1, sl2, sl3, sl4, sl5, sR va, sD du0, sV, sD du1, sV, sD du2, sV, sD dw0, sV, sD dw1, sV, sD dw2, sV, sI (Int32.ofNat sa0), sI (Int32.ofNat sa1), sI (Int32.ofNat sa2), sl22, sl23, sI (Int32.ofNat ch), sl25, sI (own_bi hbt), sl27, sl28, sl29, sl30, sl31, sl32, sI lz, sD ac, sV, sI (own_bi (decide (sa0 = sa1))), sU, sU] [(kD (FP.dadd (FP.dmul du0 (own_dv (gv sa0))) (FP.dmul du1 (own_dv (gv sa1)))))]) := fun t k => K4 t (by
        refine XS.ifYes X0.here hx rfl (pc0 := 536) (pc' := 577) rfl (hb hby at_536) rfl ((if0 _ _).trans (teq (show lz = 0 from by rw [hlz, hlb]; rfl)).1) (by decide) (by decide) ?_
        refine XS.dload X0.here hx rfl (hb hby at_577) rfl ?_
        refine XS.aload X0.here hx rfl (hb hby at_579) rfl rfl ?_
        refine XS.iload X0.here hx rfl (hb hby at_581) rfl ?_
        refine dalW X0 hx hZ e0 W0 (i := 0) rfl (j := (Int32.ofNat sa0)) (k := sa0) (own_nn (by omega)) (own_tn (by omega)) (by omega) (v := (.double (own_dv (gv sa0)))) (own_arD W0 (i := 0) rfl (by omega)) (g := (mkF m 583 #[sl0, sl1, sl2, sl3, sl4, sl5, sR va, sD du0, sV, sD du1, sV, sD du2, sV, sD dw0, sV, sD dw1, sV, sD dw2, sV, sI (Int32.ofNat sa0), sI (Int32.ofNat sa1), sI (Int32.ofNat sa2), sl22, sl23, sI (Int32.ofNat ch), sl25, sI (own_bi hbt), sl27, sl28, sl29, sl30, sl31, sl32, sI lz, sD ac, sV, sI (own_bi (decide (sa0 = sa1))), sU, sU] [(kI (Int32.ofNat sa0)), (kR va), (kD du0)])) rfl rfl (hb hby at_583) _ ?_
        refine XS.dmulS X0.here hx rfl (hb hby at_584) rfl (Jvm.OwnFp.Sx.nn (Jvm.OwnFp.Sx.mul hdu0 (by decide) (hVq sa0 hsa0))) rfl ?_
        refine XS.dload X0.here hx rfl (hb hby at_585) rfl ?_
        refine XS.aload X0.here hx rfl (hb hby at_587) rfl rfl ?_
        refine XS.iload X0.here hx rfl (hb hby at_589) rfl ?_
        refine dalW X0 hx hZ e0 W0 (i := 0) rfl (j := (Int32.ofNat sa1)) (k := sa1) (own_nn (by omega)) (own_tn (by omega)) (by omega) (v := (.double (own_dv (gv sa1)))) (own_arD W0 (i := 0) rfl (by omega)) (g := (mkF m 591 #[sl0, sl1, sl2, sl3, sl4, sl5, sR va, sD du0, sV, sD du1, sV, sD du2, sV, sD dw0, sV, sD dw1, sV, sD dw2, sV, sI (Int32.ofNat sa0), sI (Int32.ofNat sa1), sI (Int32.ofNat sa2), sl22, sl23, sI (Int32.ofNat ch), sl25, sI (own_bi hbt), sl27, sl28, sl29, sl30, sl31, sl32, sI lz, sD ac, sV, sI (own_bi (decide (sa0 = sa1))), sU, sU] [(kI (Int32.ofNat sa1)), (kR va), (kD du1), (kD (FP.dmul du0 (own_dv (gv sa0))))])) rfl rfl (hb hby at_591) _ ?_
        refine XS.dmulS X0.here hx rfl (hb hby at_592) rfl (Jvm.OwnFp.Sx.nn (Jvm.OwnFp.Sx.mul hdu1 (by decide) (hVq sa1 hsa1))) rfl ?_
        refine XS.daddS X0.here hx rfl (hb hby at_593) rfl (Jvm.OwnFp.Sx.nn (Jvm.OwnFp.Sx.add (Jvm.OwnFp.Sx.mul hdu0 (by decide) (hVq sa0 hsa0)) (Jvm.OwnFp.Sx.mul hdu1 (by decide) (hVq sa1 hsa1)) (by decide))) rfl ?_
        exact k)
      have K13 : Rc K0 T0 (mkF m 652 #[sl0, sl1, sl2, sl3, sl4, sl5, sR va, sD du0, sV, sD du1, sV, sD du2, sV, sD dw0, sV, sD dw1, sV, sD dw2, sV, sI (Int32.ofNat sa0), sI (Int32.ofNat sa1), sI (Int32.ofNat sa2), sl22, sl23, sI (Int32.ofNat ch), sl25, sI (own_bi hbt), sl27, sl28, sl29, sl30, sl31, sl32, sI lz, sD ac, sV, sI (own_bi (decide (sa0 = sa1))), sD (FP.dadd (FP.dmul du0 (own_dv (gv sa0))) (FP.dmul du1 (own_dv (gv sa1)))), sV] [(kD (FP.dadd (FP.dmul du0 (own_dv (gv sa0))) (FP.dmul du1 (own_dv (gv sa1))))), (kD ac)]) := fun t k => K12 t (by
        refine XS.dstore X0.here hx rfl (hb hby at_594) rfl (l' := #[sl0, sl1, sl2, sl3, sl4, sl5, sR va, sD du0, sV, sD du1, sV, sD du2, sV, sD dw0, sV, sD dw1, sV, sD dw2, sV, sI (Int32.ofNat sa0), sI (Int32.ofNat sa1), sI (Int32.ofNat sa2), sl22, sl23, sI (Int32.ofNat ch), sl25, sI (own_bi hbt), sl27, sl28, sl29, sl30, sl31, sl32, sI lz, sD ac, sV, sI (own_bi (decide (sa0 = sa1))), sD (FP.dadd (FP.dmul du0 (own_dv (gv sa0))) (FP.dmul du1 (own_dv (gv sa1)))), sV]) rfl ?_
        refine XS.goto X0.here hx rfl (pc0 := 596) (pc' := 648) rfl (hb hby at_596) (by decide) (by decide) ?_
        refine XS.dload X0.here hx rfl (hb hby at_648) rfl ?_
        refine XS.dload X0.here hx rfl (hb hby at_650) rfl ?_
        exact k)
      have hva := hac
      unfold own_val at hva
      rw [if_pos hc, if_neg hl] at hva
      have K14 : Rc K0 T0 (mkF m 661 #[sl0, sl1, sl2, sl3, sl4, sl5, sR va, sD du0, sV, sD du1, sV, sD du2, sV, sD dw0, sV, sD dw1, sV, sD dw2, sV, sI (Int32.ofNat sa0), sI (Int32.ofNat sa1), sI (Int32.ofNat sa2), sl22, sl23, sI (Int32.ofNat ch), sl25, sI (own_bi hbt), sl27, sl28, sl29, sl30, sl31, sl32, sI lz, sD ac, sV, sI (own_bi (decide (sa0 = sa1))), sD (FP.dadd (FP.dmul du0 (own_dv (gv sa0))) (FP.dmul du1 (own_dv (gv sa1)))), sV] [(kI 1)]) := fun t k => K13 t (by
        refine XS.dcmpS X0.here hx rfl (hb hby at_652) rfl rfl ?_
        refine XS.ifNo X0.here hx rfl (hb hby at_653) rfl ((if0 _ _).trans (teq (Jvm.OwnFp.Sx.eq hva (Jvm.OwnFp.Sx.add (Jvm.OwnFp.Sx.mul hdu0 (by decide) (hVq sa0 hsa0)) (Jvm.OwnFp.Sx.mul hdu1 (by decide) (hVq sa1 hsa1)) (by decide)))).2) ?_
        refine XS.iconst X0.here hx rfl (hb hby at_656) ?_
        refine XS.goto X0.here hx rfl (pc0 := 657) (pc' := 661) rfl (hb hby at_657) (by decide) (by decide) ?_
        exact k)
      exact ⟨T0, _, X0, e0, K14⟩
  · have hcb := hc
    have K15 : Rc K0 T0 (mkF m 601 #[sl0, sl1, sl2, sl3, sl4, sl5, sR va, sD du0, sV, sD du1, sV, sD du2, sV, sD dw0, sV, sD dw1, sV, sD dw2, sV, sI (Int32.ofNat sa0), sI (Int32.ofNat sa1), sI (Int32.ofNat sa2), sl22, sl23, sI (Int32.ofNat ch), sl25, sI (own_bi hbt), sl27, sl28, sl29, sl30, sl31, sl32, sI lz, sD ac, sV, sI (own_bi (decide (sa0 = sa1))), sU, sU] [(kI (own_bi hbt))]) := fun t k => K3 t (by
      refine XS.ifYes X0.here hx rfl (pc0 := 531) (pc' := 599) rfl (hb hby at_531) rfl ((if0 _ _).trans (feq (own_ne (a := ch) (b := 0) hc (by omega) (by decide))).2) (by decide) (by decide) ?_
      refine XS.iload X0.here hx rfl (hb hby at_599) rfl ?_
      exact k)
    by_cases hh : hbt = true
    · have hhb := hh
      have K16 : Rc K0 T0 (mkF m 612 #[sl0, sl1, sl2, sl3, sl4, sl5, sR va, sD du0, sV, sD du1, sV, sD du2, sV, sD dw0, sV, sD dw1, sV, sD dw2, sV, sI (Int32.ofNat sa0), sI (Int32.ofNat sa1), sI (Int32.ofNat sa2), sl22, sl23, sI (Int32.ofNat ch), sl25, sI (own_bi hbt), sl27, sl28, sl29, sl30, sl31, sl32, sI lz, sD ac, sV, sI (own_bi (decide (sa0 = sa1))), sU, sU] [(kI lz)]) := fun t k => K15 t (by
        refine XS.ifYes X0.here hx rfl (pc0 := 601) (pc' := 610) rfl (hb hby at_601) rfl ((if0 _ _).trans (feq (show ¬ (own_bi hbt = 0) from by rw [hhb]; decide)).2) (by decide) (by decide) ?_
        refine XS.iload X0.here hx rfl (hb hby at_610) rfl ?_
        exact k)
      by_cases hl : lbt = true
      · have hlb := hl
        have K17 : Rc K0 T0 (mkF m 617 #[sl0, sl1, sl2, sl3, sl4, sl5, sR va, sD du0, sV, sD du1, sV, sD du2, sV, sD dw0, sV, sD dw1, sV, sD dw2, sV, sI (Int32.ofNat sa0), sI (Int32.ofNat sa1), sI (Int32.ofNat sa2), sl22, sl23, sI (Int32.ofNat ch), sl25, sI (own_bi hbt), sl27, sl28, sl29, sl30, sl31, sl32, sI lz, sD ac, sV, sI (own_bi (decide (sa0 = sa1))), sU, sU] [(kI (own_bi (decide (sa0 = sa1))))]) := fun t k => K16 t (by
          refine XS.ifNo X0.here hx rfl (hb hby at_612) rfl ((if0 _ _).trans (feq (show ¬ (lz = 0) from by rw [hlz, hlb]; decide)).1) ?_
          refine XS.iload X0.here hx rfl (hb hby at_615) rfl ?_
          exact k)
        by_cases hm : sa0 = sa1
        · have hmb := hm
          have K18 : Rc K0 T0 (mkF m 627 #[sl0, sl1, sl2, sl3, sl4, sl5, sR va, sD du0, sV, sD du1, sV, sD du2, sV, sD dw0, sV, sD dw1, sV, sD dw2, sV, sI (Int32.ofNat sa0), sI (Int32.ofNat sa1), sI (Int32.ofNat sa2), sl22, sl23, sI (Int32.ofNat ch), sl25, sI (own_bi hbt), sl27, sl28, sl29, sl30, sl31, sl32, sI lz, sD ac, sV, sI (own_bi (decide (sa0 = sa1))), sU, sU] [(kD dw1)]) := fun t k => K17 t (by
            refine XS.ifNo X0.here hx rfl (hb hby at_617) rfl ((if0 _ _).trans (feq (show ¬ (own_bi (decide (sa0 = sa1)) = 0) from by rw [decide_eq_true hm]; decide)).1) ?_
            refine XS.dload X0.here hx rfl (hb hby at_620) rfl ?_
            refine XS.goto X0.here hx rfl (pc0 := 622) (pc' := 627) rfl (hb hby at_622) (by decide) (by decide) ?_
            exact k)
          have K19 : Rc K0 T0 (mkF m 652 #[sl0, sl1, sl2, sl3, sl4, sl5, sR va, sD du0, sV, sD du1, sV, sD du2, sV, sD dw0, sV, sD dw1, sV, sD dw2, sV, sI (Int32.ofNat sa0), sI (Int32.ofNat sa1), sI (Int32.ofNat sa2), sl22, sl23, sI (Int32.ofNat ch), sl25, sI (own_bi hbt), sl27, sl28, sl29, sl30, sl31, sl32, sI lz, sD ac, sV, sI (own_bi (decide (sa0 = sa1))), sD (FP.dmul dw1 (own_dv (gv sa2))), sV] [(kD (FP.dmul dw1 (own_dv (gv sa2)))), (kD ac)]) := fun t k => K18 t (by
            refine XS.aload X0.here hx rfl (hb hby at_627) rfl rfl ?_
            refine XS.iload X0.here hx rfl (hb hby at_629) rfl ?_
            refine dalW X0 hx hZ e0 W0 (i := 0) rfl (j := (Int32.ofNat sa2)) (k := sa2) (own_nn (by omega)) (own_tn (by omega)) (by omega) (v := (.double (own_dv (gv sa2)))) (own_arD W0 (i := 0) rfl (by omega)) (g := (mkF m 631 #[sl0, sl1, sl2, sl3, sl4, sl5, sR va, sD du0, sV, sD du1, sV, sD du2, sV, sD dw0, sV, sD dw1, sV, sD dw2, sV, sI (Int32.ofNat sa0), sI (Int32.ofNat sa1), sI (Int32.ofNat sa2), sl22, sl23, sI (Int32.ofNat ch), sl25, sI (own_bi hbt), sl27, sl28, sl29, sl30, sl31, sl32, sI lz, sD ac, sV, sI (own_bi (decide (sa0 = sa1))), sU, sU] [(kI (Int32.ofNat sa2)), (kR va), (kD dw1)])) rfl rfl (hb hby at_631) _ ?_
            refine XS.dmulS X0.here hx rfl (hb hby at_632) rfl (Jvm.OwnFp.Sx.nn (Jvm.OwnFp.Sx.mul hdw1 (by decide) (hVq sa2 hsa2))) rfl ?_
            refine XS.dstore X0.here hx rfl (hb hby at_633) rfl (l' := #[sl0, sl1, sl2, sl3, sl4, sl5, sR va, sD du0, sV, sD du1, sV, sD du2, sV, sD dw0, sV, sD dw1, sV, sD dw2, sV, sI (Int32.ofNat sa0), sI (Int32.ofNat sa1), sI (Int32.ofNat sa2), sl22, sl23, sI (Int32.ofNat ch), sl25, sI (own_bi hbt), sl27, sl28, sl29, sl30, sl31, sl32, sI lz, sD ac, sV, sI (own_bi (decide (sa0 = sa1))), sD (FP.dmul dw1 (own_dv (gv sa2))), sV]) rfl ?_
            refine XS.goto X0.here hx rfl (pc0 := 635) (pc' := 648) rfl (hb hby at_635) (by decide) (by decide) ?_
            refine XS.dload X0.here hx rfl (hb hby at_648) rfl ?_
            refine XS.dload X0.here hx rfl (hb hby at_650) rfl ?_
            exact k)
          have hva := hac
          unfold own_val at hva
          rw [if_neg hc, if_pos hh, if_pos hl, if_pos hm] at hva
          have K20 : Rc K0 T0 (mkF m 661 #[sl0, sl1, sl2, sl3, sl4, sl5, sR va, sD du0, sV, sD du1, sV, sD du2, sV, sD dw0, sV, sD dw1, sV, sD dw2, sV, sI (Int32.ofNat sa0), sI (Int32.ofNat sa1), sI (Int32.ofNat sa2), sl22, sl23, sI (Int32.ofNat ch), sl25, sI (own_bi hbt), sl27, sl28, sl29, sl30, sl31, sl32, sI lz, sD ac, sV, sI (own_bi (decide (sa0 = sa1))), sD (FP.dmul dw1 (own_dv (gv sa2))), sV] [(kI 1)]) := fun t k => K19 t (by
            refine XS.dcmpS X0.here hx rfl (hb hby at_652) rfl rfl ?_
            refine XS.ifNo X0.here hx rfl (hb hby at_653) rfl ((if0 _ _).trans (teq (Jvm.OwnFp.Sx.eq hva (Jvm.OwnFp.Sx.mul hdw1 (by decide) (hVq sa2 hsa2)))).2) ?_
            refine XS.iconst X0.here hx rfl (hb hby at_656) ?_
            refine XS.goto X0.here hx rfl (pc0 := 657) (pc' := 661) rfl (hb hby at_657) (by decide) (by decide) ?_
            exact k)
          exact ⟨T0, _, X0, e0, K20⟩
        · have hmb := hm
          have K21 : Rc K0 T0 (mkF m 627 #[sl0, sl1, sl2, sl3, sl4, sl5, sR va, sD du0, sV, sD du1, sV, sD du2, sV, sD dw0, sV, sD dw1, sV, sD dw2, sV, sI (Int32.ofNat sa0), sI (Int32.ofNat sa1), sI (Int32.ofNat sa2), sl22, sl23, sI (Int32.ofNat ch), sl25, sI (own_bi hbt), sl27, sl28, sl29, sl30, sl31, sl32, sI lz, sD ac, sV, sI (own_bi (decide (sa0 = sa1))), sU, sU] [(kD dw2)]) := fun t k => K17 t (by
            refine XS.ifYes X0.here hx rfl (pc0 := 617) (pc' := 625) rfl (hb hby at_617) rfl ((if0 _ _).trans (teq (show own_bi (decide (sa0 = sa1)) = 0 from by rw [decide_eq_false hm]; rfl)).1) (by decide) (by decide) ?_
            refine XS.dload X0.here hx rfl (hb hby at_625) rfl ?_
            exact k)
          have K22 : Rc K0 T0 (mkF m 652 #[sl0, sl1, sl2, sl3, sl4, sl5, sR va, sD du0, sV, sD du1, sV, sD du2, sV, sD dw0, sV, sD dw1, sV, sD dw2, sV, sI (Int32.ofNat sa0), sI (Int32.ofNat sa1), sI (Int32.ofNat sa2), sl22, sl23, sI (Int32.ofNat ch), sl25, sI (own_bi hbt), sl27, sl28, sl29, sl30, sl31, sl32, sI lz, sD ac, sV, sI (own_bi (decide (sa0 = sa1))), sD (FP.dmul dw2 (own_dv (gv sa2))), sV] [(kD (FP.dmul dw2 (own_dv (gv sa2)))), (kD ac)]) := fun t k => K21 t (by
            refine XS.aload X0.here hx rfl (hb hby at_627) rfl rfl ?_
            refine XS.iload X0.here hx rfl (hb hby at_629) rfl ?_
            refine dalW X0 hx hZ e0 W0 (i := 0) rfl (j := (Int32.ofNat sa2)) (k := sa2) (own_nn (by omega)) (own_tn (by omega)) (by omega) (v := (.double (own_dv (gv sa2)))) (own_arD W0 (i := 0) rfl (by omega)) (g := (mkF m 631 #[sl0, sl1, sl2, sl3, sl4, sl5, sR va, sD du0, sV, sD du1, sV, sD du2, sV, sD dw0, sV, sD dw1, sV, sD dw2, sV, sI (Int32.ofNat sa0), sI (Int32.ofNat sa1), sI (Int32.ofNat sa2), sl22, sl23, sI (Int32.ofNat ch), sl25, sI (own_bi hbt), sl27, sl28, sl29, sl30, sl31, sl32, sI lz, sD ac, sV, sI (own_bi (decide (sa0 = sa1))), sU, sU] [(kI (Int32.ofNat sa2)), (kR va), (kD dw2)])) rfl rfl (hb hby at_631) _ ?_
            refine XS.dmulS X0.here hx rfl (hb hby at_632) rfl (Jvm.OwnFp.Sx.nn (Jvm.OwnFp.Sx.mul hdw2 (by decide) (hVq sa2 hsa2))) rfl ?_
            refine XS.dstore X0.here hx rfl (hb hby at_633) rfl (l' := #[sl0, sl1, sl2, sl3, sl4, sl5, sR va, sD du0, sV, sD du1, sV, sD du2, sV, sD dw0, sV, sD dw1, sV, sD dw2, sV, sI (Int32.ofNat sa0), sI (Int32.ofNat sa1), sI (Int32.ofNat sa2), sl22, sl23, sI (Int32.ofNat ch), sl25, sI (own_bi hbt), sl27, sl28, sl29, sl30, sl31, sl32, sI lz, sD ac, sV, sI (own_bi (decide (sa0 = sa1))), sD (FP.dmul dw2 (own_dv (gv sa2))), sV]) rfl ?_
            refine XS.goto X0.here hx rfl (pc0 := 635) (pc' := 648) rfl (hb hby at_635) (by decide) (by decide) ?_
            refine XS.dload X0.here hx rfl (hb hby at_648) rfl ?_
            refine XS.dload X0.here hx rfl (hb hby at_650) rfl ?_
            exact k)
          have hva := hac
          unfold own_val at hva
          rw [if_neg hc, if_pos hh, if_pos hl, if_neg hm] at hva
          have K23 : Rc K0 T0 (mkF m 661 #[sl0, sl1, sl2, sl3, sl4, sl5, sR va, sD du0, sV, sD du1, sV, sD du2, sV, sD dw0, sV, sD dw1, sV, sD dw2, sV, sI (Int32.ofNat sa0), sI (Int32.ofNat sa1), sI (Int32.ofNat sa2), sl22, sl23, sI (Int32.ofNat ch), sl25, sI (own_bi hbt), sl27, sl28, sl29, sl30, sl31, sl32, sI lz, sD ac, sV, sI (own_bi (decide (sa0 = sa1))), sD (FP.dmul dw2 (own_dv (gv sa2))), sV] [(kI 1)]) := fun t k => K22 t (by
            refine XS.dcmpS X0.here hx rfl (hb hby at_652) rfl rfl ?_
            refine XS.ifNo X0.here hx rfl (hb hby at_653) rfl ((if0 _ _).trans (teq (Jvm.OwnFp.Sx.eq hva (Jvm.OwnFp.Sx.mul hdw2 (by decide) (hVq sa2 hsa2)))).2) ?_
            refine XS.iconst X0.here hx rfl (hb hby at_656) ?_
            refine XS.goto X0.here hx rfl (pc0 := 657) (pc' := 661) rfl (hb hby at_657) (by decide) (by decide) ?_
            exact k)
          exact ⟨T0, _, X0, e0, K23⟩
      · have hlb := Bool.eq_false_iff.mpr hl
        have K24 : Rc K0 T0 (mkF m 646 #[sl0, sl1, sl2, sl3, sl4, sl5, sR va, sD du0, sV, sD du1, sV, sD du2, sV, sD dw0, sV, sD dw1, sV, sD dw2, sV, sI (Int32.ofNat sa0), sI (Int32.ofNat sa1), sI (Int32.ofNat sa2), sl22, sl23, sI (Int32.ofNat ch), sl25, sI (own_bi hbt), sl27, sl28, sl29, sl30, sl31, sl32, sI lz, sD ac, sV, sI (own_bi (decide (sa0 = sa1))), sU, sU] [(kD (FP.dmul du2 (own_dv (gv sa2))))]) := fun t k => K16 t (by
          refine XS.ifYes X0.here hx rfl (pc0 := 612) (pc' := 638) rfl (hb hby at_612) rfl ((if0 _ _).trans (teq (show lz = 0 from by rw [hlz, hlb]; rfl)).1) (by decide) (by decide) ?_
          refine XS.dload X0.here hx rfl (hb hby at_638) rfl ?_
          refine XS.aload X0.here hx rfl (hb hby at_640) rfl rfl ?_
          refine XS.iload X0.here hx rfl (hb hby at_642) rfl ?_
          refine dalW X0 hx hZ e0 W0 (i := 0) rfl (j := (Int32.ofNat sa2)) (k := sa2) (own_nn (by omega)) (own_tn (by omega)) (by omega) (v := (.double (own_dv (gv sa2)))) (own_arD W0 (i := 0) rfl (by omega)) (g := (mkF m 644 #[sl0, sl1, sl2, sl3, sl4, sl5, sR va, sD du0, sV, sD du1, sV, sD du2, sV, sD dw0, sV, sD dw1, sV, sD dw2, sV, sI (Int32.ofNat sa0), sI (Int32.ofNat sa1), sI (Int32.ofNat sa2), sl22, sl23, sI (Int32.ofNat ch), sl25, sI (own_bi hbt), sl27, sl28, sl29, sl30, sl31, sl32, sI lz, sD ac, sV, sI (own_bi (decide (sa0 = sa1))), sU, sU] [(kI (Int32.ofNat sa2)), (kR va), (kD du2)])) rfl rfl (hb hby at_644) _ ?_
          refine XS.dmulS X0.here hx rfl (hb hby at_645) rfl (Jvm.OwnFp.Sx.nn (Jvm.OwnFp.Sx.mul hdu2 (by decide) (hVq sa2 hsa2))) rfl ?_
          exact k)
        have K25 : Rc K0 T0 (mkF m 652 #[sl0, sl1, sl2, sl3, sl4, sl5, sR va, sD du0, sV, sD du1, sV, sD du2, sV, sD dw0, sV, sD dw1, sV, sD dw2, sV, sI (Int32.ofNat sa0), sI (Int32.ofNat sa1), sI (Int32.ofNat sa2), sl22, sl23, sI (Int32.ofNat ch), sl25, sI (own_bi hbt), sl27, sl28, sl29, sl30, sl31, sl32, sI lz, sD ac, sV, sI (own_bi (decide (sa0 = sa1))), sD (FP.dmul du2 (own_dv (gv sa2))), sV] [(kD (FP.dmul du2 (own_dv (gv sa2)))), (kD ac)]) := fun t k => K24 t (by
          refine XS.dstore X0.here hx rfl (hb hby at_646) rfl (l' := #[sl0, sl1, sl2, sl3, sl4, sl5, sR va, sD du0, sV, sD du1, sV, sD du2, sV, sD dw0, sV, sD dw1, sV, sD dw2, sV, sI (Int32.ofNat sa0), sI (Int32.ofNat sa1), sI (Int32.ofNat sa2), sl22, sl23, sI (Int32.ofNat ch), sl25, sI (own_bi hbt), sl27, sl28, sl29, sl30, sl31, sl32, sI lz, sD ac, sV, sI (own_bi (decide (sa0 = sa1))), sD (FP.dmul du2 (own_dv (gv sa2))), sV]) rfl ?_
          refine XS.dload X0.here hx rfl (hb hby at_648) rfl ?_
          refine XS.dload X0.here hx rfl (hb hby at_650) rfl ?_
          exact k)
        have hva := hac
        unfold own_val at hva
        rw [if_neg hc, if_pos hh, if_neg hl] at hva
        have K26 : Rc K0 T0 (mkF m 661 #[sl0, sl1, sl2, sl3, sl4, sl5, sR va, sD du0, sV, sD du1, sV, sD du2, sV, sD dw0, sV, sD dw1, sV, sD dw2, sV, sI (Int32.ofNat sa0), sI (Int32.ofNat sa1), sI (Int32.ofNat sa2), sl22, sl23, sI (Int32.ofNat ch), sl25, sI (own_bi hbt), sl27, sl28, sl29, sl30, sl31, sl32, sI lz, sD ac, sV, sI (own_bi (decide (sa0 = sa1))), sD (FP.dmul du2 (own_dv (gv sa2))), sV] [(kI 1)]) := fun t k => K25 t (by
          refine XS.dcmpS X0.here hx rfl (hb hby at_652) rfl rfl ?_
          refine XS.ifNo X0.here hx rfl (hb hby at_653) rfl ((if0 _ _).trans (teq (Jvm.OwnFp.Sx.eq hva (Jvm.OwnFp.Sx.mul hdu2 (by decide) (hVq sa2 hsa2)))).2) ?_
          refine XS.iconst X0.here hx rfl (hb hby at_656) ?_
          refine XS.goto X0.here hx rfl (pc0 := 657) (pc' := 661) rfl (hb hby at_657) (by decide) (by decide) ?_
          exact k)
        exact ⟨T0, _, X0, e0, K26⟩
    · have hhb := Bool.eq_false_iff.mpr hh
      have K27 : Rc K0 T0 (mkF m 605 #[sl0, sl1, sl2, sl3, sl4, sl5, sR va, sD du0, sV, sD du1, sV, sD du2, sV, sD dw0, sV, sD dw1, sV, sD dw2, sV, sI (Int32.ofNat sa0), sI (Int32.ofNat sa1), sI (Int32.ofNat sa2), sl22, sl23, sI (Int32.ofNat ch), sl25, sI (own_bi hbt), sl27, sl28, sl29, sl30, sl31, sl32, sI lz, sD ac, sV, sI (own_bi (decide (sa0 = sa1))), sU, sU] [(kD 0)]) := fun t k => K15 t (by
        refine XS.ifNo X0.here hx rfl (hb hby at_601) rfl ((if0 _ _).trans (teq (show own_bi hbt = 0 from by rw [hhb]; rfl)).2) ?_
        refine XS.dconst0 X0.here hx rfl (hb hby at_604) rfl ?_
        exact k)
      have K28 : Rc K0 T0 (mkF m 652 #[sl0, sl1, sl2, sl3, sl4, sl5, sR va, sD du0, sV, sD du1, sV, sD du2, sV, sD dw0, sV, sD dw1, sV, sD dw2, sV, sI (Int32.ofNat sa0), sI (Int32.ofNat sa1), sI (Int32.ofNat sa2), sl22, sl23, sI (Int32.ofNat ch), sl25, sI (own_bi hbt), sl27, sl28, sl29, sl30, sl31, sl32, sI lz, sD ac, sV, sI (own_bi (decide (sa0 = sa1))), sD 0, sV] [(kD 0), (kD ac)]) := fun t k => K27 t (by
        refine XS.dstore X0.here hx rfl (hb hby at_605) rfl (l' := #[sl0, sl1, sl2, sl3, sl4, sl5, sR va, sD du0, sV, sD du1, sV, sD du2, sV, sD dw0, sV, sD dw1, sV, sD dw2, sV, sI (Int32.ofNat sa0), sI (Int32.ofNat sa1), sI (Int32.ofNat sa2), sl22, sl23, sI (Int32.ofNat ch), sl25, sI (own_bi hbt), sl27, sl28, sl29, sl30, sl31, sl32, sI lz, sD ac, sV, sI (own_bi (decide (sa0 = sa1))), sD 0, sV]) rfl ?_
        refine XS.goto X0.here hx rfl (pc0 := 607) (pc' := 648) rfl (hb hby at_607) (by decide) (by decide) ?_
        refine XS.dload X0.here hx rfl (hb hby at_648) rfl ?_
        refine XS.dload X0.here hx rfl (hb hby at_650) rfl ?_
        exact k)
      have hva := hac
      unfold own_val at hva
      rw [if_neg hc, if_neg hh] at hva
      have K29 : Rc K0 T0 (mkF m 661 #[sl0, sl1, sl2, sl3, sl4, sl5, sR va, sD du0, sV, sD du1, sV, sD du2, sV, sD dw0, sV, sD dw1, sV, sD dw2, sV, sI (Int32.ofNat sa0), sI (Int32.ofNat sa1), sI (Int32.ofNat sa2), sl22, sl23, sI (Int32.ofNat ch), sl25, sI (own_bi hbt), sl27, sl28, sl29, sl30, sl31, sl32, sI lz, sD ac, sV, sI (own_bi (decide (sa0 = sa1))), sD 0, sV] [(kI 1)]) := fun t k => K28 t (by
        refine XS.dcmpS X0.here hx rfl (hb hby at_652) rfl rfl ?_
        refine XS.ifNo X0.here hx rfl (hb hby at_653) rfl ((if0 _ _).trans (teq (Jvm.OwnFp.Sx.eq hva Jvm.OwnFp.Sx.zero)).2) ?_
        refine XS.iconst X0.here hx rfl (hb hby at_656) ?_
        refine XS.goto X0.here hx rfl (pc0 := 657) (pc' := 661) rfl (hb hby at_657) (by decide) (by decide) ?_
        exact k)
      exact ⟨T0, _, X0, e0, K29⟩
theorem pn_RowsValuePinLaw : plainName "com/example/sambre/sambre/engine/RowsValuePinLaw" = true := by first | (simp [plainName, overriddenIn]; done) | decide +kernel
theorem ef_rm0 (m : MethodId) (p1 p2 : Int64) (p3 p4 : Int32) : entryFrame m #[(.long p1), (.long p2), (.int p3), (.int p4)] maxLocals = mkF m 0 #[.val (.long p1), .second, .val (.long p2), .second, .val (.int p3), .val (.int p4), .unset, .unset, .unset, .unset, .unset, .unset, .unset, .unset, .unset, .unset, .unset, .unset, .unset, .unset, .unset, .unset, .unset, .unset, .unset, .unset, .unset, .unset, .unset, .unset, .unset, .unset, .unset, .unset, .unset, .unset, .unset, .unset, .unset] [] := by first | (simp [entryFrame, mkF, argsToLocals, Value.category, maxLocals]; done) | rfl
def Qrm0 (Z : State) (p1 p2 : Int64) (p3 p4 : Int32) (n0 : Nat) (v : Option Value) (h : Heap) (L : List Loc) : Prop := v = some (.int (1 : Int32)) ∧ Fr n0 L
set_option maxRecDepth 65536 in
set_option maxHeartbeats 40000000 in
theorem rm0 (l : Launch) (Z : State) (a0 : Array Value) (hw : ∀ d ∈ tables_1, d.before a0 Z = true) (ws : List Jvm.Cond) (p1 p2 : Int64) (p3 p4 : Int32) (h0 : Heap) (n0 : Nat) (W0 : Wo n0 h0 []) :
    MetFree l x (head1 (Jvm.Cond.code x code maxLocals ret :: ws) room_1) (fun aa U => aa = #[(.long p1), (.long p2), (.int p3), (.int p4)] ∧ Z.Warmed39 U.vm ∧ U.heap = h0) (fun _ _ _ _ _ => True) (fun _ U ou U' => ∃ v L, ou = .returned v ∧ Qrm0 Z p1 p2 p3 p4 n0 v U'.heap L ∧ FrameEnd U ou U' L room_1.cells room_1.slots) := by
  refine MetFree.of_bodySF (plainFor_of_name pn_RowsValuePinLaw) hisR ?_
  intro p e s m args below meth c s₁ Bd hml0 hP hK
  obtain ⟨rfl, hZ, hh⟩ := hP
  have hx := Bd.exec
  have hby := Bd.bytes
  have hml : c.maxLocals = 39 := hml0
  have hown : s.vm.findClass "com/example/sambre/sambre/engine/RowsValuePinLaw" = some m.cls := findClass_of_methodNamed Bd.named
  have hnm := (name_of_methodNamed Bd.named Bd.method).1
  have X0 : Stand p l e room_1 s m #[(.long p1), (.long p2), (.int p3), (.int p4)] below meth c s₁ [] 0 0 := Stand.of_body Bd
  have e0 : s₁.heap = h0 := by rw [← hh, Bd.state]; rfl
  have N0 := Fr.nil n0
  obtain ⟨F0, hF0⟩ : ∃ F, F = mkF m 0 #[.val (.long p1), .second, .val (.long p2), .second, .val (.int p3), .val (.int p4), .unset, .unset, .unset, .unset, .unset, .unset, .unset, .unset, .unset, .unset, .unset, .unset, .unset, .unset, .unset, .unset, .unset, .unset, .unset, .unset, .unset, .unset, .unset, .unset, .unset, .unset, .unset, .unset, .unset, .unset, .unset, .unset, .unset] [] := ⟨_, rfl⟩
  have pre0 : ∀ t, Steps p.tables e below (s₁.setTop F0) t → Steps p.tables e below (s₁.setTop (entryFrame m #[(.long p1), (.long p2), (.int p3), (.int p4)] maxLocals)) t := fun t k => castTop ((ef_rm0 m p1 p2 p3 p4).trans hF0.symm) k
  have K0 : Rch p e below s₁ F0 s₁ (mkF m 0 #[.val (.long p1), .second, .val (.long p2), .second, .val (.int p3), .val (.int p4), .unset, .unset, .unset, .unset, .unset, .unset, .unset, .unset, .unset, .unset, .unset, .unset, .unset, .unset, .unset, .unset, .unset, .unset, .unset, .unset, .unset, .unset, .unset, .unset, .unset, .unset, .unset, .unset, .unset, .unset, .unset, .unset, .unset] []) := fun t k => castTop hF0 k
  have K1 : Rc K0 s₁ (mkF m 2 #[sJ p1, sV, sJ p2, sV, sI p3, sI p4, sU, sU, sU, sU, sU, sU, sU, sU, sU, sU, sU, sU, sU, sU, sU, sU, sU, sU, sU, sU, sU, sU, sU, sU, sU, sU, sU, sU, sU, sU, sU, sU, sU] [(kI 8)]) := fun t k => K0 t (XS.bipush X0.here hx rfl (hb hby at_0) k)
  obtain ⟨T2, h2, a2, X2, e2, W2q, st2⟩ := newWA X0 hx hZ (aty := .double) (ty := .double) rfl (hw _ (mi 0 rfl)) e0 W0 (g := K1.g) rfl (hb hby at_2) (z := (8 : Int32)) (n := 8) rfl (by decide) (by decide) (cap := 8) (by decide) (by decide) (by decide : 0 + 1 ≤ _) (by decide : 0 + 8 ≤ _)
  have K3 : Rc K0 T2 (mkF m 12 #[sJ p1, sV, sJ p2, sV, sI p3, sI p4, sR a2, sU, sU, sU, sU, sU, sU, sU, sU, sU, sU, sU, sU, sU, sU, sU, sU, sU, sU, sU, sU, sU, sU, sU, sU, sU, sU, sU, sU, sU, sU, sU, sU] [(kI ((p1).toInt32).toInt8.toInt32), (kI 0), (kR a2)]) := fun t k => K1 t (st2 t (by
    refine XS.astore X2.here hx rfl (hb hby at_4) rfl rfl (l' := #[sJ p1, sV, sJ p2, sV, sI p3, sI p4, sR a2, sU, sU, sU, sU, sU, sU, sU, sU, sU, sU, sU, sU, sU, sU, sU, sU, sU, sU, sU, sU, sU, sU, sU, sU, sU, sU, sU, sU, sU, sU, sU, sU]) rfl ?_
    refine XS.aload X2.here hx rfl (hb hby at_6) rfl rfl ?_
    refine XS.iconst X2.here hx rfl (hb hby at_8) ?_
    refine XS.lloadN X2.here hx rfl (hb hby at_9) rfl ?_
    refine XS.l2i X2.here hx rfl (hb hby at_10) rfl ?_
    refine XS.i2b X2.here hx rfl (hb hby at_11) rfl ?_
    exact k))
  obtain ⟨z0, ez0⟩ : ∃ z : Int32, ((p1).toInt32).toInt8.toInt32 = z := ⟨_, rfl⟩
  rw [ez0] at K3
  have K4 : Rc K0 T2 (mkF m 13 #[sJ p1, sV, sJ p2, sV, sI p3, sI p4, sR a2, sU, sU, sU, sU, sU, sU, sU, sU, sU, sU, sU, sU, sU, sU, sU, sU, sU, sU, sU, sU, sU, sU, sU, sU, sU, sU, sU, sU, sU, sU, sU, sU] [(kD (FP.i2d z0)), (kI 0), (kR a2)]) := fun t k => K3 t (XS.i2dS X2.here hx rfl (hb hby at_12) rfl rfl k)
  obtain ⟨T5, h5, L5, X5, e5, N5, W5q, st5⟩ := dasW X2 hx hZ e2 W2q N0 (i := 0) (a := a2) rfl (j := (0 : Int32)) (x := (FP.i2d z0)) (k := 0) (by decide) (by decide) (by decide) (g := K4.g) rfl rfl (hb hby at_13)
  have K6 : Rc K0 T5 (mkF m 23 #[sJ p1, sV, sJ p2, sV, sI p3, sI p4, sR a2, sU, sU, sU, sU, sU, sU, sU, sU, sU, sU, sU, sU, sU, sU, sU, sU, sU, sU, sU, sU, sU, sU, sU, sU, sU, sU, sU, sU, sU, sU, sU, sU] [(kI ((((p1).toUInt64 >>> ((8 : Int32) &&& 0x3f).toInt64.toUInt64).toInt64).toInt32).toInt8.toInt32), (kI 1), (kR a2)]) := fun t k => K4 t (st5 t (by
    refine XS.aload X5.here hx rfl (hb hby at_14) rfl rfl ?_
    refine XS.iconst X5.here hx rfl (hb hby at_16) ?_
    refine XS.lloadN X5.here hx rfl (hb hby at_17) rfl ?_
    refine XS.bipush X5.here hx rfl (hb hby at_18) ?_
    refine XS.lushr X5.here hx rfl (hb hby at_20) rfl ?_
    refine XS.l2i X5.here hx rfl (hb hby at_21) rfl ?_
    refine XS.i2b X5.here hx rfl (hb hby at_22) rfl ?_
    exact k))
  obtain ⟨z1, ez1⟩ : ∃ z : Int32, ((((p1).toUInt64 >>> ((8 : Int32) &&& 0x3f).toInt64.toUInt64).toInt64).toInt32).toInt8.toInt32 = z := ⟨_, rfl⟩
  rw [ez1] at K6
  have K7 : Rc K0 T5 (mkF m 24 #[sJ p1, sV, sJ p2, sV, sI p3, sI p4, sR a2, sU, sU, sU, sU, sU, sU, sU, sU, sU, sU, sU, sU, sU, sU, sU, sU, sU, sU, sU, sU, sU, sU, sU, sU, sU, sU, sU, sU, sU, sU, sU, sU] [(kD (FP.i2d z1)), (kI 1), (kR a2)]) := fun t k => K6 t (XS.i2dS X5.here hx rfl (hb hby at_23) rfl rfl k)
  obtain ⟨T8, h8, L8, X8, e8, N8, W8q, st8⟩ := dasW X5 hx hZ e5 W5q N5 (i := 0) (a := a2) rfl (j := (1 : Int32)) (x := (FP.i2d z1)) (k := 1) (by decide) (by decide) (by decide) (g := K7.g) rfl rfl (hb hby at_24)
  have K9 : Rc K0 T8 (mkF m 34 #[sJ p1, sV, sJ p2, sV, sI p3, sI p4, sR a2, sU, sU, sU, sU, sU, sU, sU, sU, sU, sU, sU, sU, sU, sU, sU, sU, sU, sU, sU, sU, sU, sU, sU, sU, sU, sU, sU, sU, sU, sU, sU, sU] [(kI ((((p1).toUInt64 >>> ((16 : Int32) &&& 0x3f).toInt64.toUInt64).toInt64).toInt32).toInt8.toInt32), (kI 2), (kR a2)]) := fun t k => K7 t (st8 t (by
    refine XS.aload X8.here hx rfl (hb hby at_25) rfl rfl ?_
    refine XS.iconst X8.here hx rfl (hb hby at_27) ?_
    refine XS.lloadN X8.here hx rfl (hb hby at_28) rfl ?_
    refine XS.bipush X8.here hx rfl (hb hby at_29) ?_
    refine XS.lushr X8.here hx rfl (hb hby at_31) rfl ?_
    refine XS.l2i X8.here hx rfl (hb hby at_32) rfl ?_
    refine XS.i2b X8.here hx rfl (hb hby at_33) rfl ?_
    exact k))
  obtain ⟨z2, ez2⟩ : ∃ z : Int32, ((((p1).toUInt64 >>> ((16 : Int32) &&& 0x3f).toInt64.toUInt64).toInt64).toInt32).toInt8.toInt32 = z := ⟨_, rfl⟩
  rw [ez2] at K9
  have K10 : Rc K0 T8 (mkF m 35 #[sJ p1, sV, sJ p2, sV, sI p3, sI p4, sR a2, sU, sU, sU, sU, sU, sU, sU, sU, sU, sU, sU, sU, sU, sU, sU, sU, sU, sU, sU, sU, sU, sU, sU, sU, sU, sU, sU, sU, sU, sU, sU, sU] [(kD (FP.i2d z2)), (kI 2), (kR a2)]) := fun t k => K9 t (XS.i2dS X8.here hx rfl (hb hby at_34) rfl rfl k)
  obtain ⟨T11, h11, L11, X11, e11, N11, W11q, st11⟩ := dasW X8 hx hZ e8 W8q N8 (i := 0) (a := a2) rfl (j := (2 : Int32)) (x := (FP.i2d z2)) (k := 2) (by decide) (by decide) (by decide) (g := K10.g) rfl rfl (hb hby at_35)
  have W11 : Wo n0 h11 [(a2, Ar Z .double 8 (upd (upd (upd zD 0 (kD (FP.i2d z0))) 1 (kD (FP.i2d z1))) 2 (kD (FP.i2d z2))))] := W11q
  have K12 : Rc K0 T11 (mkF m 45 #[sJ p1, sV, sJ p2, sV, sI p3, sI p4, sR a2, sU, sU, sU, sU, sU, sU, sU, sU, sU, sU, sU, sU, sU, sU, sU, sU, sU, sU, sU, sU, sU, sU, sU, sU, sU, sU, sU, sU, sU, sU, sU, sU] [(kI ((((p1).toUInt64 >>> ((24 : Int32) &&& 0x3f).toInt64.toUInt64).toInt64).toInt32).toInt8.toInt32), (kI 3), (kR a2)]) := fun t k => K10 t (st11 t (by
    refine XS.aload X11.here hx rfl (hb hby at_36) rfl rfl ?_
    refine XS.iconst X11.here hx rfl (hb hby at_38) ?_
    refine XS.lloadN X11.here hx rfl (hb hby at_39) rfl ?_
    refine XS.bipush X11.here hx rfl (hb hby at_40) ?_
    refine XS.lushr X11.here hx rfl (hb hby at_42) rfl ?_
    refine XS.l2i X11.here hx rfl (hb hby at_43) rfl ?_
    refine XS.i2b X11.here hx rfl (hb hby at_44) rfl ?_
    exact k))
  obtain ⟨z3, ez3⟩ : ∃ z : Int32, ((((p1).toUInt64 >>> ((24 : Int32) &&& 0x3f).toInt64.toUInt64).toInt64).toInt32).toInt8.toInt32 = z := ⟨_, rfl⟩
  rw [ez3] at K12
  have K13 : Rc K0 T11 (mkF m 46 #[sJ p1, sV, sJ p2, sV, sI p3, sI p4, sR a2, sU, sU, sU, sU, sU, sU, sU, sU, sU, sU, sU, sU, sU, sU, sU, sU, sU, sU, sU, sU, sU, sU, sU, sU, sU, sU, sU, sU, sU, sU, sU, sU] [(kD (FP.i2d z3)), (kI 3), (kR a2)]) := fun t k => K12 t (XS.i2dS X11.here hx rfl (hb hby at_45) rfl rfl k)
  obtain ⟨T14, h14, L14, X14, e14, N14, W14q, st14⟩ := dasW X11 hx hZ e11 W11 N11 (i := 0) (a := a2) rfl (j := (3 : Int32)) (x := (FP.i2d z3)) (k := 3) (by decide) (by decide) (by decide) (g := K13.g) rfl rfl (hb hby at_46)
  have K15 : Rc K0 T14 (mkF m 56 #[sJ p1, sV, sJ p2, sV, sI p3, sI p4, sR a2, sU, sU, sU, sU, sU, sU, sU, sU, sU, sU, sU, sU, sU, sU, sU, sU, sU, sU, sU, sU, sU, sU, sU, sU, sU, sU, sU, sU, sU, sU, sU, sU] [(kI ((((p1).toUInt64 >>> ((32 : Int32) &&& 0x3f).toInt64.toUInt64).toInt64).toInt32).toInt8.toInt32), (kI 4), (kR a2)]) := fun t k => K13 t (st14 t (by
    refine XS.aload X14.here hx rfl (hb hby at_47) rfl rfl ?_
    refine XS.iconst X14.here hx rfl (hb hby at_49) ?_
    refine XS.lloadN X14.here hx rfl (hb hby at_50) rfl ?_
    refine XS.bipush X14.here hx rfl (hb hby at_51) ?_
    refine XS.lushr X14.here hx rfl (hb hby at_53) rfl ?_
    refine XS.l2i X14.here hx rfl (hb hby at_54) rfl ?_
    refine XS.i2b X14.here hx rfl (hb hby at_55) rfl ?_
    exact k))
  obtain ⟨z4, ez4⟩ : ∃ z : Int32, ((((p1).toUInt64 >>> ((32 : Int32) &&& 0x3f).toInt64.toUInt64).toInt64).toInt32).toInt8.toInt32 = z := ⟨_, rfl⟩
  rw [ez4] at K15
  have K16 : Rc K0 T14 (mkF m 57 #[sJ p1, sV, sJ p2, sV, sI p3, sI p4, sR a2, sU, sU, sU, sU, sU, sU, sU, sU, sU, sU, sU, sU, sU, sU, sU, sU, sU, sU, sU, sU, sU, sU, sU, sU, sU, sU, sU, sU, sU, sU, sU, sU] [(kD (FP.i2d z4)), (kI 4), (kR a2)]) := fun t k => K15 t (XS.i2dS X14.here hx rfl (hb hby at_56) rfl rfl k)
  obtain ⟨T17, h17, L17, X17, e17, N17, W17q, st17⟩ := dasW X14 hx hZ e14 W14q N14 (i := 0) (a := a2) rfl (j := (4 : Int32)) (x := (FP.i2d z4)) (k := 4) (by decide) (by decide) (by decide) (g := K16.g) rfl rfl (hb hby at_57)
  have K18 : Rc K0 T17 (mkF m 67 #[sJ p1, sV, sJ p2, sV, sI p3, sI p4, sR a2, sU, sU, sU, sU, sU, sU, sU, sU, sU, sU, sU, sU, sU, sU, sU, sU, sU, sU, sU, sU, sU, sU, sU, sU, sU, sU, sU, sU, sU, sU, sU, sU] [(kI ((((p1).toUInt64 >>> ((40 : Int32) &&& 0x3f).toInt64.toUInt64).toInt64).toInt32).toInt8.toInt32), (kI 5), (kR a2)]) := fun t k => K16 t (st17 t (by
    refine XS.aload X17.here hx rfl (hb hby at_58) rfl rfl ?_
    refine XS.iconst X17.here hx rfl (hb hby at_60) ?_
    refine XS.lloadN X17.here hx rfl (hb hby at_61) rfl ?_
    refine XS.bipush X17.here hx rfl (hb hby at_62) ?_
    refine XS.lushr X17.here hx rfl (hb hby at_64) rfl ?_
    refine XS.l2i X17.here hx rfl (hb hby at_65) rfl ?_
    refine XS.i2b X17.here hx rfl (hb hby at_66) rfl ?_
    exact k))
  obtain ⟨z5, ez5⟩ : ∃ z : Int32, ((((p1).toUInt64 >>> ((40 : Int32) &&& 0x3f).toInt64.toUInt64).toInt64).toInt32).toInt8.toInt32 = z := ⟨_, rfl⟩
  rw [ez5] at K18
  have K19 : Rc K0 T17 (mkF m 68 #[sJ p1, sV, sJ p2, sV, sI p3, sI p4, sR a2, sU, sU, sU, sU, sU, sU, sU, sU, sU, sU, sU, sU, sU, sU, sU, sU, sU, sU, sU, sU, sU, sU, sU, sU, sU, sU, sU, sU, sU, sU, sU, sU] [(kD (FP.i2d z5)), (kI 5), (kR a2)]) := fun t k => K18 t (XS.i2dS X17.here hx rfl (hb hby at_67) rfl rfl k)
  obtain ⟨T20, h20, L20, X20, e20, N20, W20q, st20⟩ := dasW X17 hx hZ e17 W17q N17 (i := 0) (a := a2) rfl (j := (5 : Int32)) (x := (FP.i2d z5)) (k := 5) (by decide) (by decide) (by decide) (g := K19.g) rfl rfl (hb hby at_68)
  have K21 : Rc K0 T20 (mkF m 79 #[sJ p1, sV, sJ p2, sV, sI p3, sI p4, sR a2, sU, sU, sU, sU, sU, sU, sU, sU, sU, sU, sU, sU, sU, sU, sU, sU, sU, sU, sU, sU, sU, sU, sU, sU, sU, sU, sU, sU, sU, sU, sU, sU] [(kI ((((p1).toUInt64 >>> ((48 : Int32) &&& 0x3f).toInt64.toUInt64).toInt64).toInt32).toInt8.toInt32), (kI 6), (kR a2)]) := fun t k => K19 t (st20 t (by
    refine XS.aload X20.here hx rfl (hb hby at_69) rfl rfl ?_
    refine XS.bipush X20.here hx rfl (hb hby at_71) ?_
    refine XS.lloadN X20.here hx rfl (hb hby at_73) rfl ?_
    refine XS.bipush X20.here hx rfl (hb hby at_74) ?_
    refine XS.lushr X20.here hx rfl (hb hby at_76) rfl ?_
    refine XS.l2i X20.here hx rfl (hb hby at_77) rfl ?_
    refine XS.i2b X20.here hx rfl (hb hby at_78) rfl ?_
    exact k))
  obtain ⟨z6, ez6⟩ : ∃ z : Int32, ((((p1).toUInt64 >>> ((48 : Int32) &&& 0x3f).toInt64.toUInt64).toInt64).toInt32).toInt8.toInt32 = z := ⟨_, rfl⟩
  rw [ez6] at K21
  have K22 : Rc K0 T20 (mkF m 80 #[sJ p1, sV, sJ p2, sV, sI p3, sI p4, sR a2, sU, sU, sU, sU, sU, sU, sU, sU, sU, sU, sU, sU, sU, sU, sU, sU, sU, sU, sU, sU, sU, sU, sU, sU, sU, sU, sU, sU, sU, sU, sU, sU] [(kD (FP.i2d z6)), (kI 6), (kR a2)]) := fun t k => K21 t (XS.i2dS X20.here hx rfl (hb hby at_79) rfl rfl k)
  obtain ⟨T23, h23, L23, X23, e23, N23, W23q, st23⟩ := dasW X20 hx hZ e20 W20q N20 (i := 0) (a := a2) rfl (j := (6 : Int32)) (x := (FP.i2d z6)) (k := 6) (by decide) (by decide) (by decide) (g := K22.g) rfl rfl (hb hby at_80)
  have W23 : Wo n0 h23 [(a2, Ar Z .double 8 (upd (upd (upd (upd (upd (upd (upd zD 0 (kD (FP.i2d z0))) 1 (kD (FP.i2d z1))) 2 (kD (FP.i2d z2))) 3 (kD (FP.i2d z3))) 4 (kD (FP.i2d z4))) 5 (kD (FP.i2d z5))) 6 (kD (FP.i2d z6))))] := W23q
  have K24 : Rc K0 T23 (mkF m 91 #[sJ p1, sV, sJ p2, sV, sI p3, sI p4, sR a2, sU, sU, sU, sU, sU, sU, sU, sU, sU, sU, sU, sU, sU, sU, sU, sU, sU, sU, sU, sU, sU, sU, sU, sU, sU, sU, sU, sU, sU, sU, sU, sU] [(kI ((((p1).toUInt64 >>> ((56 : Int32) &&& 0x3f).toInt64.toUInt64).toInt64).toInt32).toInt8.toInt32), (kI 7), (kR a2)]) := fun t k => K22 t (st23 t (by
    refine XS.aload X23.here hx rfl (hb hby at_81) rfl rfl ?_
    refine XS.bipush X23.here hx rfl (hb hby at_83) ?_
    refine XS.lloadN X23.here hx rfl (hb hby at_85) rfl ?_
    refine XS.bipush X23.here hx rfl (hb hby at_86) ?_
    refine XS.lushr X23.here hx rfl (hb hby at_88) rfl ?_
    refine XS.l2i X23.here hx rfl (hb hby at_89) rfl ?_
    refine XS.i2b X23.here hx rfl (hb hby at_90) rfl ?_
    exact k))
  obtain ⟨z7, ez7⟩ : ∃ z : Int32, ((((p1).toUInt64 >>> ((56 : Int32) &&& 0x3f).toInt64.toUInt64).toInt64).toInt32).toInt8.toInt32 = z := ⟨_, rfl⟩
  rw [ez7] at K24
  have K25 : Rc K0 T23 (mkF m 92 #[sJ p1, sV, sJ p2, sV, sI p3, sI p4, sR a2, sU, sU, sU, sU, sU, sU, sU, sU, sU, sU, sU, sU, sU, sU, sU, sU, sU, sU, sU, sU, sU, sU, sU, sU, sU, sU, sU, sU, sU, sU, sU, sU] [(kD (FP.i2d z7)), (kI 7), (kR a2)]) := fun t k => K24 t (XS.i2dS X23.here hx rfl (hb hby at_91) rfl rfl k)
  obtain ⟨T26, h26, L26, X26, e26, N26, W26q, st26⟩ := dasW X23 hx hZ e23 W23 N23 (i := 0) (a := a2) rfl (j := (7 : Int32)) (x := (FP.i2d z7)) (k := 7) (by decide) (by decide) (by decide) (g := K25.g) rfl rfl (hb hby at_92)
  have K27 : Rc K0 T26 (mkF m 93 #[sJ p1, sV, sJ p2, sV, sI p3, sI p4, sR a2, sU, sU, sU, sU, sU, sU, sU, sU, sU, sU, sU, sU, sU, sU, sU, sU, sU, sU, sU, sU, sU, sU, sU, sU, sU, sU, sU, sU, sU, sU, sU, sU] []) := fun t k => K25 t (st26 t (k))
  obtain ⟨gv, egv⟩ : ∃ q : Nat → Value, q = (upd (upd (upd (upd (upd (upd (upd (upd zD 0 (kD (FP.i2d z0))) 1 (kD (FP.i2d z1))) 2 (kD (FP.i2d z2))) 3 (kD (FP.i2d z3))) 4 (kD (FP.i2d z4))) 5 (kD (FP.i2d z5))) 6 (kD (FP.i2d z6))) 7 (kD (FP.i2d z7))) := ⟨_, rfl⟩
  have W28 : Wo n0 h26 [(a2, Ar Z .double 8 gv)] := by rw [egv]; exact W26q
  obtain ⟨Bq, hVq⟩ : ∃ B : Nat → Int, ∀ j, j < 8 → Vx (B j) (own_dv (gv j)) := own_ch8 (Q := fun j z => Vx z (own_dv (gv j))) (fun j hj => by rw [egv]; exact own_v8 j hj)
  have K29 : Rc K0 T26 (mkF m 99 #[sJ p1, sV, sJ p2, sV, sI p3, sI p4, sR a2, sU, sU, sU, sU, sU, sU, sU, sU, sU, sU, sU, sU, sU, sU, sU, sU, sU, sU, sU, sU, sU, sU, sU, sU, sU, sU, sU, sU, sU, sU, sU, sU] [(kI ((p2 &&& (15 : Int64))).toInt32)]) := fun t k => K27 t (by
    refine XS.lloadN X26.here hx rfl (hb hby at_93) rfl ?_
    refine X26.ldc2Long hx hown (mvT hZ (hw _ (mi 1 rfl))) (g := (mkF m 94 #[sJ p1, sV, sJ p2, sV, sI p3, sI p4, sR a2, sU, sU, sU, sU, sU, sU, sU, sU, sU, sU, sU, sU, sU, sU, sU, sU, sU, sU, sU, sU, sU, sU, sU, sU, sU, sU, sU, sU, sU, sU, sU, sU] [(kJ p2)])) rfl (hb hby at_94) _ ?_
    refine XS.land X26.here hx rfl (hb hby at_97) rfl ?_
    refine XS.l2i X26.here hx rfl (hb hby at_98) rfl ?_
    exact k)
  obtain ⟨ku0, hku0, eku0⟩ := own_k15 p2
  rw [eku0] at K29
  have K30 : Rc K0 T26 (mkF m 104 #[sJ p1, sV, sJ p2, sV, sI p3, sI p4, sR a2, sU, sU, sU, sU, sU, sU, sU, sU, sU, sU, sU, sU, sU, sU, sU, sU, sU, sU, sU, sU, sU, sU, sU, sU, sU, sU, sU, sU, sU, sU, sU, sU] [(kD (FP.ddiv (FP.i2d (Int32.ofNat ku0)) (4625196817309499392 : UInt64)))]) := fun t k => K29 t (by
    refine XS.i2dS X26.here hx rfl (hb hby at_99) rfl rfl ?_
    refine X26.ldc2DoubleC hx hown (mvT hZ (hw _ (mi 2 rfl))) (g := (mkF m 100 #[sJ p1, sV, sJ p2, sV, sI p3, sI p4, sR a2, sU, sU, sU, sU, sU, sU, sU, sU, sU, sU, sU, sU, sU, sU, sU, sU, sU, sU, sU, sU, sU, sU, sU, sU, sU, sU, sU, sU, sU, sU, sU, sU] [(kD (FP.i2d (Int32.ofNat ku0)))])) rfl (hb hby at_100) _ ?_
    refine XS.ddivS X26.here hx rfl (hb hby at_103) rfl (Jvm.OwnFp.Sx.nn (Jvm.OwnFp.pk ku0 hku0)) rfl ?_
    exact k)
  obtain ⟨du0, edu0⟩ : ∃ x : UInt64, (FP.ddiv (FP.i2d (Int32.ofNat ku0)) (4625196817309499392 : UInt64)) = x := ⟨_, rfl⟩
  rw [edu0] at K30
  have hdu0 : Sx 15 (ku0 : Int) du0 := by rw [← edu0]; exact Jvm.OwnFp.pk ku0 hku0
  have K31 : Rc K0 T26 (mkF m 114 #[sJ p1, sV, sJ p2, sV, sI p3, sI p4, sR a2, sD du0, sV, sU, sU, sU, sU, sU, sU, sU, sU, sU, sU, sU, sU, sU, sU, sU, sU, sU, sU, sU, sU, sU, sU, sU, sU, sU, sU, sU, sU, sU, sU] [(kI ((((p2).toUInt64 >>> ((4 : Int32) &&& 0x3f).toInt64.toUInt64).toInt64 &&& (15 : Int64))).toInt32)]) := fun t k => K30 t (by
    refine XS.dstore X26.here hx rfl (hb hby at_104) rfl (l' := #[sJ p1, sV, sJ p2, sV, sI p3, sI p4, sR a2, sD du0, sV, sU, sU, sU, sU, sU, sU, sU, sU, sU, sU, sU, sU, sU, sU, sU, sU, sU, sU, sU, sU, sU, sU, sU, sU, sU, sU, sU, sU, sU, sU]) rfl ?_
    refine XS.lloadN X26.here hx rfl (hb hby at_106) rfl ?_
    refine XS.iconst X26.here hx rfl (hb hby at_107) ?_
    refine XS.lushr X26.here hx rfl (hb hby at_108) rfl ?_
    refine X26.ldc2Long hx hown (mvT hZ (hw _ (mi 1 rfl))) (g := (mkF m 109 #[sJ p1, sV, sJ p2, sV, sI p3, sI p4, sR a2, sD du0, sV, sU, sU, sU, sU, sU, sU, sU, sU, sU, sU, sU, sU, sU, sU, sU, sU, sU, sU, sU, sU, sU, sU, sU, sU, sU, sU, sU, sU, sU, sU] [(kJ ((p2).toUInt64 >>> ((4 : Int32) &&& 0x3f).toInt64.toUInt64).toInt64)])) rfl (hb hby at_109) _ ?_
    refine XS.land X26.here hx rfl (hb hby at_112) rfl ?_
    refine XS.l2i X26.here hx rfl (hb hby at_113) rfl ?_
    exact k)
  obtain ⟨ku1, hku1, eku1⟩ := own_k15 (((p2).toUInt64 >>> ((4 : Int32) &&& 0x3f).toInt64.toUInt64).toInt64)
  rw [eku1] at K31
  have K32 : Rc K0 T26 (mkF m 119 #[sJ p1, sV, sJ p2, sV, sI p3, sI p4, sR a2, sD du0, sV, sU, sU, sU, sU, sU, sU, sU, sU, sU, sU, sU, sU, sU, sU, sU, sU, sU, sU, sU, sU, sU, sU, sU, sU, sU, sU, sU, sU, sU, sU] [(kD (FP.ddiv (FP.i2d (Int32.ofNat ku1)) (4625196817309499392 : UInt64)))]) := fun t k => K31 t (by
    refine XS.i2dS X26.here hx rfl (hb hby at_114) rfl rfl ?_
    refine X26.ldc2DoubleC hx hown (mvT hZ (hw _ (mi 2 rfl))) (g := (mkF m 115 #[sJ p1, sV, sJ p2, sV, sI p3, sI p4, sR a2, sD du0, sV, sU, sU, sU, sU, sU, sU, sU, sU, sU, sU, sU, sU, sU, sU, sU, sU, sU, sU, sU, sU, sU, sU, sU, sU, sU, sU, sU, sU, sU, sU] [(kD (FP.i2d (Int32.ofNat ku1)))])) rfl (hb hby at_115) _ ?_
    refine XS.ddivS X26.here hx rfl (hb hby at_118) rfl (Jvm.OwnFp.Sx.nn (Jvm.OwnFp.pk ku1 hku1)) rfl ?_
    exact k)
  obtain ⟨du1, edu1⟩ : ∃ x : UInt64, (FP.ddiv (FP.i2d (Int32.ofNat ku1)) (4625196817309499392 : UInt64)) = x := ⟨_, rfl⟩
  rw [edu1] at K32
  have hdu1 : Sx 15 (ku1 : Int) du1 := by rw [← edu1]; exact Jvm.OwnFp.pk ku1 hku1
  have K33 : Rc K0 T26 (mkF m 130 #[sJ p1, sV, sJ p2, sV, sI p3, sI p4, sR a2, sD du0, sV, sD du1, sV, sU, sU, sU, sU, sU, sU, sU, sU, sU, sU, sU, sU, sU, sU, sU, sU, sU, sU, sU, sU, sU, sU, sU, sU, sU, sU, sU, sU] [(kI ((((p2).toUInt64 >>> ((8 : Int32) &&& 0x3f).toInt64.toUInt64).toInt64 &&& (15 : Int64))).toInt32)]) := fun t k => K32 t (by
    refine XS.dstore X26.here hx rfl (hb hby at_119) rfl (l' := #[sJ p1, sV, sJ p2, sV, sI p3, sI p4, sR a2, sD du0, sV, sD du1, sV, sU, sU, sU, sU, sU, sU, sU, sU, sU, sU, sU, sU, sU, sU, sU, sU, sU, sU, sU, sU, sU, sU, sU, sU, sU, sU, sU, sU]) rfl ?_
    refine XS.lloadN X26.here hx rfl (hb hby at_121) rfl ?_
    refine XS.bipush X26.here hx rfl (hb hby at_122) ?_
    refine XS.lushr X26.here hx rfl (hb hby at_124) rfl ?_
    refine X26.ldc2Long hx hown (mvT hZ (hw _ (mi 1 rfl))) (g := (mkF m 125 #[sJ p1, sV, sJ p2, sV, sI p3, sI p4, sR a2, sD du0, sV, sD du1, sV, sU, sU, sU, sU, sU, sU, sU, sU, sU, sU, sU, sU, sU, sU, sU, sU, sU, sU, sU, sU, sU, sU, sU, sU, sU, sU, sU, sU] [(kJ ((p2).toUInt64 >>> ((8 : Int32) &&& 0x3f).toInt64.toUInt64).toInt64)])) rfl (hb hby at_125) _ ?_
    refine XS.land X26.here hx rfl (hb hby at_128) rfl ?_
    refine XS.l2i X26.here hx rfl (hb hby at_129) rfl ?_
    exact k)
  obtain ⟨ku2, hku2, eku2⟩ := own_k15 (((p2).toUInt64 >>> ((8 : Int32) &&& 0x3f).toInt64.toUInt64).toInt64)
  rw [eku2] at K33
  have K34 : Rc K0 T26 (mkF m 135 #[sJ p1, sV, sJ p2, sV, sI p3, sI p4, sR a2, sD du0, sV, sD du1, sV, sU, sU, sU, sU, sU, sU, sU, sU, sU, sU, sU, sU, sU, sU, sU, sU, sU, sU, sU, sU, sU, sU, sU, sU, sU, sU, sU, sU] [(kD (FP.ddiv (FP.i2d (Int32.ofNat ku2)) (4625196817309499392 : UInt64)))]) := fun t k => K33 t (by
    refine XS.i2dS X26.here hx rfl (hb hby at_130) rfl rfl ?_
    refine X26.ldc2DoubleC hx hown (mvT hZ (hw _ (mi 2 rfl))) (g := (mkF m 131 #[sJ p1, sV, sJ p2, sV, sI p3, sI p4, sR a2, sD du0, sV, sD du1, sV, sU, sU, sU, sU, sU, sU, sU, sU, sU, sU, sU, sU, sU, sU, sU, sU, sU, sU, sU, sU, sU, sU, sU, sU, sU, sU, sU, sU] [(kD (FP.i2d (Int32.ofNat ku2)))])) rfl (hb hby at_131) _ ?_
    refine XS.ddivS X26.here hx rfl (hb hby at_134) rfl (Jvm.OwnFp.Sx.nn (Jvm.OwnFp.pk ku2 hku2)) rfl ?_
    exact k)
  obtain ⟨du2, edu2⟩ : ∃ x : UInt64, (FP.ddiv (FP.i2d (Int32.ofNat ku2)) (4625196817309499392 : UInt64)) = x := ⟨_, rfl⟩
  rw [edu2] at K34
  have hdu2 : Sx 15 (ku2 : Int) du2 := by rw [← edu2]; exact Jvm.OwnFp.pk ku2 hku2
  have K35 : Rc K0 T26 (mkF m 146 #[sJ p1, sV, sJ p2, sV, sI p3, sI p4, sR a2, sD du0, sV, sD du1, sV, sD du2, sV, sU, sU, sU, sU, sU, sU, sU, sU, sU, sU, sU, sU, sU, sU, sU, sU, sU, sU, sU, sU, sU, sU, sU, sU, sU, sU] [(kI ((((p2).toUInt64 >>> ((12 : Int32) &&& 0x3f).toInt64.toUInt64).toInt64 &&& (15 : Int64))).toInt32)]) := fun t k => K34 t (by
    refine XS.dstore X26.here hx rfl (hb hby at_135) rfl (l' := #[sJ p1, sV, sJ p2, sV, sI p3, sI p4, sR a2, sD du0, sV, sD du1, sV, sD du2, sV, sU, sU, sU, sU, sU, sU, sU, sU, sU, sU, sU, sU, sU, sU, sU, sU, sU, sU, sU, sU, sU, sU, sU, sU, sU, sU]) rfl ?_
    refine XS.lloadN X26.here hx rfl (hb hby at_137) rfl ?_
    refine XS.bipush X26.here hx rfl (hb hby at_138) ?_
    refine XS.lushr X26.here hx rfl (hb hby at_140) rfl ?_
    refine X26.ldc2Long hx hown (mvT hZ (hw _ (mi 1 rfl))) (g := (mkF m 141 #[sJ p1, sV, sJ p2, sV, sI p3, sI p4, sR a2, sD du0, sV, sD du1, sV, sD du2, sV, sU, sU, sU, sU, sU, sU, sU, sU, sU, sU, sU, sU, sU, sU, sU, sU, sU, sU, sU, sU, sU, sU, sU, sU, sU, sU] [(kJ ((p2).toUInt64 >>> ((12 : Int32) &&& 0x3f).toInt64.toUInt64).toInt64)])) rfl (hb hby at_141) _ ?_
    refine XS.land X26.here hx rfl (hb hby at_144) rfl ?_
    refine XS.l2i X26.here hx rfl (hb hby at_145) rfl ?_
    exact k)
  obtain ⟨kw0, hkw0, ekw0⟩ := own_k15 (((p2).toUInt64 >>> ((12 : Int32) &&& 0x3f).toInt64.toUInt64).toInt64)
  rw [ekw0] at K35
  have K36 : Rc K0 T26 (mkF m 151 #[sJ p1, sV, sJ p2, sV, sI p3, sI p4, sR a2, sD du0, sV, sD du1, sV, sD du2, sV, sU, sU, sU, sU, sU, sU, sU, sU, sU, sU, sU, sU, sU, sU, sU, sU, sU, sU, sU, sU, sU, sU, sU, sU, sU, sU] [(kD (FP.ddiv (FP.i2d (Int32.ofNat kw0)) (4625196817309499392 : UInt64)))]) := fun t k => K35 t (by
    refine XS.i2dS X26.here hx rfl (hb hby at_146) rfl rfl ?_
    refine X26.ldc2DoubleC hx hown (mvT hZ (hw _ (mi 2 rfl))) (g := (mkF m 147 #[sJ p1, sV, sJ p2, sV, sI p3, sI p4, sR a2, sD du0, sV, sD du1, sV, sD du2, sV, sU, sU, sU, sU, sU, sU, sU, sU, sU, sU, sU, sU, sU, sU, sU, sU, sU, sU, sU, sU, sU, sU, sU, sU, sU, sU] [(kD (FP.i2d (Int32.ofNat kw0)))])) rfl (hb hby at_147) _ ?_
    refine XS.ddivS X26.here hx rfl (hb hby at_150) rfl (Jvm.OwnFp.Sx.nn (Jvm.OwnFp.pk kw0 hkw0)) rfl ?_
    exact k)
  obtain ⟨dw0, edw0⟩ : ∃ x : UInt64, (FP.ddiv (FP.i2d (Int32.ofNat kw0)) (4625196817309499392 : UInt64)) = x := ⟨_, rfl⟩
  rw [edw0] at K36
  have hdw0 : Sx 15 (kw0 : Int) dw0 := by rw [← edw0]; exact Jvm.OwnFp.pk kw0 hkw0
  have K37 : Rc K0 T26 (mkF m 162 #[sJ p1, sV, sJ p2, sV, sI p3, sI p4, sR a2, sD du0, sV, sD du1, sV, sD du2, sV, sD dw0, sV, sU, sU, sU, sU, sU, sU, sU, sU, sU, sU, sU, sU, sU, sU, sU, sU, sU, sU, sU, sU, sU, sU, sU, sU] [(kI ((((p2).toUInt64 >>> ((16 : Int32) &&& 0x3f).toInt64.toUInt64).toInt64 &&& (15 : Int64))).toInt32)]) := fun t k => K36 t (by
    refine XS.dstore X26.here hx rfl (hb hby at_151) rfl (l' := #[sJ p1, sV, sJ p2, sV, sI p3, sI p4, sR a2, sD du0, sV, sD du1, sV, sD du2, sV, sD dw0, sV, sU, sU, sU, sU, sU, sU, sU, sU, sU, sU, sU, sU, sU, sU, sU, sU, sU, sU, sU, sU, sU, sU, sU, sU]) rfl ?_
    refine XS.lloadN X26.here hx rfl (hb hby at_153) rfl ?_
    refine XS.bipush X26.here hx rfl (hb hby at_154) ?_
    refine XS.lushr X26.here hx rfl (hb hby at_156) rfl ?_
    refine X26.ldc2Long hx hown (mvT hZ (hw _ (mi 1 rfl))) (g := (mkF m 157 #[sJ p1, sV, sJ p2, sV, sI p3, sI p4, sR a2, sD du0, sV, sD du1, sV, sD du2, sV, sD dw0, sV, sU, sU, sU, sU, sU, sU, sU, sU, sU, sU, sU, sU, sU, sU, sU, sU, sU, sU, sU, sU, sU, sU, sU, sU] [(kJ ((p2).toUInt64 >>> ((16 : Int32) &&& 0x3f).toInt64.toUInt64).toInt64)])) rfl (hb hby at_157) _ ?_
    refine XS.land X26.here hx rfl (hb hby at_160) rfl ?_
    refine XS.l2i X26.here hx rfl (hb hby at_161) rfl ?_
    exact k)
  obtain ⟨kw1, hkw1, ekw1⟩ := own_k15 (((p2).toUInt64 >>> ((16 : Int32) &&& 0x3f).toInt64.toUInt64).toInt64)
  rw [ekw1] at K37
  have K38 : Rc K0 T26 (mkF m 167 #[sJ p1, sV, sJ p2, sV, sI p3, sI p4, sR a2, sD du0, sV, sD du1, sV, sD du2, sV, sD dw0, sV, sU, sU, sU, sU, sU, sU, sU, sU, sU, sU, sU, sU, sU, sU, sU, sU, sU, sU, sU, sU, sU, sU, sU, sU] [(kD (FP.ddiv (FP.i2d (Int32.ofNat kw1)) (4625196817309499392 : UInt64)))]) := fun t k => K37 t (by
    refine XS.i2dS X26.here hx rfl (hb hby at_162) rfl rfl ?_
    refine X26.ldc2DoubleC hx hown (mvT hZ (hw _ (mi 2 rfl))) (g := (mkF m 163 #[sJ p1, sV, sJ p2, sV, sI p3, sI p4, sR a2, sD du0, sV, sD du1, sV, sD du2, sV, sD dw0, sV, sU, sU, sU, sU, sU, sU, sU, sU, sU, sU, sU, sU, sU, sU, sU, sU, sU, sU, sU, sU, sU, sU, sU, sU] [(kD (FP.i2d (Int32.ofNat kw1)))])) rfl (hb hby at_163) _ ?_
    refine XS.ddivS X26.here hx rfl (hb hby at_166) rfl (Jvm.OwnFp.Sx.nn (Jvm.OwnFp.pk kw1 hkw1)) rfl ?_
    exact k)
  obtain ⟨dw1, edw1⟩ : ∃ x : UInt64, (FP.ddiv (FP.i2d (Int32.ofNat kw1)) (4625196817309499392 : UInt64)) = x := ⟨_, rfl⟩
  rw [edw1] at K38
  have hdw1 : Sx 15 (kw1 : Int) dw1 := by rw [← edw1]; exact Jvm.OwnFp.pk kw1 hkw1
  have K39 : Rc K0 T26 (mkF m 178 #[sJ p1, sV, sJ p2, sV, sI p3, sI p4, sR a2, sD du0, sV, sD du1, sV, sD du2, sV, sD dw0, sV, sD dw1, sV, sU, sU, sU, sU, sU, sU, sU, sU, sU, sU, sU, sU, sU, sU, sU, sU, sU, sU, sU, sU, sU, sU] [(kI ((((p2).toUInt64 >>> ((20 : Int32) &&& 0x3f).toInt64.toUInt64).toInt64 &&& (15 : Int64))).toInt32)]) := fun t k => K38 t (by
    refine XS.dstore X26.here hx rfl (hb hby at_167) rfl (l' := #[sJ p1, sV, sJ p2, sV, sI p3, sI p4, sR a2, sD du0, sV, sD du1, sV, sD du2, sV, sD dw0, sV, sD dw1, sV, sU, sU, sU, sU, sU, sU, sU, sU, sU, sU, sU, sU, sU, sU, sU, sU, sU, sU, sU, sU, sU, sU]) rfl ?_
    refine XS.lloadN X26.here hx rfl (hb hby at_169) rfl ?_
    refine XS.bipush X26.here hx rfl (hb hby at_170) ?_
    refine XS.lushr X26.here hx rfl (hb hby at_172) rfl ?_
    refine X26.ldc2Long hx hown (mvT hZ (hw _ (mi 1 rfl))) (g := (mkF m 173 #[sJ p1, sV, sJ p2, sV, sI p3, sI p4, sR a2, sD du0, sV, sD du1, sV, sD du2, sV, sD dw0, sV, sD dw1, sV, sU, sU, sU, sU, sU, sU, sU, sU, sU, sU, sU, sU, sU, sU, sU, sU, sU, sU, sU, sU, sU, sU] [(kJ ((p2).toUInt64 >>> ((20 : Int32) &&& 0x3f).toInt64.toUInt64).toInt64)])) rfl (hb hby at_173) _ ?_
    refine XS.land X26.here hx rfl (hb hby at_176) rfl ?_
    refine XS.l2i X26.here hx rfl (hb hby at_177) rfl ?_
    exact k)
  obtain ⟨kw2, hkw2, ekw2⟩ := own_k15 (((p2).toUInt64 >>> ((20 : Int32) &&& 0x3f).toInt64.toUInt64).toInt64)
  rw [ekw2] at K39
  have K40 : Rc K0 T26 (mkF m 183 #[sJ p1, sV, sJ p2, sV, sI p3, sI p4, sR a2, sD du0, sV, sD du1, sV, sD du2, sV, sD dw0, sV, sD dw1, sV, sU, sU, sU, sU, sU, sU, sU, sU, sU, sU, sU, sU, sU, sU, sU, sU, sU, sU, sU, sU, sU, sU] [(kD (FP.ddiv (FP.i2d (Int32.ofNat kw2)) (4625196817309499392 : UInt64)))]) := fun t k => K39 t (by
    refine XS.i2dS X26.here hx rfl (hb hby at_178) rfl rfl ?_
    refine X26.ldc2DoubleC hx hown (mvT hZ (hw _ (mi 2 rfl))) (g := (mkF m 179 #[sJ p1, sV, sJ p2, sV, sI p3, sI p4, sR a2, sD du0, sV, sD du1, sV, sD du2, sV, sD dw0, sV, sD dw1, sV, sU, sU, sU, sU, sU, sU, sU, sU, sU, sU, sU, sU, sU, sU, sU, sU, sU, sU, sU, sU, sU, sU] [(kD (FP.i2d (Int32.ofNat kw2)))])) rfl (hb hby at_179) _ ?_
    refine XS.ddivS X26.here hx rfl (hb hby at_182) rfl (Jvm.OwnFp.Sx.nn (Jvm.OwnFp.pk kw2 hkw2)) rfl ?_
    exact k)
  obtain ⟨dw2, edw2⟩ : ∃ x : UInt64, (FP.ddiv (FP.i2d (Int32.ofNat kw2)) (4625196817309499392 : UInt64)) = x := ⟨_, rfl⟩
  rw [edw2] at K40
  have hdw2 : Sx 15 (kw2 : Int) dw2 := by rw [← edw2]; exact Jvm.OwnFp.pk kw2 hkw2
  have K41 : Rc K0 T26 (mkF m 194 #[sJ p1, sV, sJ p2, sV, sI p3, sI p4, sR a2, sD du0, sV, sD du1, sV, sD du2, sV, sD dw0, sV, sD dw1, sV, sD dw2, sV, sU, sU, sU, sU, sU, sU, sU, sU, sU, sU, sU, sU, sU, sU, sU, sU, sU, sU, sU, sU] [(kI ((((p2).toUInt64 >>> ((24 : Int32) &&& 0x3f).toInt64.toUInt64).toInt64 &&& (7 : Int64))).toInt32)]) := fun t k => K40 t (by
    refine XS.dstore X26.here hx rfl (hb hby at_183) rfl (l' := #[sJ p1, sV, sJ p2, sV, sI p3, sI p4, sR a2, sD du0, sV, sD du1, sV, sD du2, sV, sD dw0, sV, sD dw1, sV, sD dw2, sV, sU, sU, sU, sU, sU, sU, sU, sU, sU, sU, sU, sU, sU, sU, sU, sU, sU, sU, sU, sU]) rfl ?_
    refine XS.lloadN X26.here hx rfl (hb hby at_185) rfl ?_
    refine XS.bipush X26.here hx rfl (hb hby at_186) ?_
    refine XS.lushr X26.here hx rfl (hb hby at_188) rfl ?_
    refine X26.ldc2Long hx hown (mvT hZ (hw _ (mi 3 rfl))) (g := (mkF m 189 #[sJ p1, sV, sJ p2, sV, sI p3, sI p4, sR a2, sD du0, sV, sD du1, sV, sD du2, sV, sD dw0, sV, sD dw1, sV, sD dw2, sV, sU, sU, sU, sU, sU, sU, sU, sU, sU, sU, sU, sU, sU, sU, sU, sU, sU, sU, sU, sU] [(kJ ((p2).toUInt64 >>> ((24 : Int32) &&& 0x3f).toInt64.toUInt64).toInt64)])) rfl (hb hby at_189) _ ?_
    refine XS.land X26.here hx rfl (hb hby at_192) rfl ?_
    refine XS.l2i X26.here hx rfl (hb hby at_193) rfl ?_
    exact k)
  obtain ⟨sa0, hsa0, es0⟩ := own_k7 (((p2).toUInt64 >>> ((24 : Int32) &&& 0x3f).toInt64.toUInt64).toInt64)
  rw [es0] at K41
  have K42 : Rc K0 T26 (mkF m 205 #[sJ p1, sV, sJ p2, sV, sI p3, sI p4, sR a2, sD du0, sV, sD du1, sV, sD du2, sV, sD dw0, sV, sD dw1, sV, sD dw2, sV, sI (Int32.ofNat sa0), sU, sU, sU, sU, sU, sU, sU, sU, sU, sU, sU, sU, sU, sU, sU, sU, sU, sU, sU] [(kI ((((p2).toUInt64 >>> ((27 : Int32) &&& 0x3f).toInt64.toUInt64).toInt64 &&& (7 : Int64))).toInt32)]) := fun t k => K41 t (by
    refine XS.istore X26.here hx rfl (hb hby at_194) rfl (l' := #[sJ p1, sV, sJ p2, sV, sI p3, sI p4, sR a2, sD du0, sV, sD du1, sV, sD du2, sV, sD dw0, sV, sD dw1, sV, sD dw2, sV, sI (Int32.ofNat sa0), sU, sU, sU, sU, sU, sU, sU, sU, sU, sU, sU, sU, sU, sU, sU, sU, sU, sU, sU]) rfl ?_
    refine XS.lloadN X26.here hx rfl (hb hby at_196) rfl ?_
    refine XS.bipush X26.here hx rfl (hb hby at_197) ?_
    refine XS.lushr X26.here hx rfl (hb hby at_199) rfl ?_
    refine X26.ldc2Long hx hown (mvT hZ (hw _ (mi 3 rfl))) (g := (mkF m 200 #[sJ p1, sV, sJ p2, sV, sI p3, sI p4, sR a2, sD du0, sV, sD du1, sV, sD du2, sV, sD dw0, sV, sD dw1, sV, sD dw2, sV, sI (Int32.ofNat sa0), sU, sU, sU, sU, sU, sU, sU, sU, sU, sU, sU, sU, sU, sU, sU, sU, sU, sU, sU] [(kJ ((p2).toUInt64 >>> ((27 : Int32) &&& 0x3f).toInt64.toUInt64).toInt64)])) rfl (hb hby at_200) _ ?_
    refine XS.land X26.here hx rfl (hb hby at_203) rfl ?_
    refine XS.l2i X26.here hx rfl (hb hby at_204) rfl ?_
    exact k)
  obtain ⟨sa1, hsa1, es1⟩ := own_k7 (((p2).toUInt64 >>> ((27 : Int32) &&& 0x3f).toInt64.toUInt64).toInt64)
  rw [es1] at K42
  have K43 : Rc K0 T26 (mkF m 216 #[sJ p1, sV, sJ p2, sV, sI p3, sI p4, sR a2, sD du0, sV, sD du1, sV, sD du2, sV, sD dw0, sV, sD dw1, sV, sD dw2, sV, sI (Int32.ofNat sa0), sI (Int32.ofNat sa1), sU, sU, sU, sU, sU, sU, sU, sU, sU, sU, sU, sU, sU, sU, sU, sU, sU, sU] [(kI ((((p2).toUInt64 >>> ((30 : Int32) &&& 0x3f).toInt64.toUInt64).toInt64 &&& (7 : Int64))).toInt32)]) := fun t k => K42 t (by
    refine XS.istore X26.here hx rfl (hb hby at_205) rfl (l' := #[sJ p1, sV, sJ p2, sV, sI p3, sI p4, sR a2, sD du0, sV, sD du1, sV, sD du2, sV, sD dw0, sV, sD dw1, sV, sD dw2, sV, sI (Int32.ofNat sa0), sI (Int32.ofNat sa1), sU, sU, sU, sU, sU, sU, sU, sU, sU, sU, sU, sU, sU, sU, sU, sU, sU, sU]) rfl ?_
    refine XS.lloadN X26.here hx rfl (hb hby at_207) rfl ?_
    refine XS.bipush X26.here hx rfl (hb hby at_208) ?_
    refine XS.lushr X26.here hx rfl (hb hby at_210) rfl ?_
    refine X26.ldc2Long hx hown (mvT hZ (hw _ (mi 3 rfl))) (g := (mkF m 211 #[sJ p1, sV, sJ p2, sV, sI p3, sI p4, sR a2, sD du0, sV, sD du1, sV, sD du2, sV, sD dw0, sV, sD dw1, sV, sD dw2, sV, sI (Int32.ofNat sa0), sI (Int32.ofNat sa1), sU, sU, sU, sU, sU, sU, sU, sU, sU, sU, sU, sU, sU, sU, sU, sU, sU, sU] [(kJ ((p2).toUInt64 >>> ((30 : Int32) &&& 0x3f).toInt64.toUInt64).toInt64)])) rfl (hb hby at_211) _ ?_
    refine XS.land X26.here hx rfl (hb hby at_214) rfl ?_
    refine XS.l2i X26.here hx rfl (hb hby at_215) rfl ?_
    exact k)
  obtain ⟨sa2, hsa2, es2⟩ := own_k7 (((p2).toUInt64 >>> ((30 : Int32) &&& 0x3f).toInt64.toUInt64).toInt64)
  rw [es2] at K43
  have K44 : Rc K0 T26 (mkF m 222 #[sJ p1, sV, sJ p2, sV, sI p3, sI p4, sR a2, sD du0, sV, sD du1, sV, sD du2, sV, sD dw0, sV, sD dw1, sV, sD dw2, sV, sI (Int32.ofNat sa0), sI (Int32.ofNat sa1), sI (Int32.ofNat sa2), sU, sU, sU, sU, sU, sU, sU, sU, sU, sU, sU, sU, sU, sU, sU, sU, sU] [(kI (p3 &&& (3 : Int32)))]) := fun t k => K43 t (by
    refine XS.istore X26.here hx rfl (hb hby at_216) rfl (l' := #[sJ p1, sV, sJ p2, sV, sI p3, sI p4, sR a2, sD du0, sV, sD du1, sV, sD du2, sV, sD dw0, sV, sD dw1, sV, sD dw2, sV, sI (Int32.ofNat sa0), sI (Int32.ofNat sa1), sI (Int32.ofNat sa2), sU, sU, sU, sU, sU, sU, sU, sU, sU, sU, sU, sU, sU, sU, sU, sU, sU]) rfl ?_
    refine XS.iload X26.here hx rfl (hb hby at_218) rfl ?_
    refine XS.iconst X26.here hx rfl (hb hby at_220) ?_
    refine XS.iand X26.here hx rfl (hb hby at_221) rfl ?_
    exact k)
  obtain ⟨md, hmd, emd⟩ := own_m3 p3
  rw [emd] at K44
  have K45 : Rc K0 T26 (mkF m 231 #[sJ p1, sV, sJ p2, sV, sI p3, sI p4, sR a2, sD du0, sV, sD du1, sV, sD du2, sV, sD dw0, sV, sD dw1, sV, sD dw2, sV, sI (Int32.ofNat sa0), sI (Int32.ofNat sa1), sI (Int32.ofNat sa2), sI (Int32.ofNat md), sU, sU, sU, sU, sU, sU, sU, sU, sU, sU, sU, sU, sU, sU, sU, sU] [(kI (((p3).toUInt32 >>> ((2 : Int32) &&& 31).toUInt32).toInt32 &&& (3 : Int32))), (kI 1)]) := fun t k => K44 t (by
    refine XS.istore X26.here hx rfl (hb hby at_222) rfl (l' := #[sJ p1, sV, sJ p2, sV, sI p3, sI p4, sR a2, sD du0, sV, sD du1, sV, sD du2, sV, sD dw0, sV, sD dw1, sV, sD dw2, sV, sI (Int32.ofNat sa0), sI (Int32.ofNat sa1), sI (Int32.ofNat sa2), sI (Int32.ofNat md), sU, sU, sU, sU, sU, sU, sU, sU, sU, sU, sU, sU, sU, sU, sU, sU]) rfl ?_
    refine XS.iconst X26.here hx rfl (hb hby at_224) ?_
    refine XS.iload X26.here hx rfl (hb hby at_225) rfl ?_
    refine XS.iconst X26.here hx rfl (hb hby at_227) ?_
    refine XS.iushr X26.here hx rfl (hb hby at_228) rfl ?_
    refine XS.iconst X26.here hx rfl (hb hby at_229) ?_
    refine XS.iand X26.here hx rfl (hb hby at_230) rfl ?_
    exact k)
  obtain ⟨jv, hjv, ejv⟩ := own_m3 (((p3).toUInt32 >>> ((2 : Int32) &&& 31).toUInt32).toInt32)
  rw [ejv] at K45
  have K46 : Rc K0 T26 (mkF m 234 #[sJ p1, sV, sJ p2, sV, sI p3, sI p4, sR a2, sD du0, sV, sD du1, sV, sD du2, sV, sD dw0, sV, sD dw1, sV, sD dw2, sV, sI (Int32.ofNat sa0), sI (Int32.ofNat sa1), sI (Int32.ofNat sa2), sI (Int32.ofNat md), sU, sU, sU, sU, sU, sU, sU, sU, sU, sU, sU, sU, sU, sU, sU, sU] [(kI ((1 : Int32) + ((Int32.ofNat jv) - ((Int32.ofNat jv) / (3 : Int32)) * (3 : Int32))))]) := fun t k => K45 t (by
    refine XS.iconst X26.here hx rfl (hb hby at_231) ?_
    refine XS.irem X26.here hx rfl (hb hby at_232) rfl (by decide) ?_
    refine XS.iadd X26.here hx rfl (hb hby at_233) rfl ?_
    exact k)
  obtain ⟨vc, hvc1, hvc3, evc⟩ := own_vc jv hjv
  rw [evc] at K46
  have K47 : Rc K0 T26 (mkF m 242 #[sJ p1, sV, sJ p2, sV, sI p3, sI p4, sR a2, sD du0, sV, sD du1, sV, sD du2, sV, sD dw0, sV, sD dw1, sV, sD dw2, sV, sI (Int32.ofNat sa0), sI (Int32.ofNat sa1), sI (Int32.ofNat sa2), sI (Int32.ofNat md), sI (Int32.ofNat vc), sU, sU, sU, sU, sU, sU, sU, sU, sU, sU, sU, sU, sU, sU, sU] [(kI (((p3).toUInt32 >>> ((4 : Int32) &&& 31).toUInt32).toInt32 &&& (1 : Int32)))]) := fun t k => K46 t (by
    refine XS.istore X26.here hx rfl (hb hby at_234) rfl (l' := #[sJ p1, sV, sJ p2, sV, sI p3, sI p4, sR a2, sD du0, sV, sD du1, sV, sD du2, sV, sD dw0, sV, sD dw1, sV, sD dw2, sV, sI (Int32.ofNat sa0), sI (Int32.ofNat sa1), sI (Int32.ofNat sa2), sI (Int32.ofNat md), sI (Int32.ofNat vc), sU, sU, sU, sU, sU, sU, sU, sU, sU, sU, sU, sU, sU, sU, sU]) rfl ?_
    refine XS.iload X26.here hx rfl (hb hby at_236) rfl ?_
    refine XS.iconst X26.here hx rfl (hb hby at_238) ?_
    refine XS.iushr X26.here hx rfl (hb hby at_239) rfl ?_
    refine XS.iconst X26.here hx rfl (hb hby at_240) ?_
    refine XS.iand X26.here hx rfl (hb hby at_241) rfl ?_
    exact k)
  obtain ⟨ch, hch, ech⟩ := own_m1 (((p3).toUInt32 >>> ((4 : Int32) &&& 31).toUInt32).toInt32)
  rw [ech] at K47
  have K48 : Rc K0 T26 (mkF m 250 #[sJ p1, sV, sJ p2, sV, sI p3, sI p4, sR a2, sD du0, sV, sD du1, sV, sD du2, sV, sD dw0, sV, sD dw1, sV, sD dw2, sV, sI (Int32.ofNat sa0), sI (Int32.ofNat sa1), sI (Int32.ofNat sa2), sI (Int32.ofNat md), sI (Int32.ofNat vc), sI (Int32.ofNat ch), sU, sU, sU, sU, sU, sU, sU, sU, sU, sU, sU, sU, sU, sU] [(kI (((p3).toUInt32 >>> ((5 : Int32) &&& 31).toUInt32).toInt32 &&& (1 : Int32)))]) := fun t k => K47 t (by
    refine XS.istore X26.here hx rfl (hb hby at_242) rfl (l' := #[sJ p1, sV, sJ p2, sV, sI p3, sI p4, sR a2, sD du0, sV, sD du1, sV, sD du2, sV, sD dw0, sV, sD dw1, sV, sD dw2, sV, sI (Int32.ofNat sa0), sI (Int32.ofNat sa1), sI (Int32.ofNat sa2), sI (Int32.ofNat md), sI (Int32.ofNat vc), sI (Int32.ofNat ch), sU, sU, sU, sU, sU, sU, sU, sU, sU, sU, sU, sU, sU, sU]) rfl ?_
    refine XS.iload X26.here hx rfl (hb hby at_244) rfl ?_
    refine XS.iconst X26.here hx rfl (hb hby at_246) ?_
    refine XS.iushr X26.here hx rfl (hb hby at_247) rfl ?_
    refine XS.iconst X26.here hx rfl (hb hby at_248) ?_
    refine XS.iand X26.here hx rfl (hb hby at_249) rfl ?_
    exact k)
  have K49 : Rc K0 T26 (mkF m 258 #[sJ p1, sV, sJ p2, sV, sI p3, sI p4, sR a2, sD du0, sV, sD du1, sV, sD du2, sV, sD dw0, sV, sD dw1, sV, sD dw2, sV, sI (Int32.ofNat sa0), sI (Int32.ofNat sa1), sI (Int32.ofNat sa2), sI (Int32.ofNat md), sI (Int32.ofNat vc), sI (Int32.ofNat ch), sU, sU, sU, sU, sU, sU, sU, sU, sU, sU, sU, sU, sU, sU] [(kI (own_bi (decide (¬ ((((p3).toUInt32 >>> ((5 : Int32) &&& 31).toUInt32).toInt32 &&& (1 : Int32)) = (0 : Int32))))))]) := fun t k => K48 t (by
    by_cases hq : ¬ ((((p3).toUInt32 >>> ((5 : Int32) &&& 31).toUInt32).toInt32 &&& (1 : Int32)) = (0 : Int32))
    · rw [show own_bi (decide (¬ ((((p3).toUInt32 >>> ((5 : Int32) &&& 31).toUInt32).toInt32 &&& (1 : Int32)) = (0 : Int32)))) = 1 from by rw [decide_eq_true hq]; rfl] at k
      refine XS.ifNo X26.here hx rfl (hb hby at_250) rfl ((if0 _ _).trans (feq hq).1) ?_
      refine XS.iconst X26.here hx rfl (hb hby at_253) ?_
      refine XS.goto X26.here hx rfl (pc0 := 254) (pc' := 258) rfl (hb hby at_254) (by decide) (by decide) ?_
      exact k
    · rw [show own_bi (decide (¬ ((((p3).toUInt32 >>> ((5 : Int32) &&& 31).toUInt32).toInt32 &&& (1 : Int32)) = (0 : Int32)))) = 0 from by rw [decide_eq_false hq]; rfl] at k
      refine XS.ifYes X26.here hx rfl (pc0 := 250) (pc' := 257) rfl (hb hby at_250) rfl ((if0 _ _).trans (teq (Decidable.not_not.mp hq)).1) (by decide) (by decide) ?_
      refine XS.iconst X26.here hx rfl (hb hby at_257) ?_
      exact k)
  obtain ⟨lbt, h_lbt⟩ : ∃ b : Bool, b = decide (¬ ((((p3).toUInt32 >>> ((5 : Int32) &&& 31).toUInt32).toInt32 &&& (1 : Int32)) = (0 : Int32))) := ⟨_, rfl⟩
  rw [← h_lbt] at K49
  have K50 : Rc K0 T26 (mkF m 267 #[sJ p1, sV, sJ p2, sV, sI p3, sI p4, sR a2, sD du0, sV, sD du1, sV, sD du2, sV, sD dw0, sV, sD dw1, sV, sD dw2, sV, sI (Int32.ofNat sa0), sI (Int32.ofNat sa1), sI (Int32.ofNat sa2), sI (Int32.ofNat md), sI (Int32.ofNat vc), sI (Int32.ofNat ch), sI (own_bi lbt), sU, sU, sU, sU, sU, sU, sU, sU, sU, sU, sU, sU, sU] [(kI (((p3).toUInt32 >>> ((6 : Int32) &&& 31).toUInt32).toInt32 &&& (1 : Int32)))]) := fun t k => K49 t (by
    refine XS.istore X26.here hx rfl (hb hby at_258) rfl (l' := #[sJ p1, sV, sJ p2, sV, sI p3, sI p4, sR a2, sD du0, sV, sD du1, sV, sD du2, sV, sD dw0, sV, sD dw1, sV, sD dw2, sV, sI (Int32.ofNat sa0), sI (Int32.ofNat sa1), sI (Int32.ofNat sa2), sI (Int32.ofNat md), sI (Int32.ofNat vc), sI (Int32.ofNat ch), sI (own_bi lbt), sU, sU, sU, sU, sU, sU, sU, sU, sU, sU, sU, sU, sU]) rfl ?_
    refine XS.iload X26.here hx rfl (hb hby at_260) rfl ?_
    refine XS.bipush X26.here hx rfl (hb hby at_262) ?_
    refine XS.iushr X26.here hx rfl (hb hby at_264) rfl ?_
    refine XS.iconst X26.here hx rfl (hb hby at_265) ?_
    refine XS.iand X26.here hx rfl (hb hby at_266) rfl ?_
    exact k)
  have K51 : Rc K0 T26 (mkF m 275 #[sJ p1, sV, sJ p2, sV, sI p3, sI p4, sR a2, sD du0, sV, sD du1, sV, sD du2, sV, sD dw0, sV, sD dw1, sV, sD dw2, sV, sI (Int32.ofNat sa0), sI (Int32.ofNat sa1), sI (Int32.ofNat sa2), sI (Int32.ofNat md), sI (Int32.ofNat vc), sI (Int32.ofNat ch), sI (own_bi lbt), sU, sU, sU, sU, sU, sU, sU, sU, sU, sU, sU, sU, sU] [(kI (own_bi (decide (¬ ((((p3).toUInt32 >>> ((6 : Int32) &&& 31).toUInt32).toInt32 &&& (1 : Int32)) = (0 : Int32))))))]) := fun t k => K50 t (by
    by_cases hq : ¬ ((((p3).toUInt32 >>> ((6 : Int32) &&& 31).toUInt32).toInt32 &&& (1 : Int32)) = (0 : Int32))
    · rw [show own_bi (decide (¬ ((((p3).toUInt32 >>> ((6 : Int32) &&& 31).toUInt32).toInt32 &&& (1 : Int32)) = (0 : Int32)))) = 1 from by rw [decide_eq_true hq]; rfl] at k
      refine XS.ifNo X26.here hx rfl (hb hby at_267) rfl ((if0 _ _).trans (feq hq).1) ?_
      refine XS.iconst X26.here hx rfl (hb hby at_270) ?_
      refine XS.goto X26.here hx rfl (pc0 := 271) (pc' := 275) rfl (hb hby at_271) (by decide) (by decide) ?_
      exact k
    · rw [show own_bi (decide (¬ ((((p3).toUInt32 >>> ((6 : Int32) &&& 31).toUInt32).toInt32 &&& (1 : Int32)) = (0 : Int32)))) = 0 from by rw [decide_eq_false hq]; rfl] at k
      refine XS.ifYes X26.here hx rfl (pc0 := 267) (pc' := 274) rfl (hb hby at_267) rfl ((if0 _ _).trans (teq (Decidable.not_not.mp hq)).1) (by decide) (by decide) ?_
      refine XS.iconst X26.here hx rfl (hb hby at_274) ?_
      exact k)
  obtain ⟨hbt, h_hbt⟩ : ∃ b : Bool, b = decide (¬ ((((p3).toUInt32 >>> ((6 : Int32) &&& 31).toUInt32).toInt32 &&& (1 : Int32)) = (0 : Int32))) := ⟨_, rfl⟩
  rw [← h_hbt] at K51
  have K52 : Rc K0 T26 (mkF m 278 #[sJ p1, sV, sJ p2, sV, sI p3, sI p4, sR a2, sD du0, sV, sD du1, sV, sD du2, sV, sD dw0, sV, sD dw1, sV, sD dw2, sV, sI (Int32.ofNat sa0), sI (Int32.ofNat sa1), sI (Int32.ofNat sa2), sI (Int32.ofNat md), sI (Int32.ofNat vc), sI (Int32.ofNat ch), sI (own_bi lbt), sI (own_bi hbt), sU, sU, sU, sU, sU, sU, sU, sU, sU, sU, sU, sU] [(kI 3)]) := fun t k => K51 t (by
    refine XS.istore X26.here hx rfl (hb hby at_275) rfl (l' := #[sJ p1, sV, sJ p2, sV, sI p3, sI p4, sR a2, sD du0, sV, sD du1, sV, sD du2, sV, sD dw0, sV, sD dw1, sV, sD dw2, sV, sI (Int32.ofNat sa0), sI (Int32.ofNat sa1), sI (Int32.ofNat sa2), sI (Int32.ofNat md), sI (Int32.ofNat vc), sI (Int32.ofNat ch), sI (own_bi lbt), sI (own_bi hbt), sU, sU, sU, sU, sU, sU, sU, sU, sU, sU, sU, sU]) rfl ?_
    refine XS.iconst X26.here hx rfl (hb hby at_277) ?_
    exact k)
  obtain ⟨T53, h53, a53, X53, e53, W53q, st53⟩ := newWA X26 hx hZ (aty := .double) (ty := .double) rfl (hw _ (mi 0 rfl)) e26 W28 (g := K52.g) rfl (hb hby at_278) (z := (3 : Int32)) (n := 3) rfl (by decide) (by decide) (cap := 3) (by decide) (by decide) (by decide : 1 + 1 ≤ _) (by decide : 8 + 3 ≤ _)
  have K54 : Rc K0 T53 (mkF m 289 #[sJ p1, sV, sJ p2, sV, sI p3, sI p4, sR a2, sD du0, sV, sD du1, sV, sD du2, sV, sD dw0, sV, sD dw1, sV, sD dw2, sV, sI (Int32.ofNat sa0), sI (Int32.ofNat sa1), sI (Int32.ofNat sa2), sI (Int32.ofNat md), sI (Int32.ofNat vc), sI (Int32.ofNat ch), sI (own_bi lbt), sI (own_bi hbt), sR a53, sU, sU, sU, sU, sU, sU, sU, sU, sU, sU, sU] [(kD (FP.i2d (p4).toInt8.toInt32)), (kI 0), (kR a53)]) := fun t k => K52 t (st53 t (by
    refine XS.astore X53.here hx rfl (hb hby at_280) rfl rfl (l' := #[sJ p1, sV, sJ p2, sV, sI p3, sI p4, sR a2, sD du0, sV, sD du1, sV, sD du2, sV, sD dw0, sV, sD dw1, sV, sD dw2, sV, sI (Int32.ofNat sa0), sI (Int32.ofNat sa1), sI (Int32.ofNat sa2), sI (Int32.ofNat md), sI (Int32.ofNat vc), sI (Int32.ofNat ch), sI (own_bi lbt), sI (own_bi hbt), sR a53, sU, sU, sU, sU, sU, sU, sU, sU, sU, sU, sU]) rfl ?_
    refine XS.aload X53.here hx rfl (hb hby at_282) rfl rfl ?_
    refine XS.iconst X53.here hx rfl (hb hby at_284) ?_
    refine XS.iload X53.here hx rfl (hb hby at_285) rfl ?_
    refine XS.i2b X53.here hx rfl (hb hby at_287) rfl ?_
    refine XS.i2dS X53.here hx rfl (hb hby at_288) rfl rfl ?_
    exact k))
  obtain ⟨T55, h55, L55, X55, e55, N55, W55q, st55⟩ := dasW X53 hx hZ e53 W53q N26 (i := 0) (a := a53) rfl (j := (0 : Int32)) (x := (FP.i2d (p4).toInt8.toInt32)) (k := 0) (by decide) (by decide) (by decide) (g := K54.g) rfl rfl (hb hby at_289)
  have K56 : Rc K0 T55 (mkF m 300 #[sJ p1, sV, sJ p2, sV, sI p3, sI p4, sR a2, sD du0, sV, sD du1, sV, sD du2, sV, sD dw0, sV, sD dw1, sV, sD dw2, sV, sI (Int32.ofNat sa0), sI (Int32.ofNat sa1), sI (Int32.ofNat sa2), sI (Int32.ofNat md), sI (Int32.ofNat vc), sI (Int32.ofNat ch), sI (own_bi lbt), sI (own_bi hbt), sR a53, sU, sU, sU, sU, sU, sU, sU, sU, sU, sU, sU] [(kD (FP.i2d (((p4).toUInt32 >>> ((8 : Int32) &&& 31).toUInt32).toInt32).toInt8.toInt32)), (kI 1), (kR a53)]) := fun t k => K54 t (st55 t (by
    refine XS.aload X55.here hx rfl (hb hby at_290) rfl rfl ?_
    refine XS.iconst X55.here hx rfl (hb hby at_292) ?_
    refine XS.iload X55.here hx rfl (hb hby at_293) rfl ?_
    refine XS.bipush X55.here hx rfl (hb hby at_295) ?_
    refine XS.iushr X55.here hx rfl (hb hby at_297) rfl ?_
    refine XS.i2b X55.here hx rfl (hb hby at_298) rfl ?_
    refine XS.i2dS X55.here hx rfl (hb hby at_299) rfl rfl ?_
    exact k))
  obtain ⟨T57, h57, L57, X57, e57, N57, W57q, st57⟩ := dasW X55 hx hZ e55 W55q N55 (i := 0) (a := a53) rfl (j := (1 : Int32)) (x := (FP.i2d (((p4).toUInt32 >>> ((8 : Int32) &&& 31).toUInt32).toInt32).toInt8.toInt32)) (k := 1) (by decide) (by decide) (by decide) (g := K56.g) rfl rfl (hb hby at_300)
  have W57 : Wo n0 h57 [(a53, Ar Z .double 3 (upd (upd zD 0 (kD (FP.i2d (p4).toInt8.toInt32))) 1 (kD (FP.i2d (((p4).toUInt32 >>> ((8 : Int32) &&& 31).toUInt32).toInt32).toInt8.toInt32)))), (a2, Ar Z .double 8 gv)] := W57q
  have K58 : Rc K0 T57 (mkF m 311 #[sJ p1, sV, sJ p2, sV, sI p3, sI p4, sR a2, sD du0, sV, sD du1, sV, sD du2, sV, sD dw0, sV, sD dw1, sV, sD dw2, sV, sI (Int32.ofNat sa0), sI (Int32.ofNat sa1), sI (Int32.ofNat sa2), sI (Int32.ofNat md), sI (Int32.ofNat vc), sI (Int32.ofNat ch), sI (own_bi lbt), sI (own_bi hbt), sR a53, sU, sU, sU, sU, sU, sU, sU, sU, sU, sU, sU] [(kD (FP.i2d (((p4).toUInt32 >>> ((16 : Int32) &&& 31).toUInt32).toInt32).toInt8.toInt32)), (kI 2), (kR a53)]) := fun t k => K56 t (st57 t (by
    refine XS.aload X57.here hx rfl (hb hby at_301) rfl rfl ?_
    refine XS.iconst X57.here hx rfl (hb hby at_303) ?_
    refine XS.iload X57.here hx rfl (hb hby at_304) rfl ?_
    refine XS.bipush X57.here hx rfl (hb hby at_306) ?_
    refine XS.iushr X57.here hx rfl (hb hby at_308) rfl ?_
    refine XS.i2b X57.here hx rfl (hb hby at_309) rfl ?_
    refine XS.i2dS X57.here hx rfl (hb hby at_310) rfl rfl ?_
    exact k))
  obtain ⟨T59, h59, L59, X59, e59, N59, W59q, st59⟩ := dasW X57 hx hZ e57 W57 N57 (i := 0) (a := a53) rfl (j := (2 : Int32)) (x := (FP.i2d (((p4).toUInt32 >>> ((16 : Int32) &&& 31).toUInt32).toInt32).toInt8.toInt32)) (k := 2) (by decide) (by decide) (by decide) (g := K58.g) rfl rfl (hb hby at_311)
  have K60 : Rc K0 T59 (mkF m 312 #[sJ p1, sV, sJ p2, sV, sI p3, sI p4, sR a2, sD du0, sV, sD du1, sV, sD du2, sV, sD dw0, sV, sD dw1, sV, sD dw2, sV, sI (Int32.ofNat sa0), sI (Int32.ofNat sa1), sI (Int32.ofNat sa2), sI (Int32.ofNat md), sI (Int32.ofNat vc), sI (Int32.ofNat ch), sI (own_bi lbt), sI (own_bi hbt), sR a53, sU, sU, sU, sU, sU, sU, sU, sU, sU, sU, sU] []) := fun t k => K58 t (st59 t (k))
  obtain ⟨gy, egy⟩ : ∃ q : Nat → Value, q = (upd (upd (upd zD 0 (kD (FP.i2d (p4).toInt8.toInt32))) 1 (kD (FP.i2d (((p4).toUInt32 >>> ((8 : Int32) &&& 31).toUInt32).toInt32).toInt8.toInt32))) 2 (kD (FP.i2d (((p4).toUInt32 >>> ((16 : Int32) &&& 31).toUInt32).toInt32).toInt8.toInt32))) := ⟨_, rfl⟩
  have W61 : Wo n0 h59 [(a53, Ar Z .double 3 gy), (a2, Ar Z .double 8 gv)] := by rw [egy]; exact W59q
  have K62 : Rc K0 T59 (mkF m 313 #[sJ p1, sV, sJ p2, sV, sI p3, sI p4, sR a2, sD du0, sV, sD du1, sV, sD du2, sV, sD dw0, sV, sD dw1, sV, sD dw2, sV, sI (Int32.ofNat sa0), sI (Int32.ofNat sa1), sI (Int32.ofNat sa2), sI (Int32.ofNat md), sI (Int32.ofNat vc), sI (Int32.ofNat ch), sI (own_bi lbt), sI (own_bi hbt), sR a53, sU, sU, sU, sU, sU, sU, sU, sU, sU, sU, sU] [(kI 3)]) := fun t k => K60 t (XS.iconst X59.here hx rfl (hb hby at_312) k)
  obtain ⟨T63, h63, a63, X63, e63, W63q, st63⟩ := newWA X59 hx hZ (aty := .double) (ty := .double) rfl (hw _ (mi 0 rfl)) e59 W61 (g := K62.g) rfl (hb hby at_313) (z := (3 : Int32)) (n := 3) rfl (by decide) (by decide) (cap := 3) (by decide) (by decide) (by decide : 2 + 1 ≤ _) (by decide : 11 + 3 ≤ _)
  have K64 : Rc K0 T63 (mkF m 322 #[sJ p1, sV, sJ p2, sV, sI p3, sI p4, sR a2, sD du0, sV, sD du1, sV, sD du2, sV, sD dw0, sV, sD dw1, sV, sD dw2, sV, sI (Int32.ofNat sa0), sI (Int32.ofNat sa1), sI (Int32.ofNat sa2), sI (Int32.ofNat md), sI (Int32.ofNat vc), sI (Int32.ofNat ch), sI (own_bi lbt), sI (own_bi hbt), sR a53, sR a63, sU, sU, sU, sU, sU, sU, sU, sU, sU, sU] [(kD dw0), (kI 0), (kR a63)]) := fun t k => K62 t (st63 t (by
    refine XS.astore X63.here hx rfl (hb hby at_315) rfl rfl (l' := #[sJ p1, sV, sJ p2, sV, sI p3, sI p4, sR a2, sD du0, sV, sD du1, sV, sD du2, sV, sD dw0, sV, sD dw1, sV, sD dw2, sV, sI (Int32.ofNat sa0), sI (Int32.ofNat sa1), sI (Int32.ofNat sa2), sI (Int32.ofNat md), sI (Int32.ofNat vc), sI (Int32.ofNat ch), sI (own_bi lbt), sI (own_bi hbt), sR a53, sR a63, sU, sU, sU, sU, sU, sU, sU, sU, sU, sU]) rfl ?_
    refine XS.aload X63.here hx rfl (hb hby at_317) rfl rfl ?_
    refine XS.iconst X63.here hx rfl (hb hby at_319) ?_
    refine XS.dload X63.here hx rfl (hb hby at_320) rfl ?_
    exact k))
  obtain ⟨T65, h65, L65, X65, e65, N65, W65q, st65⟩ := dasW X63 hx hZ e63 W63q N59 (i := 0) (a := a63) rfl (j := (0 : Int32)) (x := dw0) (k := 0) (by decide) (by decide) (by decide) (g := K64.g) rfl rfl (hb hby at_322)
  have K66 : Rc K0 T65 (mkF m 328 #[sJ p1, sV, sJ p2, sV, sI p3, sI p4, sR a2, sD du0, sV, sD du1, sV, sD du2, sV, sD dw0, sV, sD dw1, sV, sD dw2, sV, sI (Int32.ofNat sa0), sI (Int32.ofNat sa1), sI (Int32.ofNat sa2), sI (Int32.ofNat md), sI (Int32.ofNat vc), sI (Int32.ofNat ch), sI (own_bi lbt), sI (own_bi hbt), sR a53, sR a63, sU, sU, sU, sU, sU, sU, sU, sU, sU, sU] [(kD dw1), (kI 1), (kR a63)]) := fun t k => K64 t (st65 t (by
    refine XS.aload X65.here hx rfl (hb hby at_323) rfl rfl ?_
    refine XS.iconst X65.here hx rfl (hb hby at_325) ?_
    refine XS.dload X65.here hx rfl (hb hby at_326) rfl ?_
    exact k))
  obtain ⟨T67, h67, L67, X67, e67, N67, W67q, st67⟩ := dasW X65 hx hZ e65 W65q N65 (i := 0) (a := a63) rfl (j := (1 : Int32)) (x := dw1) (k := 1) (by decide) (by decide) (by decide) (g := K66.g) rfl rfl (hb hby at_328)
  have W67 : Wo n0 h67 [(a63, Ar Z .double 3 (upd (upd zD 0 (kD dw0)) 1 (kD dw1))), (a53, Ar Z .double 3 gy), (a2, Ar Z .double 8 gv)] := W67q
  have K68 : Rc K0 T67 (mkF m 334 #[sJ p1, sV, sJ p2, sV, sI p3, sI p4, sR a2, sD du0, sV, sD du1, sV, sD du2, sV, sD dw0, sV, sD dw1, sV, sD dw2, sV, sI (Int32.ofNat sa0), sI (Int32.ofNat sa1), sI (Int32.ofNat sa2), sI (Int32.ofNat md), sI (Int32.ofNat vc), sI (Int32.ofNat ch), sI (own_bi lbt), sI (own_bi hbt), sR a53, sR a63, sU, sU, sU, sU, sU, sU, sU, sU, sU, sU] [(kD dw2), (kI 2), (kR a63)]) := fun t k => K66 t (st67 t (by
    refine XS.aload X67.here hx rfl (hb hby at_329) rfl rfl ?_
    refine XS.iconst X67.here hx rfl (hb hby at_331) ?_
    refine XS.dload X67.here hx rfl (hb hby at_332) rfl ?_
    exact k))
  obtain ⟨T69, h69, L69, X69, e69, N69, W69q, st69⟩ := dasW X67 hx hZ e67 W67 N67 (i := 0) (a := a63) rfl (j := (2 : Int32)) (x := dw2) (k := 2) (by decide) (by decide) (by decide) (g := K68.g) rfl rfl (hb hby at_334)
  have K70 : Rc K0 T69 (mkF m 336 #[sJ p1, sV, sJ p2, sV, sI p3, sI p4, sR a2, sD du0, sV, sD du1, sV, sD du2, sV, sD dw0, sV, sD dw1, sV, sD dw2, sV, sI (Int32.ofNat sa0), sI (Int32.ofNat sa1), sI (Int32.ofNat sa2), sI (Int32.ofNat md), sI (Int32.ofNat vc), sI (Int32.ofNat ch), sI (own_bi lbt), sI (own_bi hbt), sR a53, sR a63, sU, sU, sU, sU, sU, sU, sU, sU, sU, sU] [(kI 0)]) := fun t k => K68 t (st69 t (XS.iconst X69.here hx rfl (hb hby at_335) k))
  obtain ⟨T71, h71, a71, X71, e71, W71q, st71⟩ := newWA X69 hx hZ (aty := .int) (ty := .int) rfl (hw _ (mi 4 rfl)) e69 W69q (g := K70.g) rfl (hb hby at_336) (z := (0 : Int32)) (n := 0) rfl (by decide) (by decide) (cap := 0) (by decide) (by decide) (by decide : 3 + 1 ≤ _) (by decide : 14 + 0 ≤ _)
  have K72 : Rc K0 T71 (mkF m 340 #[sJ p1, sV, sJ p2, sV, sI p3, sI p4, sR a2, sD du0, sV, sD du1, sV, sD du2, sV, sD dw0, sV, sD dw1, sV, sD dw2, sV, sI (Int32.ofNat sa0), sI (Int32.ofNat sa1), sI (Int32.ofNat sa2), sI (Int32.ofNat md), sI (Int32.ofNat vc), sI (Int32.ofNat ch), sI (own_bi lbt), sI (own_bi hbt), sR a53, sR a63, sR a71, sU, sU, sU, sU, sU, sU, sU, sU, sU] []) := fun t k => K70 t (st71 t (XS.astore X71.here hx rfl (hb hby at_338) rfl rfl (l' := #[sJ p1, sV, sJ p2, sV, sI p3, sI p4, sR a2, sD du0, sV, sD du1, sV, sD du2, sV, sD dw0, sV, sD dw1, sV, sD dw2, sV, sI (Int32.ofNat sa0), sI (Int32.ofNat sa1), sI (Int32.ofNat sa2), sI (Int32.ofNat md), sI (Int32.ofNat vc), sI (Int32.ofNat ch), sI (own_bi lbt), sI (own_bi hbt), sR a53, sR a63, sR a71, sU, sU, sU, sU, sU, sU, sU, sU, sU]) rfl k))
  obtain ⟨T73, h73, a73, X73, e73, W73q, st73⟩ := newWO X71 hx hZ hown (hw _ (mi 5 rfl)) (hw _ (mi 6 rfl)) (hw _ (mi 7 rfl)) e71 W71q (own_lR hw) (vs := [.null, .null, .null, .null, .null, .null, .null, .null, .null, .null, .null, .null, .null, .null, (.int (0 : Int32)), .null, (.int (0 : Int32)), .null, .null, .null, .null, .null, .null, (.int (0 : Int32)), (.int (0 : Int32))]) own_vR (g := K72.g) rfl (hb hby at_340) (by decide : 4 + 1 ≤ _) (by decide : 14 + 29 ≤ _)
  have K74 : Rc K0 T73 (mkF m 344 #[sJ p1, sV, sJ p2, sV, sI p3, sI p4, sR a2, sD du0, sV, sD du1, sV, sD du2, sV, sD dw0, sV, sD dw1, sV, sD dw2, sV, sI (Int32.ofNat sa0), sI (Int32.ofNat sa1), sI (Int32.ofNat sa2), sI (Int32.ofNat md), sI (Int32.ofNat vc), sI (Int32.ofNat ch), sI (own_bi lbt), sI (own_bi hbt), sR a53, sR a63, sR a71, sU, sU, sU, sU, sU, sU, sU, sU, sU] [(kR a73), (kR a73)]) := fun t k => K72 t (st73 t (XS.dup X73.here hx rfl (hb hby at_343) rfl rfl k))
  obtain ⟨_, _, ⟨T75, L75, k75, n75⟩, -, X75, ⟨Lc75, hQ75, l75, y75, z75⟩, st75⟩ := X73.specialBack hx (y := y_ri) rfl hown (mvT hZ (hw _ (mi 8 rfl))) (mvT hZ (hw _ (mi 9 rfl))) (mvT hZ (hw _ (mi 10 rfl))) (by decide) (backOf (W := 1) (rmRI l Z a0 hw [] a73 ((a71, Ar Z .int 0 zI) :: (a63, Ar Z .double 3 (upd (upd (upd zD 0 (kD dw0)) 1 (kD dw1)) 2 (kD dw2))) :: (a53, Ar Z .double 3 gy) :: (a2, Ar Z .double 8 gv) :: []) h73 n0 W73q) hZ (hw _ (mi 10 rfl)) (hw _ (mi 7 rfl)) (by decide) (by decide)) (g := K74.g) rfl (by rw [hml]; rfl) (Steps.refl _) (a := a73) (argsL := []) (rest := [(.ref a73)]) (lenOf pd_ri rfl) rfl (by show 2 * 0 + _ ≤ _; exact Nat.le_of_eq rfl) (hb hby at_344) (fun _ _ => ⟨rfl, e73, (by decide : 5 + 14 ≤ _), (by decide : 43 + 294 ≤ _)⟩)
  dsimp only [Pt.U, Pt.locs, Pt.cells, Pt.slots] at X75 l75 y75 z75 st75 hQ75
  subst l75 y75 z75
  obtain ⟨a43_75, a40_75, a37_75, a34_75, a31_75, a28_75, a25_75, a22_75, a19_75, a16_75, a13_75, a10_75, a7_75, a4_75, rfl, N75q, W75⟩ := hQ75
  have N75 := Fr.app N69 N75q
  have K76 : Rc K0 T75 (mkF m 349 #[sJ p1, sV, sJ p2, sV, sI p3, sI p4, sR a2, sD du0, sV, sD du1, sV, sD du2, sV, sD dw0, sV, sD dw1, sV, sD dw2, sV, sI (Int32.ofNat sa0), sI (Int32.ofNat sa1), sI (Int32.ofNat sa2), sI (Int32.ofNat md), sI (Int32.ofNat vc), sI (Int32.ofNat ch), sI (own_bi lbt), sI (own_bi hbt), sR a53, sR a63, sR a71, sR a73, sU, sU, sU, sU, sU, sU, sU, sU] []) := fun t k => K74 t (st75.trans (XS.astore X75.here hx rfl (hb hby at_347) rfl rfl (l' := #[sJ p1, sV, sJ p2, sV, sI p3, sI p4, sR a2, sD du0, sV, sD du1, sV, sD du2, sV, sD dw0, sV, sD dw1, sV, sD dw2, sV, sI (Int32.ofNat sa0), sI (Int32.ofNat sa1), sI (Int32.ofNat sa2), sI (Int32.ofNat md), sI (Int32.ofNat vc), sI (Int32.ofNat ch), sI (own_bi lbt), sI (own_bi hbt), sR a53, sR a63, sR a71, sR a73, sU, sU, sU, sU, sU, sU, sU, sU]) rfl k))
  obtain ⟨T77, h77, a77, X77, e77, W77q, st77⟩ := newWO X75 hx hZ hown (hw _ (mi 42 rfl)) (hw _ (mi 43 rfl)) (hw _ (mi 44 rfl)) (rfl : T75.heap = T75.heap) W75 (own_lB hw) (vs := [.null, (.int (0 : Int32)), .null, (.int (0 : Int32)), .null, .null, .null, .null, .null, .null, .null, (.int (0 : Int32)), (.int (0 : Int32)), (.int (0 : Int32)), (.int (0 : Int32)), .null]) own_vB (g := K76.g) rfl (hb hby at_349) (by decide : 19 + 1 ≤ _) (by decide : 337 + 16 ≤ _)
  have W77 : Wo n0 h77 [(a77, oB Z [.null, (kI 0), .null, (kI 0), .null, .null, .null, .null, .null, .null, .null, (kI 0), (kI 0), (kI 0), (kI 0), .null]), (a43_75, Ar Z .double 64 zD), (a40_75, Ar Z .int 64 zI), (a37_75, Ar Z .int 16 zI), (a34_75, Ar Z .int 16 zI), (a31_75, Ar Z .int 17 zI), (a28_75, Ar Z .int 17 zI), (a25_75, Ar Z .int 17 zI), (a22_75, Ar Z .int 17 zI), (a19_75, Ar Z .int 16 zI), (a16_75, Ar Z .int 17 zI), (a13_75, Ar Z .int 17 zI), (a10_75, Ar Z .int 16 zI), (a7_75, Ar Z .int 0 zI), (a4_75, Ar Z .int 0 zI), (a73, oR Z [(kR a4_75), (kR a7_75), (kR a10_75), (kR a13_75), (kR a16_75), (kR a19_75), (kR a22_75), (kR a25_75), (kR a28_75), (kR a31_75), (kR a34_75), (kR a37_75), (kR a40_75), (kR a43_75), (kI 0), .null, (kI 0), .null, .null, .null, .null, .null, .null, (kI 0), (kI 0)]), (a71, Ar Z .int 0 zI), (a63, Ar Z .double 3 (upd (upd (upd zD 0 (kD dw0)) 1 (kD dw1)) 2 (kD dw2))), (a53, Ar Z .double 3 gy), (a2, Ar Z .double 8 gv)] := W77q
  have K78 : Rc K0 T77 (mkF m 353 #[sJ p1, sV, sJ p2, sV, sI p3, sI p4, sR a2, sD du0, sV, sD du1, sV, sD du2, sV, sD dw0, sV, sD dw1, sV, sD dw2, sV, sI (Int32.ofNat sa0), sI (Int32.ofNat sa1), sI (Int32.ofNat sa2), sI (Int32.ofNat md), sI (Int32.ofNat vc), sI (Int32.ofNat ch), sI (own_bi lbt), sI (own_bi hbt), sR a53, sR a63, sR a71, sR a73, sU, sU, sU, sU, sU, sU, sU, sU] [(kR a77), (kR a77)]) := fun t k => K76 t (st77 t (XS.dup X77.here hx rfl (hb hby at_352) rfl rfl k))
  obtain ⟨_, _, ⟨T79, L79, k79, n79⟩, -, X79, ⟨Lc79, hQ79, l79, y79, z79⟩, st79⟩ := X77.specialBack hx (y := y_bi) rfl hown (mvT hZ (hw _ (mi 45 rfl))) (mvT hZ (hw _ (mi 46 rfl))) (mvT hZ (hw _ (mi 47 rfl))) (by decide) (backOf (W := 1) (rmBI l Z a0 hw [] a77 ((a43_75, Ar Z .double 64 zD) :: (a40_75, Ar Z .int 64 zI) :: (a37_75, Ar Z .int 16 zI) :: (a34_75, Ar Z .int 16 zI) :: (a31_75, Ar Z .int 17 zI) :: (a28_75, Ar Z .int 17 zI) :: (a25_75, Ar Z .int 17 zI) :: (a22_75, Ar Z .int 17 zI) :: (a19_75, Ar Z .int 16 zI) :: (a16_75, Ar Z .int 17 zI) :: (a13_75, Ar Z .int 17 zI) :: (a10_75, Ar Z .int 16 zI) :: (a7_75, Ar Z .int 0 zI) :: (a4_75, Ar Z .int 0 zI) :: (a73, oR Z [(kR a4_75), (kR a7_75), (kR a10_75), (kR a13_75), (kR a16_75), (kR a19_75), (kR a22_75), (kR a25_75), (kR a28_75), (kR a31_75), (kR a34_75), (kR a37_75), (kR a40_75), (kR a43_75), (kI 0), .null, (kI 0), .null, .null, .null, .null, .null, .null, (kI 0), (kI 0)]) :: (a71, Ar Z .int 0 zI) :: (a63, Ar Z .double 3 (upd (upd (upd zD 0 (kD dw0)) 1 (kD dw1)) 2 (kD dw2))) :: (a53, Ar Z .double 3 gy) :: (a2, Ar Z .double 8 gv) :: []) h77 n0 W77) hZ (hw _ (mi 47 rfl)) (hw _ (mi 44 rfl)) (by decide) (by decide)) (g := K78.g) rfl (by rw [hml]; rfl) (Steps.refl _) (a := a77) (argsL := []) (rest := [(.ref a77)]) (lenOf pd_bi rfl) rfl (by show 2 * 0 + _ ≤ _; exact Nat.le_of_eq rfl) (hb hby at_353) (fun _ _ => ⟨rfl, e77, (by decide : 20 + 7 ≤ _), (by decide : 353 + 18 ≤ _)⟩)
  dsimp only [Pt.U, Pt.locs, Pt.cells, Pt.slots] at X79 l79 y79 z79 st79 hQ79
  subst l79 y79 z79
  obtain ⟨a22_79, a19_79, a16_79, a13_79, a10_79, a7_79, a4_79, rfl, N79q, W79⟩ := hQ79
  have N79 := Fr.app N75 N79q
  have K80 : Rc K0 T79 (mkF m 367 #[sJ p1, sV, sJ p2, sV, sI p3, sI p4, sR a2, sD du0, sV, sD du1, sV, sD du2, sV, sD dw0, sV, sD dw1, sV, sD dw2, sV, sI (Int32.ofNat sa0), sI (Int32.ofNat sa1), sI (Int32.ofNat sa2), sI (Int32.ofNat md), sI (Int32.ofNat vc), sI (Int32.ofNat ch), sI (own_bi lbt), sI (own_bi hbt), sR a53, sR a63, sR a71, sR a73, sR a77, sU, sU, sU, sU, sU, sU, sU] [(kI 2), (kI (Int32.ofNat md)), (kR a53), (kI 0), .null, (kR a77)]) := fun t k => K78 t (st79.trans (by
    refine XS.astore X79.here hx rfl (hb hby at_356) rfl rfl (l' := #[sJ p1, sV, sJ p2, sV, sI p3, sI p4, sR a2, sD du0, sV, sD du1, sV, sD du2, sV, sD dw0, sV, sD dw1, sV, sD dw2, sV, sI (Int32.ofNat sa0), sI (Int32.ofNat sa1), sI (Int32.ofNat sa2), sI (Int32.ofNat md), sI (Int32.ofNat vc), sI (Int32.ofNat ch), sI (own_bi lbt), sI (own_bi hbt), sR a53, sR a63, sR a71, sR a73, sR a77, sU, sU, sU, sU, sU, sU, sU]) rfl ?_
    refine XS.aload X79.here hx rfl (hb hby at_358) rfl rfl ?_
    refine XS.aconstNull X79.here hx rfl (hb hby at_360) ?_
    refine XS.iconst X79.here hx rfl (hb hby at_361) ?_
    refine XS.aload X79.here hx rfl (hb hby at_362) rfl rfl ?_
    refine XS.iload X79.here hx rfl (hb hby at_364) rfl ?_
    refine XS.iconst X79.here hx rfl (hb hby at_366) ?_
    exact k))
  have K81 : Rc K0 T79 (mkF m 376 #[sJ p1, sV, sJ p2, sV, sI p3, sI p4, sR a2, sD du0, sV, sD du1, sV, sD du2, sV, sD dw0, sV, sD dw1, sV, sD dw2, sV, sI (Int32.ofNat sa0), sI (Int32.ofNat sa1), sI (Int32.ofNat sa2), sI (Int32.ofNat md), sI (Int32.ofNat vc), sI (Int32.ofNat ch), sI (own_bi lbt), sI (own_bi hbt), sR a53, sR a63, sR a71, sR a73, sR a77, sU, sU, sU, sU, sU, sU, sU] [(kI (Int32.ofNat (if md < 2 then 0 else vc))), (kR a53), (kI 0), .null, (kR a77)]) := fun t k => K80 t (by
    by_cases hq : ¬ md < 2
    · rw [show Int32.ofNat (if md < 2 then 0 else vc) = Int32.ofNat vc from congrArg Int32.ofNat (if_neg hq)] at k
      refine XS.icmpNo X79.here hx rfl (hb hby at_367) rfl (flt (own_nlt (a := md) (b := 2) (by omega) (by omega))).1 ?_
      refine XS.iload X79.here hx rfl (hb hby at_370) rfl ?_
      refine XS.goto X79.here hx rfl (pc0 := 372) (pc' := 376) rfl (hb hby at_372) (by decide) (by decide) ?_
      exact k
    · rw [show Int32.ofNat (if md < 2 then 0 else vc) = 0 from congrArg Int32.ofNat (if_pos (Decidable.not_not.mp hq))] at k
      refine XS.icmpYes X79.here hx rfl (pc0 := 367) (pc' := 375) rfl (hb hby at_367) rfl (tlt (own_lt (b := 2) (Decidable.not_not.mp hq) (by decide))).1 (by decide) (by decide) ?_
      refine XS.iconst X79.here hx rfl (hb hby at_375) ?_
      exact k)
  obtain ⟨u, eu⟩ : ∃ u : Nat, u = (if md < 2 then 0 else vc) := ⟨_, rfl⟩
  rw [← eu] at K81
  have hu0 : md < 2 → u = 0 := fun q => by rw [eu, if_pos q]
  have hu1 : ¬ md < 2 → 1 ≤ u := fun q => by rw [eu, if_neg q]; exact hvc1
  have hu3 : u ≤ 3 := by rw [eu]; split <;> omega
  have W82 : Wo n0 T79.heap [(a77, oB Z [.null, (kI 0), .null, (kI 0), (kR a4_79), (kR a7_79), (kR a10_79), (kR a13_79), (kR a16_79), (kR a19_79), (kR a22_79), (kI 0), (kI 0), (kI 0), (kI 0), .null]), (a22_79, Ar Z .double 4 zD), (a19_79, Ar Z .int 4 zI), (a16_79, Ar Z .int 2 zI), (a13_79, Ar Z .int 2 zI), (a10_79, Ar Z .int 2 zI), (a7_79, Ar Z .int 2 zI), (a4_79, Ar Z .int 2 zI), (a43_75, Ar Z .double 64 zD), (a40_75, Ar Z .int 64 zI), (a37_75, Ar Z .int 16 zI), (a34_75, Ar Z .int 16 zI), (a31_75, Ar Z .int 17 zI), (a28_75, Ar Z .int 17 zI), (a25_75, Ar Z .int 17 zI), (a22_75, Ar Z .int 17 zI), (a19_75, Ar Z .int 16 zI), (a16_75, Ar Z .int 17 zI), (a13_75, Ar Z .int 17 zI), (a10_75, Ar Z .int 16 zI), (a7_75, Ar Z .int 0 zI), (a4_75, Ar Z .int 0 zI), (a73, oR Z [(kR a4_75), (kR a7_75), (kR a10_75), (kR a13_75), (kR a16_75), (kR a19_75), (kR a22_75), (kR a25_75), (kR a28_75), (kR a31_75), (kR a34_75), (kR a37_75), (kR a40_75), (kR a43_75), (kI 0), .null, (kI 0), .null, .null, .null, .null, .null, .null, (kI 0), (kI 0)]), (a71, Ar Z .int 0 zI), (a63, Ar Z .double 3 (upd (upd (upd zD 0 (kD dw0)) 1 (kD dw1)) 2 (kD dw2))), (a53, Ar Z .double 3 gy), (a2, Ar Z .double 8 gv)] := Wo.pick W79 [7, 0, 1, 2, 3, 4, 5, 6, 8, 9, 10, 11, 12, 13, 14, 15, 16, 17, 18, 19, 20, 21, 22, 23, 24, 25, 26] 27 (by decide +kernel) rfl
  obtain ⟨cq83, kq83, q83a, q83b, q83c⟩ := isOf hZ (rfl : T79.heap = T79.heap) (W82.exa (i := 0) rfl)
  obtain ⟨_, _, ⟨T83, L83, k83, n83⟩, -, X83, ⟨Lc83, hQ83, l83, y83, z83⟩, st83⟩ := X79.virtualBack hx (y := y_st) (z := y_st) hown (mvT hZ (hw _ (mi 63 rfl))) (mvT hZ (hw _ (mi 64 rfl))) (notFace_of_selects (args := #[]) (mvT hZ (hw _ (mi 66 rfl)))) (mvT hZ (hw _ (mi 66 rfl))) (mvT hZ (hw _ (mi 65 rfl))) (by decide) (backOf (W := 0) (rmSTn l Z a0 hw [] a77 a4_79 a7_79 a10_79 a13_79 a16_79 a19_79 a22_79 (0 : Int32) (0 : Int32) a53 (Int32.ofNat u) ((a22_79, Ar Z .double 4 zD) :: (a19_79, Ar Z .int 4 zI) :: (a16_79, Ar Z .int 2 zI) :: (a13_79, Ar Z .int 2 zI) :: (a10_79, Ar Z .int 2 zI) :: (a7_79, Ar Z .int 2 zI) :: (a4_79, Ar Z .int 2 zI) :: (a43_75, Ar Z .double 64 zD) :: (a40_75, Ar Z .int 64 zI) :: (a37_75, Ar Z .int 16 zI) :: (a34_75, Ar Z .int 16 zI) :: (a31_75, Ar Z .int 17 zI) :: (a28_75, Ar Z .int 17 zI) :: (a25_75, Ar Z .int 17 zI) :: (a22_75, Ar Z .int 17 zI) :: (a19_75, Ar Z .int 16 zI) :: (a16_75, Ar Z .int 17 zI) :: (a13_75, Ar Z .int 17 zI) :: (a10_75, Ar Z .int 16 zI) :: (a7_75, Ar Z .int 0 zI) :: (a4_75, Ar Z .int 0 zI) :: (a73, oR Z [(kR a4_75), (kR a7_75), (kR a10_75), (kR a13_75), (kR a16_75), (kR a19_75), (kR a22_75), (kR a25_75), (kR a28_75), (kR a31_75), (kR a34_75), (kR a37_75), (kR a40_75), (kR a43_75), (kI 0), .null, (kI 0), .null, .null, .null, .null, .null, .null, (kI 0), (kI 0)]) :: (a71, Ar Z .int 0 zI) :: (a63, Ar Z .double 3 (upd (upd (upd zD 0 (kD dw0)) 1 (kD dw1)) 2 (kD dw2))) :: (a53, Ar Z .double 3 gy) :: (a2, Ar Z .double 8 gv) :: []) T79.heap n0 W82) hZ (hw _ (mi 67 rfl)) (hw _ (mi 44 rfl)) (by decide) (by decide)) q83a q83c (g := K81.g) rfl (by rw [hml]; rfl) (Steps.refl _) (argsL := [.null, (.int (0 : Int32)), (.ref a53), (.int (Int32.ofNat u))]) (rest := []) (lenOf pd_st rfl) rfl (by show 2 * 0 + _ ≤ _; exact Nat.le_of_eq rfl) (hb hby at_376) (fun _ _ => ⟨rfl, (rfl : T79.heap = T79.heap), (by decide : 27 + 0 ≤ _), (by decide : 371 + 0 ≤ _)⟩)
  dsimp only [Pt.U, Pt.locs, Pt.cells, Pt.slots] at X83 l83 y83 z83 st83 hQ83
  subst l83 y83 z83
  obtain ⟨rfl, N83q, W83⟩ := hQ83
  have N83 := Fr.app N79 N83q
  have K84 : Rc K0 T83 (mkF m 381 #[sJ p1, sV, sJ p2, sV, sI p3, sI p4, sR a2, sD du0, sV, sD du1, sV, sD du2, sV, sD dw0, sV, sD dw1, sV, sD dw2, sV, sI (Int32.ofNat sa0), sI (Int32.ofNat sa1), sI (Int32.ofNat sa2), sI (Int32.ofNat md), sI (Int32.ofNat vc), sI (Int32.ofNat ch), sI (own_bi lbt), sI (own_bi hbt), sR a53, sR a63, sR a71, sR a73, sR a77, sU, sU, sU, sU, sU, sU, sU] [(kR a77)]) := fun t k => K81 t (st83.trans (XS.aload X83.here hx rfl (hb hby at_379) rfl rfl k))
  have W85 : Wo n0 T83.heap [(a77, oB Z [.null, (kI 0), (kR a53), (kI (Int32.ofNat u)), (kR a4_79), (kR a7_79), (kR a10_79), (kR a13_79), (kR a16_79), (kR a19_79), (kR a22_79), (kI 0), (kI 0), (kI 0), (kI 0), .null]), (a4_79, Ar Z .int 2 zI), (a10_79, Ar Z .int 2 zI), (a16_79, Ar Z .int 2 zI), (a22_79, Ar Z .double 4 zD), (a19_79, Ar Z .int 4 zI), (a13_79, Ar Z .int 2 zI), (a7_79, Ar Z .int 2 zI), (a43_75, Ar Z .double 64 zD), (a40_75, Ar Z .int 64 zI), (a37_75, Ar Z .int 16 zI), (a34_75, Ar Z .int 16 zI), (a31_75, Ar Z .int 17 zI), (a28_75, Ar Z .int 17 zI), (a25_75, Ar Z .int 17 zI), (a22_75, Ar Z .int 17 zI), (a19_75, Ar Z .int 16 zI), (a16_75, Ar Z .int 17 zI), (a13_75, Ar Z .int 17 zI), (a10_75, Ar Z .int 16 zI), (a7_75, Ar Z .int 0 zI), (a4_75, Ar Z .int 0 zI), (a73, oR Z [(kR a4_75), (kR a7_75), (kR a10_75), (kR a13_75), (kR a16_75), (kR a19_75), (kR a22_75), (kR a25_75), (kR a28_75), (kR a31_75), (kR a34_75), (kR a37_75), (kR a40_75), (kR a43_75), (kI 0), .null, (kI 0), .null, .null, .null, .null, .null, .null, (kI 0), (kI 0)]), (a71, Ar Z .int 0 zI), (a63, Ar Z .double 3 (upd (upd (upd zD 0 (kD dw0)) 1 (kD dw1)) 2 (kD dw2))), (a53, Ar Z .double 3 gy), (a2, Ar Z .double 8 gv)] := Wo.pick W83 [0, 7, 5, 3, 1, 2, 4, 6, 8, 9, 10, 11, 12, 13, 14, 15, 16, 17, 18, 19, 20, 21, 22, 23, 24, 25, 26] 27 (by decide +kernel) rfl
  obtain ⟨cq86, kq86, q86a, q86b, q86c⟩ := isOf hZ (rfl : T83.heap = T83.heap) (W85.exa (i := 0) rfl)
  obtain ⟨_, _, ⟨T86, L86, k86, n86⟩, -, X86, ⟨Lc86, hQ86, l86, y86, z86⟩, st86⟩ := X83.virtualBack hx (y := y_sc) (z := y_sc) hown (mvT hZ (hw _ (mi 86 rfl))) (mvT hZ (hw _ (mi 87 rfl))) (notFace_of_selects (args := #[]) (mvT hZ (hw _ (mi 89 rfl)))) (mvT hZ (hw _ (mi 89 rfl))) (mvT hZ (hw _ (mi 88 rfl))) (by decide) (backOf (W := 0) (rmSC0 l Z a0 hw [] a77 a4_79 a7_79 a10_79 a13_79 a16_79 a19_79 a22_79 a53 (Int32.ofNat u) (0 : Int32) zI zI zI ((a22_79, Ar Z .double 4 zD) :: (a19_79, Ar Z .int 4 zI) :: (a13_79, Ar Z .int 2 zI) :: (a7_79, Ar Z .int 2 zI) :: (a43_75, Ar Z .double 64 zD) :: (a40_75, Ar Z .int 64 zI) :: (a37_75, Ar Z .int 16 zI) :: (a34_75, Ar Z .int 16 zI) :: (a31_75, Ar Z .int 17 zI) :: (a28_75, Ar Z .int 17 zI) :: (a25_75, Ar Z .int 17 zI) :: (a22_75, Ar Z .int 17 zI) :: (a19_75, Ar Z .int 16 zI) :: (a16_75, Ar Z .int 17 zI) :: (a13_75, Ar Z .int 17 zI) :: (a10_75, Ar Z .int 16 zI) :: (a7_75, Ar Z .int 0 zI) :: (a4_75, Ar Z .int 0 zI) :: (a73, oR Z [(kR a4_75), (kR a7_75), (kR a10_75), (kR a13_75), (kR a16_75), (kR a19_75), (kR a22_75), (kR a25_75), (kR a28_75), (kR a31_75), (kR a34_75), (kR a37_75), (kR a40_75), (kR a43_75), (kI 0), .null, (kI 0), .null, .null, .null, .null, .null, .null, (kI 0), (kI 0)]) :: (a71, Ar Z .int 0 zI) :: (a63, Ar Z .double 3 (upd (upd (upd zD 0 (kD dw0)) 1 (kD dw1)) 2 (kD dw2))) :: (a53, Ar Z .double 3 gy) :: (a2, Ar Z .double 8 gv) :: []) T83.heap n0 W85) hZ (hw _ (mi 90 rfl)) (hw _ (mi 44 rfl)) (by decide) (by decide)) q86a q86c (g := K84.g) rfl (by rw [hml]; rfl) (Steps.refl _) (argsL := []) (rest := []) (lenOf pd_sc rfl) rfl (by show 2 * 0 + _ ≤ _; exact Nat.le_of_eq rfl) (hb hby at_381) (fun _ _ => ⟨rfl, (rfl : T83.heap = T83.heap), (by decide : 27 + 0 ≤ _), (by decide : 371 + 0 ≤ _)⟩)
  dsimp only [Pt.U, Pt.locs, Pt.cells, Pt.slots] at X86 l86 y86 z86 st86 hQ86
  subst l86 y86 z86
  obtain ⟨rfl, N86q, W86⟩ := hQ86
  have N86 := Fr.app N83 N86q
  have K87 : Rc K0 T86 (mkF m 390 #[sJ p1, sV, sJ p2, sV, sI p3, sI p4, sR a2, sD du0, sV, sD du1, sV, sD du2, sV, sD dw0, sV, sD dw1, sV, sD dw2, sV, sI (Int32.ofNat sa0), sI (Int32.ofNat sa1), sI (Int32.ofNat sa2), sI (Int32.ofNat md), sI (Int32.ofNat vc), sI (Int32.ofNat ch), sI (own_bi lbt), sI (own_bi hbt), sR a53, sR a63, sR a71, sR a73, sR a77, sU, sU, sU, sU, sU, sU, sU] [(kD du0), (kI (Int32.ofNat sa0)), (kR a77)]) := fun t k => K84 t (st86.trans (by
    refine XS.aload X86.here hx rfl (hb hby at_384) rfl rfl ?_
    refine XS.iload X86.here hx rfl (hb hby at_386) rfl ?_
    refine XS.dload X86.here hx rfl (hb hby at_388) rfl ?_
    exact k))
  have W88 : Wo n0 T86.heap [(a77, oB Z [.null, (kI 0), (kR a53), (kI (Int32.ofNat u)), (kR a4_79), (kR a7_79), (kR a10_79), (kR a13_79), (kR a16_79), (kR a19_79), (kR a22_79), (kI 1), (kI 0), (kI 0), (kI 0), .null]), (a16_79, Ar Z .int 2 (upd zI 0 (kI 0))), (a19_79, Ar Z .int 4 zI), (a22_79, Ar Z .double 4 zD), (a4_79, Ar Z .int 2 (upd zI 0 (kI 0))), (a10_79, Ar Z .int 2 (upd zI 0 (kI 0))), (a13_79, Ar Z .int 2 zI), (a7_79, Ar Z .int 2 zI), (a43_75, Ar Z .double 64 zD), (a40_75, Ar Z .int 64 zI), (a37_75, Ar Z .int 16 zI), (a34_75, Ar Z .int 16 zI), (a31_75, Ar Z .int 17 zI), (a28_75, Ar Z .int 17 zI), (a25_75, Ar Z .int 17 zI), (a22_75, Ar Z .int 17 zI), (a19_75, Ar Z .int 16 zI), (a16_75, Ar Z .int 17 zI), (a13_75, Ar Z .int 17 zI), (a10_75, Ar Z .int 16 zI), (a7_75, Ar Z .int 0 zI), (a4_75, Ar Z .int 0 zI), (a73, oR Z [(kR a4_75), (kR a7_75), (kR a10_75), (kR a13_75), (kR a16_75), (kR a19_75), (kR a22_75), (kR a25_75), (kR a28_75), (kR a31_75), (kR a34_75), (kR a37_75), (kR a40_75), (kR a43_75), (kI 0), .null, (kI 0), .null, .null, .null, .null, .null, .null, (kI 0), (kI 0)]), (a71, Ar Z .int 0 zI), (a63, Ar Z .double 3 (upd (upd (upd zD 0 (kD dw0)) 1 (kD dw1)) 2 (kD dw2))), (a53, Ar Z .double 3 gy), (a2, Ar Z .double 8 gv)] := Wo.pick W86 [0, 3, 5, 4, 1, 2, 6, 7, 8, 9, 10, 11, 12, 13, 14, 15, 16, 17, 18, 19, 20, 21, 22, 23, 24, 25, 26] 27 (by decide +kernel) rfl
  obtain ⟨cq89, kq89, q89a, q89b, q89c⟩ := isOf hZ (rfl : T86.heap = T86.heap) (W88.exa (i := 0) rfl)
  obtain ⟨_, _, ⟨T89, L89, k89, n89⟩, -, X89, ⟨Lc89, hQ89, l89, y89, z89⟩, st89⟩ := X86.virtualBack hx (y := y_am) (z := y_am) hown (mvT hZ (hw _ (mi 91 rfl))) (mvT hZ (hw _ (mi 92 rfl))) (notFace_of_selects (args := #[]) (mvT hZ (hw _ (mi 94 rfl)))) (mvT hZ (hw _ (mi 94 rfl))) (mvT hZ (hw _ (mi 93 rfl))) (by decide) (backOf (W := 0) (rmAM1 l Z a0 hw [] a77 a4_79 a7_79 a10_79 a13_79 a16_79 a19_79 a22_79 a53 (Int32.ofNat u) (Int32.ofNat sa0) du0 (upd zI 0 (kI 0)) zI zD ((a4_79, Ar Z .int 2 (upd zI 0 (kI 0))) :: (a10_79, Ar Z .int 2 (upd zI 0 (kI 0))) :: (a13_79, Ar Z .int 2 zI) :: (a7_79, Ar Z .int 2 zI) :: (a43_75, Ar Z .double 64 zD) :: (a40_75, Ar Z .int 64 zI) :: (a37_75, Ar Z .int 16 zI) :: (a34_75, Ar Z .int 16 zI) :: (a31_75, Ar Z .int 17 zI) :: (a28_75, Ar Z .int 17 zI) :: (a25_75, Ar Z .int 17 zI) :: (a22_75, Ar Z .int 17 zI) :: (a19_75, Ar Z .int 16 zI) :: (a16_75, Ar Z .int 17 zI) :: (a13_75, Ar Z .int 17 zI) :: (a10_75, Ar Z .int 16 zI) :: (a7_75, Ar Z .int 0 zI) :: (a4_75, Ar Z .int 0 zI) :: (a73, oR Z [(kR a4_75), (kR a7_75), (kR a10_75), (kR a13_75), (kR a16_75), (kR a19_75), (kR a22_75), (kR a25_75), (kR a28_75), (kR a31_75), (kR a34_75), (kR a37_75), (kR a40_75), (kR a43_75), (kI 0), .null, (kI 0), .null, .null, .null, .null, .null, .null, (kI 0), (kI 0)]) :: (a71, Ar Z .int 0 zI) :: (a63, Ar Z .double 3 (upd (upd (upd zD 0 (kD dw0)) 1 (kD dw1)) 2 (kD dw2))) :: (a53, Ar Z .double 3 gy) :: (a2, Ar Z .double 8 gv) :: []) T86.heap n0 W88 rfl) hZ (hw _ (mi 95 rfl)) (hw _ (mi 44 rfl)) (by decide) (by decide)) q89a q89c (g := K87.g) rfl (by rw [hml]; rfl) (Steps.refl _) (argsL := [(.int (Int32.ofNat sa0)), (.double du0)]) (rest := []) (lenOf pd_am rfl) rfl (by show 2 * 0 + _ ≤ _; exact Nat.le_of_eq rfl) (hb hby at_390) (fun _ _ => ⟨rfl, (rfl : T86.heap = T86.heap), (by decide : 27 + 0 ≤ _), (by decide : 371 + 0 ≤ _)⟩)
  dsimp only [Pt.U, Pt.locs, Pt.cells, Pt.slots] at X89 l89 y89 z89 st89 hQ89
  subst l89 y89 z89
  obtain ⟨rfl, N89q, W89⟩ := hQ89
  have N89 := Fr.app N86 N89q
  have K90 : Rc K0 T89 (mkF m 400 #[sJ p1, sV, sJ p2, sV, sI p3, sI p4, sR a2, sD du0, sV, sD du1, sV, sD du2, sV, sD dw0, sV, sD dw1, sV, sD dw2, sV, sI (Int32.ofNat sa0), sI (Int32.ofNat sa1), sI (Int32.ofNat sa2), sI (Int32.ofNat md), sI (Int32.ofNat vc), sI (Int32.ofNat ch), sI (own_bi lbt), sI (own_bi hbt), sR a53, sR a63, sR a71, sR a73, sR a77, sU, sU, sU, sU, sU, sU, sU] [(kD du1), (kI (Int32.ofNat sa1)), (kR a77)]) := fun t k => K87 t (st89.trans (by
    refine XS.pop X89.here hx rfl (hb hby at_393) rfl rfl ?_
    refine XS.aload X89.here hx rfl (hb hby at_394) rfl rfl ?_
    refine XS.iload X89.here hx rfl (hb hby at_396) rfl ?_
    refine XS.dload X89.here hx rfl (hb hby at_398) rfl ?_
    exact k))
  obtain ⟨cq91, kq91, q91a, q91b, q91c⟩ := isOf hZ (rfl : T89.heap = T89.heap) (W89.exa (i := 0) rfl)
  obtain ⟨_, _, ⟨T91, L91, k91, n91⟩, -, X91, ⟨Lc91, hQ91, l91, y91, z91⟩, st91⟩ := X89.virtualBack hx (y := y_am) (z := y_am) hown (mvT hZ (hw _ (mi 91 rfl))) (mvT hZ (hw _ (mi 92 rfl))) (notFace_of_selects (args := #[]) (mvT hZ (hw _ (mi 94 rfl)))) (mvT hZ (hw _ (mi 94 rfl))) (mvT hZ (hw _ (mi 93 rfl))) (by decide) (backOf (W := 0) (rmAM2 l Z a0 hw [] a77 a4_79 a7_79 a10_79 a13_79 a16_79 a19_79 a22_79 a53 (Int32.ofNat u) (Int32.ofNat sa0) (Int32.ofNat sa1) du0 du1 (upd zI 0 (kI 0)) (upd zI 0 (kI (Int32.ofNat sa0))) (upd zD 0 (kD du0)) ((a4_79, Ar Z .int 2 (upd zI 0 (kI 0))) :: (a10_79, Ar Z .int 2 (upd zI 0 (kI 0))) :: (a13_79, Ar Z .int 2 zI) :: (a7_79, Ar Z .int 2 zI) :: (a43_75, Ar Z .double 64 zD) :: (a40_75, Ar Z .int 64 zI) :: (a37_75, Ar Z .int 16 zI) :: (a34_75, Ar Z .int 16 zI) :: (a31_75, Ar Z .int 17 zI) :: (a28_75, Ar Z .int 17 zI) :: (a25_75, Ar Z .int 17 zI) :: (a22_75, Ar Z .int 17 zI) :: (a19_75, Ar Z .int 16 zI) :: (a16_75, Ar Z .int 17 zI) :: (a13_75, Ar Z .int 17 zI) :: (a10_75, Ar Z .int 16 zI) :: (a7_75, Ar Z .int 0 zI) :: (a4_75, Ar Z .int 0 zI) :: (a73, oR Z [(kR a4_75), (kR a7_75), (kR a10_75), (kR a13_75), (kR a16_75), (kR a19_75), (kR a22_75), (kR a25_75), (kR a28_75), (kR a31_75), (kR a34_75), (kR a37_75), (kR a40_75), (kR a43_75), (kI 0), .null, (kI 0), .null, .null, .null, .null, .null, .null, (kI 0), (kI 0)]) :: (a71, Ar Z .int 0 zI) :: (a63, Ar Z .double 3 (upd (upd (upd zD 0 (kD dw0)) 1 (kD dw1)) 2 (kD dw2))) :: (a53, Ar Z .double 3 gy) :: (a2, Ar Z .double 8 gv) :: []) T89.heap n0 W89 rfl rfl rfl (Jvm.OwnFp.Sx.nn (Jvm.OwnFp.Sx.add hdu0 hdu1 (by decide)))) hZ (hw _ (mi 95 rfl)) (hw _ (mi 44 rfl)) (by decide) (by decide)) q91a q91c (g := K90.g) rfl (by rw [hml]; rfl) (Steps.refl _) (argsL := [(.int (Int32.ofNat sa1)), (.double du1)]) (rest := []) (lenOf pd_am rfl) rfl (by show 2 * 0 + _ ≤ _; exact Nat.le_of_eq rfl) (hb hby at_400) (fun _ _ => ⟨rfl, (rfl : T89.heap = T89.heap), (by decide : 27 + 0 ≤ _), (by decide : 371 + 0 ≤ _)⟩)
  dsimp only [Pt.U, Pt.locs, Pt.cells, Pt.slots] at X91 l91 y91 z91 st91 hQ91
  subst l91 y91 z91
  obtain ⟨zq91, tq91, fs91, fp91, rfl, N91q, W91, hmv91⟩ := hQ91
  have N91 := Fr.app N89 N91q
  have K92 : Rc K0 T91 (mkF m 403 #[sJ p1, sV, sJ p2, sV, sI p3, sI p4, sR a2, sD du0, sV, sD du1, sV, sD du2, sV, sD dw0, sV, sD dw1, sV, sD dw2, sV, sI (Int32.ofNat sa0), sI (Int32.ofNat sa1), sI (Int32.ofNat sa2), sI (Int32.ofNat md), sI (Int32.ofNat vc), sI (Int32.ofNat ch), sI (own_bi lbt), sI (own_bi hbt), sR a53, sR a63, sR a71, sR a73, sR a77, sU, sU, sU, sU, sU, sU, sU] [(kI zq91)]) := fun t k => K90 t (st91.trans (k))
  obtain ⟨ht1, ht2⟩ := own_mvb hmv91
  have K93 : Rc K0 T91 (mkF m 406 #[sJ p1, sV, sJ p2, sV, sI p3, sI p4, sR a2, sD du0, sV, sD du1, sV, sD du2, sV, sD dw0, sV, sD dw1, sV, sD dw2, sV, sI (Int32.ofNat sa0), sI (Int32.ofNat sa1), sI (Int32.ofNat sa2), sI (Int32.ofNat md), sI (Int32.ofNat vc), sI (Int32.ofNat ch), sI (own_bi lbt), sI (own_bi hbt), sR a53, sR a63, sR a71, sR a73, sR a77, sU, sU, sU, sU, sU, sU, sU] [(kR a77)]) := fun t k => K92 t (by
    refine XS.pop X91.here hx rfl (hb hby at_403) rfl rfl ?_
    refine XS.aload X91.here hx rfl (hb hby at_404) rfl rfl ?_
    exact k)
  have W94 : Wo n0 T91.heap [(a77, oB Z [.null, (kI 0), (kR a53), (kI (Int32.ofNat u)), (kR a4_79), (kR a7_79), (kR a10_79), (kR a13_79), (kR a16_79), (kR a19_79), (kR a22_79), (kI 1), (kI 0), (kI 0), (kI (Int32.ofNat tq91)), .null]), (a4_79, Ar Z .int 2 (upd zI 0 (kI 0))), (a10_79, Ar Z .int 2 (upd zI 0 (kI 0))), (a16_79, Ar Z .int 2 (upd zI 0 (kI 0))), (a19_79, Ar Z .int 4 fs91), (a22_79, Ar Z .double 4 fp91), (a13_79, Ar Z .int 2 zI), (a7_79, Ar Z .int 2 zI), (a43_75, Ar Z .double 64 zD), (a40_75, Ar Z .int 64 zI), (a37_75, Ar Z .int 16 zI), (a34_75, Ar Z .int 16 zI), (a31_75, Ar Z .int 17 zI), (a28_75, Ar Z .int 17 zI), (a25_75, Ar Z .int 17 zI), (a22_75, Ar Z .int 17 zI), (a19_75, Ar Z .int 16 zI), (a16_75, Ar Z .int 17 zI), (a13_75, Ar Z .int 17 zI), (a10_75, Ar Z .int 16 zI), (a7_75, Ar Z .int 0 zI), (a4_75, Ar Z .int 0 zI), (a73, oR Z [(kR a4_75), (kR a7_75), (kR a10_75), (kR a13_75), (kR a16_75), (kR a19_75), (kR a22_75), (kR a25_75), (kR a28_75), (kR a31_75), (kR a34_75), (kR a37_75), (kR a40_75), (kR a43_75), (kI 0), .null, (kI 0), .null, .null, .null, .null, .null, .null, (kI 0), (kI 0)]), (a71, Ar Z .int 0 zI), (a63, Ar Z .double 3 (upd (upd (upd zD 0 (kD dw0)) 1 (kD dw1)) 2 (kD dw2))), (a53, Ar Z .double 3 gy), (a2, Ar Z .double 8 gv)] := Wo.pick W91 [0, 4, 5, 1, 2, 3, 6, 7, 8, 9, 10, 11, 12, 13, 14, 15, 16, 17, 18, 19, 20, 21, 22, 23, 24, 25, 26] 27 (by decide +kernel) rfl
  obtain ⟨cq95, kq95, q95a, q95b, q95c⟩ := isOf hZ (rfl : T91.heap = T91.heap) (W94.exa (i := 0) rfl)
  obtain ⟨_, _, ⟨T95, L95, k95, n95⟩, -, X95, ⟨Lc95, hQ95, l95, y95, z95⟩, st95⟩ := X91.virtualBack hx (y := y_sc) (z := y_sc) hown (mvT hZ (hw _ (mi 86 rfl))) (mvT hZ (hw _ (mi 87 rfl))) (notFace_of_selects (args := #[]) (mvT hZ (hw _ (mi 89 rfl)))) (mvT hZ (hw _ (mi 89 rfl))) (mvT hZ (hw _ (mi 88 rfl))) (by decide) (backOf (W := 0) (rmSC1 l Z a0 hw [] a77 a4_79 a7_79 a10_79 a13_79 a16_79 a19_79 a22_79 a53 (Int32.ofNat u) (Int32.ofNat tq91) (upd zI 0 (kI 0)) (upd zI 0 (kI 0)) (upd zI 0 (kI 0)) ((a19_79, Ar Z .int 4 fs91) :: (a22_79, Ar Z .double 4 fp91) :: (a13_79, Ar Z .int 2 zI) :: (a7_79, Ar Z .int 2 zI) :: (a43_75, Ar Z .double 64 zD) :: (a40_75, Ar Z .int 64 zI) :: (a37_75, Ar Z .int 16 zI) :: (a34_75, Ar Z .int 16 zI) :: (a31_75, Ar Z .int 17 zI) :: (a28_75, Ar Z .int 17 zI) :: (a25_75, Ar Z .int 17 zI) :: (a22_75, Ar Z .int 17 zI) :: (a19_75, Ar Z .int 16 zI) :: (a16_75, Ar Z .int 17 zI) :: (a13_75, Ar Z .int 17 zI) :: (a10_75, Ar Z .int 16 zI) :: (a7_75, Ar Z .int 0 zI) :: (a4_75, Ar Z .int 0 zI) :: (a73, oR Z [(kR a4_75), (kR a7_75), (kR a10_75), (kR a13_75), (kR a16_75), (kR a19_75), (kR a22_75), (kR a25_75), (kR a28_75), (kR a31_75), (kR a34_75), (kR a37_75), (kR a40_75), (kR a43_75), (kI 0), .null, (kI 0), .null, .null, .null, .null, .null, .null, (kI 0), (kI 0)]) :: (a71, Ar Z .int 0 zI) :: (a63, Ar Z .double 3 (upd (upd (upd zD 0 (kD dw0)) 1 (kD dw1)) 2 (kD dw2))) :: (a53, Ar Z .double 3 gy) :: (a2, Ar Z .double 8 gv) :: []) T91.heap n0 W94) hZ (hw _ (mi 90 rfl)) (hw _ (mi 44 rfl)) (by decide) (by decide)) q95a q95c (g := K93.g) rfl (by rw [hml]; rfl) (Steps.refl _) (argsL := []) (rest := []) (lenOf pd_sc rfl) rfl (by show 2 * 0 + _ ≤ _; exact Nat.le_of_eq rfl) (hb hby at_406) (fun _ _ => ⟨rfl, (rfl : T91.heap = T91.heap), (by decide : 27 + 0 ≤ _), (by decide : 371 + 0 ≤ _)⟩)
  dsimp only [Pt.U, Pt.locs, Pt.cells, Pt.slots] at X95 l95 y95 z95 st95 hQ95
  subst l95 y95 z95
  obtain ⟨rfl, N95q, W95⟩ := hQ95
  have N95 := Fr.app N91 N95q
  have K96 : Rc K0 T95 (mkF m 409 #[sJ p1, sV, sJ p2, sV, sI p3, sI p4, sR a2, sD du0, sV, sD du1, sV, sD du2, sV, sD dw0, sV, sD dw1, sV, sD dw2, sV, sI (Int32.ofNat sa0), sI (Int32.ofNat sa1), sI (Int32.ofNat sa2), sI (Int32.ofNat md), sI (Int32.ofNat vc), sI (Int32.ofNat ch), sI (own_bi lbt), sI (own_bi hbt), sR a53, sR a63, sR a71, sR a73, sR a77, sU, sU, sU, sU, sU, sU, sU] []) := fun t k => K93 t (st95.trans (k))
  have W97 : Wo n0 T95.heap [(a77, oB Z [.null, (kI 0), (kR a53), (kI (Int32.ofNat u)), (kR a4_79), (kR a7_79), (kR a10_79), (kR a13_79), (kR a16_79), (kR a19_79), (kR a22_79), (kI 2), (kI 0), (kI 0), (kI (Int32.ofNat tq91)), .null]), (a16_79, Ar Z .int 2 (upd (upd zI 0 (kI 0)) 1 (kI (Int32.ofNat tq91)))), (a19_79, Ar Z .int 4 fs91), (a22_79, Ar Z .double 4 fp91), (a4_79, Ar Z .int 2 (upd (upd zI 0 (kI 0)) 1 (kI 0))), (a10_79, Ar Z .int 2 (upd (upd zI 0 (kI 0)) 1 (kI 0))), (a13_79, Ar Z .int 2 zI), (a7_79, Ar Z .int 2 zI), (a43_75, Ar Z .double 64 zD), (a40_75, Ar Z .int 64 zI), (a37_75, Ar Z .int 16 zI), (a34_75, Ar Z .int 16 zI), (a31_75, Ar Z .int 17 zI), (a28_75, Ar Z .int 17 zI), (a25_75, Ar Z .int 17 zI), (a22_75, Ar Z .int 17 zI), (a19_75, Ar Z .int 16 zI), (a16_75, Ar Z .int 17 zI), (a13_75, Ar Z .int 17 zI), (a10_75, Ar Z .int 16 zI), (a7_75, Ar Z .int 0 zI), (a4_75, Ar Z .int 0 zI), (a73, oR Z [(kR a4_75), (kR a7_75), (kR a10_75), (kR a13_75), (kR a16_75), (kR a19_75), (kR a22_75), (kR a25_75), (kR a28_75), (kR a31_75), (kR a34_75), (kR a37_75), (kR a40_75), (kR a43_75), (kI 0), .null, (kI 0), .null, .null, .null, .null, .null, .null, (kI 0), (kI 0)]), (a71, Ar Z .int 0 zI), (a63, Ar Z .double 3 (upd (upd (upd zD 0 (kD dw0)) 1 (kD dw1)) 2 (kD dw2))), (a53, Ar Z .double 3 gy), (a2, Ar Z .double 8 gv)] := Wo.pick W95 [0, 3, 4, 5, 1, 2, 6, 7, 8, 9, 10, 11, 12, 13, 14, 15, 16, 17, 18, 19, 20, 21, 22, 23, 24, 25, 26] 27 (by decide +kernel) rfl
  obtain ⟨T98, L98, t2, fz, gz, X98, N98, W98, K98, hh2⟩ := tnH a77 a4_79 a7_79 a10_79 a13_79 a16_79 a19_79 a22_79 a53 (Int32.ofNat u) (Int32.ofNat sa2) du2 hbt tq91 (upd (upd zI 0 (kI 0)) 1 (kI (Int32.ofNat tq91))) fs91 fp91 (.val (.long p1)) (.second) (.val (.long p2)) (.second) (.val (.int p3)) (.val (.int p4)) (.val (.ref a2)) (.val (.double du0)) (.second) (.val (.double du1)) (.second) (.val (.double dw0)) (.second) (.val (.double dw1)) (.second) (.val (.double dw2)) (.second) (.val (.int (Int32.ofNat sa0))) (.val (.int (Int32.ofNat sa1))) (.val (.int (Int32.ofNat md))) (.val (.int (Int32.ofNat vc))) (.val (.int (Int32.ofNat ch))) (.val (.int (own_bi lbt))) (.val (.ref a53)) (.val (.ref a63)) (.val (.ref a71)) (.val (.ref a73)) (.unset) (.unset) (.unset) (.unset) (.unset) (.unset) (.unset) ((a4_79, Ar Z .int 2 (upd (upd zI 0 (kI 0)) 1 (kI 0))) :: (a10_79, Ar Z .int 2 (upd (upd zI 0 (kI 0)) 1 (kI 0))) :: (a13_79, Ar Z .int 2 zI) :: (a7_79, Ar Z .int 2 zI) :: (a43_75, Ar Z .double 64 zD) :: (a40_75, Ar Z .int 64 zI) :: (a37_75, Ar Z .int 16 zI) :: (a34_75, Ar Z .int 16 zI) :: (a31_75, Ar Z .int 17 zI) :: (a28_75, Ar Z .int 17 zI) :: (a25_75, Ar Z .int 17 zI) :: (a22_75, Ar Z .int 17 zI) :: (a19_75, Ar Z .int 16 zI) :: (a16_75, Ar Z .int 17 zI) :: (a13_75, Ar Z .int 17 zI) :: (a10_75, Ar Z .int 16 zI) :: (a7_75, Ar Z .int 0 zI) :: (a4_75, Ar Z .int 0 zI) :: (a73, oR Z [(kR a4_75), (kR a7_75), (kR a10_75), (kR a13_75), (kR a16_75), (kR a19_75), (kR a22_75), (kR a25_75), (kR a28_75), (kR a31_75), (kR a34_75), (kR a37_75), (kR a40_75), (kR a43_75), (kI 0), .null, (kI 0), .null, .null, .null, .null, .null, .null, (kI 0), (kI 0)]) :: (a71, Ar Z .int 0 zI) :: (a63, Ar Z .double 3 (upd (upd (upd zD 0 (kD dw0)) 1 (kD dw1)) 2 (kD dw2))) :: (a53, Ar Z .double 3 gy) :: (a2, Ar Z .double 8 gv) :: []) X95 hx hZ hw hby hml hown (rfl : T95.heap = T95.heap) W97 N95 (by decide : 27 + 0 ≤ _) (by decide : 371 + 0 ≤ _) ht2 rfl K96
  obtain ⟨ht3, ht4⟩ := own_h2b hh2
  obtain ⟨Sq, wq, hBl, hCh⟩ := own_bld (f6 := (upd zI 0 (kI (Int32.ofNat sa0)))) (f7 := (upd zD 0 (kD du0))) rfl rfl hsa0 hsa1 hsa2 hdu0 hdu1 hdu2 hmv91 hh2
  by_cases hm : md < 2
  · have hmb := hm
    have K99 : Rc K0 T98 (mkF m 431 #[sJ p1, sV, sJ p2, sV, sI p3, sI p4, sR a2, sD du0, sV, sD du1, sV, sD du2, sV, sD dw0, sV, sD dw1, sV, sD dw2, sV, sI (Int32.ofNat sa0), sI (Int32.ofNat sa1), sI (Int32.ofNat sa2), sI (Int32.ofNat md), sI (Int32.ofNat vc), sI (Int32.ofNat ch), sI (own_bi lbt), sI (own_bi hbt), sR a53, sR a63, sR a71, sR a73, sR a77, sU, sU, sU, sU, sU, sU, sU] [(kI (-1)), (kR a71), (kR a77), (kR a73)]) := fun t k => K98 t (by
      refine XS.aload X98.here hx rfl (hb hby at_424) rfl rfl ?_
      refine XS.aload X98.here hx rfl (hb hby at_426) rfl rfl ?_
      refine XS.aload X98.here hx rfl (hb hby at_428) rfl rfl ?_
      refine XS.iconst X98.here hx rfl (hb hby at_430) ?_
      exact k)
    have W100 : Wo n0 T98.heap [(a73, oR Z [(kR a4_75), (kR a7_75), (kR a10_75), (kR a13_75), (kR a16_75), (kR a19_75), (kR a22_75), (kR a25_75), (kR a28_75), (kR a31_75), (kR a34_75), (kR a37_75), (kR a40_75), (kR a43_75), (kI 0), .null, (kI 0), .null, .null, .null, .null, .null, .null, (kI 0), (kI 0)]), (a77, oB Z [.null, (kI 0), (kR a53), (kI (Int32.ofNat u)), (kR a4_79), (kR a7_79), (kR a10_79), (kR a13_79), (kR a16_79), (kR a19_79), (kR a22_79), (kI 2), (kI 0), (kI 0), (kI (Int32.ofNat t2)), .null]), (a4_75, Ar Z .int 0 zI), (a7_75, Ar Z .int 0 zI), (a10_75, Ar Z .int 16 zI), (a13_75, Ar Z .int 17 zI), (a16_75, Ar Z .int 17 zI), (a19_75, Ar Z .int 16 zI), (a22_75, Ar Z .int 17 zI), (a25_75, Ar Z .int 17 zI), (a28_75, Ar Z .int 17 zI), (a31_75, Ar Z .int 17 zI), (a34_75, Ar Z .int 16 zI), (a37_75, Ar Z .int 16 zI), (a40_75, Ar Z .int 64 zI), (a43_75, Ar Z .double 64 zD), (a4_79, Ar Z .int 2 (upd (upd zI 0 (kI 0)) 1 (kI 0))), (a10_79, Ar Z .int 2 (upd (upd zI 0 (kI 0)) 1 (kI 0))), (a16_79, Ar Z .int 2 (upd (upd zI 0 (kI 0)) 1 (kI (Int32.ofNat tq91)))), (a7_79, Ar Z .int 2 zI), (a13_79, Ar Z .int 2 zI), (a19_79, Ar Z .int 4 fz), (a22_79, Ar Z .double 4 gz), (a71, Ar Z .int 0 zI), (a53, Ar Z .double 3 gy), (a63, Ar Z .double 3 (upd (upd (upd zD 0 (kD dw0)) 1 (kD dw1)) 2 (kD dw2))), (a2, Ar Z .double 8 gv)] := Wo.pick W98 [22, 0, 21, 20, 19, 18, 17, 16, 15, 14, 13, 12, 11, 10, 9, 8, 4, 5, 1, 7, 6, 2, 3, 23, 25, 24, 26] 27 (by decide +kernel) rfl
    obtain ⟨cq101, kq101, q101a, q101b, q101c⟩ := isOf hZ (rfl : T98.heap = T98.heap) (W100.exa (i := 0) rfl)
    obtain ⟨_, _, ⟨T101, L101, k101, n101⟩, -, X101, ⟨Lc101, hQ101, l101, y101, z101⟩, st101⟩ := X98.virtualBack hx (y := y_add) (z := y_add) hown (mvT hZ (hw _ (mi 96 rfl))) (mvT hZ (hw _ (mi 97 rfl))) (notFace_of_selects (args := #[]) (mvT hZ (hw _ (mi 99 rfl)))) (mvT hZ (hw _ (mi 99 rfl))) (mvT hZ (hw _ (mi 98 rfl))) (by decide) (backOf (W := 0) (rmADF l Z a0 hw [] a73 a4_75 a7_75 a10_75 a13_75 a16_75 a19_75 a22_75 a25_75 a28_75 a31_75 a34_75 a37_75 a40_75 a43_75 a77 a4_79 a7_79 a10_79 a13_79 a16_79 a19_79 a22_79 a71 a53 u tq91 t2 zI zI zI zI zI zI zI zI zI zI zI zI zI zD (upd (upd zI 0 (kI 0)) 1 (kI 0)) (upd (upd zI 0 (kI 0)) 1 (kI 0)) (upd (upd zI 0 (kI 0)) 1 (kI (Int32.ofNat tq91))) zI zI fz gz zI gy ((a63, Ar Z .double 3 (upd (upd (upd zD 0 (kD dw0)) 1 (kD dw1)) 2 (kD dw2))) :: (a2, Ar Z .double 8 gv) :: []) T98.heap n0 W100 (hu0 hm) (by omega) rfl rfl rfl rfl rfl rfl rfl rfl rfl rfl rfl rfl) hZ (hw _ (mi 100 rfl)) (hw _ (mi 7 rfl)) (by decide) (by decide)) q101a q101c (g := K99.g) rfl (by rw [hml]; rfl) (Steps.refl _) (argsL := [(.ref a77), (.ref a71), (.int (-1 : Int32))]) (rest := []) (lenOf pd_add rfl) rfl (by show 2 * 0 + _ ≤ _; exact Nat.le_of_eq rfl) (hb hby at_431) (fun _ _ => ⟨rfl, (rfl : T98.heap = T98.heap), (by decide : 27 + 0 ≤ _), (by decide : 371 + 0 ≤ _)⟩)
    dsimp only [Pt.U, Pt.locs, Pt.cells, Pt.slots] at X101 l101 y101 z101 st101 hQ101
    subst l101 y101 z101
    obtain ⟨rfl, N101q, W101⟩ := hQ101
    have N101 := Fr.app N98 N101q
    have K102 : Rc K0 T101 (mkF m 442 #[sJ p1, sV, sJ p2, sV, sI p3, sI p4, sR a2, sD du0, sV, sD du1, sV, sD du2, sV, sD dw0, sV, sD dw1, sV, sD dw2, sV, sI (Int32.ofNat sa0), sI (Int32.ofNat sa1), sI (Int32.ofNat sa2), sI (Int32.ofNat md), sI (Int32.ofNat vc), sI (Int32.ofNat ch), sI (own_bi lbt), sI (own_bi hbt), sR a53, sR a63, sR a71, sR a73, sR a77, sI 0, sI 0, sU, sU, sU, sU, sU] [(kI 1), (kI (Int32.ofNat md))]) := fun t k => K99 t (st101.trans (by
      refine XS.istore X101.here hx rfl (hb hby at_434) rfl (l' := #[sJ p1, sV, sJ p2, sV, sI p3, sI p4, sR a2, sD du0, sV, sD du1, sV, sD du2, sV, sD dw0, sV, sD dw1, sV, sD dw2, sV, sI (Int32.ofNat sa0), sI (Int32.ofNat sa1), sI (Int32.ofNat sa2), sI (Int32.ofNat md), sI (Int32.ofNat vc), sI (Int32.ofNat ch), sI (own_bi lbt), sI (own_bi hbt), sR a53, sR a63, sR a71, sR a73, sR a77, sI 0, sU, sU, sU, sU, sU, sU]) rfl ?_
      refine XS.iconst X101.here hx rfl (hb hby at_436) ?_
      refine XS.istore X101.here hx rfl (hb hby at_437) rfl (l' := #[sJ p1, sV, sJ p2, sV, sI p3, sI p4, sR a2, sD du0, sV, sD du1, sV, sD du2, sV, sD dw0, sV, sD dw1, sV, sD dw2, sV, sI (Int32.ofNat sa0), sI (Int32.ofNat sa1), sI (Int32.ofNat sa2), sI (Int32.ofNat md), sI (Int32.ofNat vc), sI (Int32.ofNat ch), sI (own_bi lbt), sI (own_bi hbt), sR a53, sR a63, sR a71, sR a73, sR a77, sI 0, sI 0, sU, sU, sU, sU, sU]) rfl ?_
      refine XS.iload X101.here hx rfl (hb hby at_439) rfl ?_
      refine XS.iconst X101.here hx rfl (hb hby at_441) ?_
      exact k))
    by_cases h1 : md = 1
    · have h1b := h1
      have K103 : Rc K0 T101 (mkF m 453 #[sJ p1, sV, sJ p2, sV, sI p3, sI p4, sR a2, sD du0, sV, sD du1, sV, sD du2, sV, sD dw0, sV, sD dw1, sV, sD dw2, sV, sI (Int32.ofNat sa0), sI (Int32.ofNat sa1), sI (Int32.ofNat sa2), sI (Int32.ofNat md), sI (Int32.ofNat vc), sI (Int32.ofNat ch), sI (own_bi lbt), sI (own_bi hbt), sR a53, sR a63, sR a71, sR a73, sR a77, sI 0, sI 0, sU, sU, sU, sU, sU] [(kI (Int32.ofNat vc)), (kR a53), (kI 0), .null, (kR a77)]) := fun t k => K102 t (by
        refine XS.icmpNo X101.here hx rfl (hb hby at_442) rfl (teq (show Int32.ofNat md = 1 from congrArg Int32.ofNat h1)).2 ?_
        refine XS.aload X101.here hx rfl (hb hby at_445) rfl rfl ?_
        refine XS.aconstNull X101.here hx rfl (hb hby at_447) ?_
        refine XS.iconst X101.here hx rfl (hb hby at_448) ?_
        refine XS.aload X101.here hx rfl (hb hby at_449) rfl rfl ?_
        refine XS.iload X101.here hx rfl (hb hby at_451) rfl ?_
        exact k)
      have W104 : Wo n0 T101.heap [(a77, oB Z [.null, (kI 0), (kR a53), (kI (Int32.ofNat u)), (kR a4_79), (kR a7_79), (kR a10_79), (kR a13_79), (kR a16_79), (kR a19_79), (kR a22_79), (kI 2), (kI 0), (kI 0), (kI (Int32.ofNat t2)), .null]), (a73, oR Z [(kR a4_75), (kR a7_75), (kR a10_75), (kR a13_75), (kR a16_75), (kR a19_75), (kR a22_75), (kR a25_75), (kR a28_75), (kR a31_75), (kR a34_75), (kR a37_75), (kR a40_75), (kR a43_75), (kI 1), .null, (kI 1), .null, .null, .null, .null, .null, .null, (kI 0), (kI 0)]), (a4_75, Ar Z .int 0 zI), (a7_75, Ar Z .int 0 (cpy zI zI 0 0 0)), (a10_75, Ar Z .int 16 (upd zI 0 (kI (-1)))), (a13_75, Ar Z .int 17 (upd zI 1 (kI 2))), (a16_75, Ar Z .int 17 (upd zI 1 (kI 0))), (a19_75, Ar Z .int 16 (upd zI 0 (kI (-1)))), (a22_75, Ar Z .int 17 (upd zI 1 (kI 0))), (a25_75, Ar Z .int 17 (upd (upd (upd zI 0 (kI 0)) 1 (kI 0)) 2 (kI 0))), (a28_75, Ar Z .int 17 (upd (upd (upd zI 0 (kI 0)) 1 (kI 0)) 2 (kI 0))), (a31_75, Ar Z .int 17 (upd (upd (upd zI 0 (kI 0)) 1 (kI (Int32.ofNat tq91))) 2 (kI (Int32.ofNat t2)))), (a34_75, Ar Z .int 16 (cpy zI zI 0 0 0)), (a37_75, Ar Z .int 16 (cpy zI zI 0 0 0)), (a40_75, Ar Z .int 64 (cpy fz zI 0 0 t2)), (a43_75, Ar Z .double 64 (cpy gz zD 0 0 t2)), (a4_79, Ar Z .int 2 (upd (upd zI 0 (kI 0)) 1 (kI 0))), (a10_79, Ar Z .int 2 (upd (upd zI 0 (kI 0)) 1 (kI 0))), (a16_79, Ar Z .int 2 (upd (upd zI 0 (kI 0)) 1 (kI (Int32.ofNat tq91)))), (a7_79, Ar Z .int 2 zI), (a13_79, Ar Z .int 2 zI), (a19_79, Ar Z .int 4 fz), (a22_79, Ar Z .double 4 gz), (a71, Ar Z .int 0 zI), (a53, Ar Z .double 3 gy), (a63, Ar Z .double 3 (upd (upd (upd zD 0 (kD dw0)) 1 (kD dw1)) 2 (kD dw2))), (a2, Ar Z .double 8 gv)] := Wo.pick W101 [1, 0, 2, 3, 4, 5, 6, 7, 8, 9, 10, 11, 12, 13, 14, 15, 16, 17, 18, 19, 20, 21, 22, 23, 24, 25, 26] 27 (by decide +kernel) rfl
      obtain ⟨cq105, kq105, q105a, q105b, q105c⟩ := isOf hZ (rfl : T101.heap = T101.heap) (W104.exa (i := 0) rfl)
      obtain ⟨_, _, ⟨T105, L105, k105, n105⟩, -, X105, ⟨Lc105, hQ105, l105, y105, z105⟩, st105⟩ := X101.virtualBack hx (y := y_st) (z := y_st) hown (mvT hZ (hw _ (mi 63 rfl))) (mvT hZ (hw _ (mi 64 rfl))) (notFace_of_selects (args := #[]) (mvT hZ (hw _ (mi 66 rfl)))) (mvT hZ (hw _ (mi 66 rfl))) (mvT hZ (hw _ (mi 65 rfl))) (by decide) (backOf (W := 0) (rmSTv l Z a0 hw [] a77 a4_79 a7_79 a10_79 a13_79 a16_79 a19_79 a22_79 (2 : Int32) (Int32.ofNat t2) a53 (Int32.ofNat vc) a53 (Int32.ofNat u) ((a73, oR Z [(kR a4_75), (kR a7_75), (kR a10_75), (kR a13_75), (kR a16_75), (kR a19_75), (kR a22_75), (kR a25_75), (kR a28_75), (kR a31_75), (kR a34_75), (kR a37_75), (kR a40_75), (kR a43_75), (kI 1), .null, (kI 1), .null, .null, .null, .null, .null, .null, (kI 0), (kI 0)]) :: (a4_75, Ar Z .int 0 zI) :: (a7_75, Ar Z .int 0 (cpy zI zI 0 0 0)) :: (a10_75, Ar Z .int 16 (upd zI 0 (kI (-1)))) :: (a13_75, Ar Z .int 17 (upd zI 1 (kI 2))) :: (a16_75, Ar Z .int 17 (upd zI 1 (kI 0))) :: (a19_75, Ar Z .int 16 (upd zI 0 (kI (-1)))) :: (a22_75, Ar Z .int 17 (upd zI 1 (kI 0))) :: (a25_75, Ar Z .int 17 (upd (upd (upd zI 0 (kI 0)) 1 (kI 0)) 2 (kI 0))) :: (a28_75, Ar Z .int 17 (upd (upd (upd zI 0 (kI 0)) 1 (kI 0)) 2 (kI 0))) :: (a31_75, Ar Z .int 17 (upd (upd (upd zI 0 (kI 0)) 1 (kI (Int32.ofNat tq91))) 2 (kI (Int32.ofNat t2)))) :: (a34_75, Ar Z .int 16 (cpy zI zI 0 0 0)) :: (a37_75, Ar Z .int 16 (cpy zI zI 0 0 0)) :: (a40_75, Ar Z .int 64 (cpy fz zI 0 0 t2)) :: (a43_75, Ar Z .double 64 (cpy gz zD 0 0 t2)) :: (a4_79, Ar Z .int 2 (upd (upd zI 0 (kI 0)) 1 (kI 0))) :: (a10_79, Ar Z .int 2 (upd (upd zI 0 (kI 0)) 1 (kI 0))) :: (a16_79, Ar Z .int 2 (upd (upd zI 0 (kI 0)) 1 (kI (Int32.ofNat tq91)))) :: (a7_79, Ar Z .int 2 zI) :: (a13_79, Ar Z .int 2 zI) :: (a19_79, Ar Z .int 4 fz) :: (a22_79, Ar Z .double 4 gz) :: (a71, Ar Z .int 0 zI) :: (a53, Ar Z .double 3 gy) :: (a63, Ar Z .double 3 (upd (upd (upd zD 0 (kD dw0)) 1 (kD dw1)) 2 (kD dw2))) :: (a2, Ar Z .double 8 gv) :: []) T101.heap n0 W104) hZ (hw _ (mi 67 rfl)) (hw _ (mi 44 rfl)) (by decide) (by decide)) q105a q105c (g := K103.g) rfl (by rw [hml]; rfl) (Steps.refl _) (argsL := [.null, (.int (0 : Int32)), (.ref a53), (.int (Int32.ofNat vc))]) (rest := []) (lenOf pd_st rfl) rfl (by show 2 * 0 + _ ≤ _; exact Nat.le_of_eq rfl) (hb hby at_453) (fun _ _ => ⟨rfl, (rfl : T101.heap = T101.heap), (by decide : 27 + 0 ≤ _), (by decide : 371 + 0 ≤ _)⟩)
      dsimp only [Pt.U, Pt.locs, Pt.cells, Pt.slots] at X105 l105 y105 z105 st105 hQ105
      subst l105 y105 z105
      obtain ⟨rfl, N105q, W105⟩ := hQ105
      have N105 := Fr.app N101 N105q
      have K106 : Rc K0 T105 (mkF m 463 #[sJ p1, sV, sJ p2, sV, sI p3, sI p4, sR a2, sD du0, sV, sD du1, sV, sD du2, sV, sD dw0, sV, sD dw1, sV, sD dw2, sV, sI (Int32.ofNat sa0), sI (Int32.ofNat sa1), sI (Int32.ofNat sa2), sI (Int32.ofNat md), sI (Int32.ofNat vc), sI (Int32.ofNat ch), sI (own_bi lbt), sI (own_bi hbt), sR a53, sR a63, sR a71, sR a73, sR a77, sI 0, sI 0, sU, sU, sU, sU, sU] [(kI (-1)), (kR a71), (kR a77), (kR a73)]) := fun t k => K103 t (st105.trans (by
        refine XS.aload X105.here hx rfl (hb hby at_456) rfl rfl ?_
        refine XS.aload X105.here hx rfl (hb hby at_458) rfl rfl ?_
        refine XS.aload X105.here hx rfl (hb hby at_460) rfl rfl ?_
        refine XS.iconst X105.here hx rfl (hb hby at_462) ?_
        exact k))
      have W107 : Wo n0 T105.heap [(a73, oR Z [(kR a4_75), (kR a7_75), (kR a10_75), (kR a13_75), (kR a16_75), (kR a19_75), (kR a22_75), (kR a25_75), (kR a28_75), (kR a31_75), (kR a34_75), (kR a37_75), (kR a40_75), (kR a43_75), (kI 1), .null, (kI 1), .null, .null, .null, .null, .null, .null, (kI 0), (kI 0)]), (a77, oB Z [.null, (kI 0), (kR a53), (kI (Int32.ofNat vc)), (kR a4_79), (kR a7_79), (kR a10_79), (kR a13_79), (kR a16_79), (kR a19_79), (kR a22_79), (kI 0), (kI 0), (kI 0), (kI 0), .null]), (a4_75, Ar Z .int 0 zI), (a7_75, Ar Z .int 0 (cpy zI zI 0 0 0)), (a10_75, Ar Z .int 16 (upd zI 0 (kI (-1)))), (a13_75, Ar Z .int 17 (upd zI 1 (kI 2))), (a16_75, Ar Z .int 17 (upd zI 1 (kI 0))), (a19_75, Ar Z .int 16 (upd zI 0 (kI (-1)))), (a22_75, Ar Z .int 17 (upd zI 1 (kI 0))), (a25_75, Ar Z .int 17 (upd (upd (upd zI 0 (kI 0)) 1 (kI 0)) 2 (kI 0))), (a28_75, Ar Z .int 17 (upd (upd (upd zI 0 (kI 0)) 1 (kI 0)) 2 (kI 0))), (a31_75, Ar Z .int 17 (upd (upd (upd zI 0 (kI 0)) 1 (kI (Int32.ofNat tq91))) 2 (kI (Int32.ofNat t2)))), (a34_75, Ar Z .int 16 (cpy zI zI 0 0 0)), (a37_75, Ar Z .int 16 (cpy zI zI 0 0 0)), (a40_75, Ar Z .int 64 (cpy fz zI 0 0 t2)), (a43_75, Ar Z .double 64 (cpy gz zD 0 0 t2)), (a4_79, Ar Z .int 2 (upd (upd zI 0 (kI 0)) 1 (kI 0))), (a10_79, Ar Z .int 2 (upd (upd zI 0 (kI 0)) 1 (kI 0))), (a16_79, Ar Z .int 2 (upd (upd zI 0 (kI 0)) 1 (kI (Int32.ofNat tq91)))), (a7_79, Ar Z .int 2 zI), (a13_79, Ar Z .int 2 zI), (a19_79, Ar Z .int 4 fz), (a22_79, Ar Z .double 4 gz), (a71, Ar Z .int 0 zI), (a53, Ar Z .double 3 gy), (a63, Ar Z .double 3 (upd (upd (upd zD 0 (kD dw0)) 1 (kD dw1)) 2 (kD dw2))), (a2, Ar Z .double 8 gv)] := Wo.pick W105 [1, 0, 2, 3, 4, 5, 6, 7, 8, 9, 10, 11, 12, 13, 14, 15, 16, 17, 18, 19, 20, 21, 22, 23, 24, 25, 26] 27 (by decide +kernel) rfl
      obtain ⟨cq108, kq108, q108a, q108b, q108c⟩ := isOf hZ (rfl : T105.heap = T105.heap) (W107.exa (i := 0) rfl)
      obtain ⟨_, _, ⟨T108, L108, k108, n108⟩, -, X108, ⟨Lc108, hQ108, l108, y108, z108⟩, st108⟩ := X105.virtualBack hx (y := y_add) (z := y_add) hown (mvT hZ (hw _ (mi 96 rfl))) (mvT hZ (hw _ (mi 97 rfl))) (notFace_of_selects (args := #[]) (mvT hZ (hw _ (mi 99 rfl)))) (mvT hZ (hw _ (mi 99 rfl))) (mvT hZ (hw _ (mi 98 rfl))) (by decide) (backOf (W := 0) (rmADE l Z a0 hw [] a73 a4_75 a7_75 a10_75 a13_75 a16_75 a19_75 a22_75 a25_75 a28_75 a31_75 a34_75 a37_75 a40_75 a43_75 a77 a4_79 a7_79 a10_79 a13_79 a16_79 a19_79 a22_79 a71 a53 vc t2 zI (cpy zI zI 0 0 0) (upd zI 0 (kI (-1))) (upd zI 1 (kI 2)) (upd zI 1 (kI 0)) (upd zI 0 (kI (-1))) (upd zI 1 (kI 0)) (upd (upd (upd zI 0 (kI 0)) 1 (kI 0)) 2 (kI 0)) (upd (upd (upd zI 0 (kI 0)) 1 (kI 0)) 2 (kI 0)) (upd (upd (upd zI 0 (kI 0)) 1 (kI (Int32.ofNat tq91))) 2 (kI (Int32.ofNat t2))) (cpy zI zI 0 0 0) (cpy zI zI 0 0 0) (cpy fz zI 0 0 t2) (cpy gz zD 0 0 t2) (upd (upd zI 0 (kI 0)) 1 (kI 0)) (upd (upd zI 0 (kI 0)) 1 (kI 0)) (upd (upd zI 0 (kI 0)) 1 (kI (Int32.ofNat tq91))) zI zI fz gz zI gy ((a63, Ar Z .double 3 (upd (upd (upd zD 0 (kD dw0)) 1 (kD dw1)) 2 (kD dw2))) :: (a2, Ar Z .double 8 gv) :: []) T105.heap n0 W107 (by omega) (by omega) (by omega) rfl rfl rfl rfl rfl rfl) hZ (hw _ (mi 100 rfl)) (hw _ (mi 7 rfl)) (by decide) (by decide)) q108a q108c (g := K106.g) rfl (by rw [hml]; rfl) (Steps.refl _) (argsL := [(.ref a77), (.ref a71), (.int (-1 : Int32))]) (rest := []) (lenOf pd_add rfl) rfl (by show 2 * 0 + _ ≤ _; exact Nat.le_of_eq rfl) (hb hby at_463) (fun _ _ => ⟨rfl, (rfl : T105.heap = T105.heap), (by decide : 27 + 8 ≤ _), (by decide : 371 + 92 ≤ _)⟩)
      dsimp only [Pt.U, Pt.locs, Pt.cells, Pt.slots] at X108 l108 y108 z108 st108 hQ108
      subst l108 y108 z108
      obtain ⟨a40_120_108, a50_120_108, a6_120_108, a9_120_108, a12_120_108, a15_120_108, a18_120_108, a21_120_108, rfl, N108q, W108⟩ := hQ108
      have N108 := Fr.app N105 N108q
      have K109 : Rc K0 T108 (mkF m 502 #[sJ p1, sV, sJ p2, sV, sI p3, sI p4, sR a2, sD du0, sV, sD du1, sV, sD du2, sV, sD dw0, sV, sD dw1, sV, sD dw2, sV, sI (Int32.ofNat sa0), sI (Int32.ofNat sa1), sI (Int32.ofNat sa2), sI (Int32.ofNat md), sI (Int32.ofNat vc), sI (Int32.ofNat ch), sI (own_bi lbt), sI (own_bi hbt), sR a53, sR a63, sR a71, sR a73, sR a77, sI 0, sI 0, sU, sU, sU, sU, sU] []) := fun t k => K106 t (st108.trans (by
        refine XS.pop X108.here hx rfl (hb hby at_466) rfl rfl ?_
        refine XS.goto X108.here hx rfl (pc0 := 467) (pc' := 502) rfl (hb hby at_467) (by decide) (by decide) ?_
        exact k))
      obtain ⟨ta, kt, hfa, hfb, hle, hk2, hsum⟩ := hCh (upd (upd (upd (upd zI 0 (kI 0)) 1 (kI (Int32.ofNat tq91))) 2 (kI (Int32.ofNat t2))) 2 (kI (Int32.ofNat t2))) rfl rfl rfl ch hch
      have K110 : Rc K0 T108 (mkF m 510 #[sJ p1, sV, sJ p2, sV, sI p3, sI p4, sR a2, sD du0, sV, sD du1, sV, sD du2, sV, sD dw0, sV, sD dw1, sV, sD dw2, sV, sI (Int32.ofNat sa0), sI (Int32.ofNat sa1), sI (Int32.ofNat sa2), sI (Int32.ofNat md), sI (Int32.ofNat vc), sI (Int32.ofNat ch), sI (own_bi lbt), sI (own_bi hbt), sR a53, sR a63, sR a71, sR a73, sR a77, sI 0, sI 0, sU, sU, sU, sU, sU] [(kR a2), (kI (Int32.ofNat ch)), (kI 0), (kR a73)]) := fun t k => K109 t (by
        refine XS.aload X108.here hx rfl (hb hby at_502) rfl rfl ?_
        refine XS.iload X108.here hx rfl (hb hby at_504) rfl ?_
        refine XS.iload X108.here hx rfl (hb hby at_506) rfl ?_
        refine XS.aload X108.here hx rfl (hb hby at_508) rfl rfl ?_
        exact k)
      have W111 : Wo n0 T108.heap [(a73, oR Z [(kR a4_75), (kR a7_75), (kR a10_75), (kR a13_75), (kR a16_75), (kR a19_75), (kR a22_75), (kR a25_75), (kR a28_75), (kR a31_75), (kR a34_75), (kR a37_75), (kR a40_75), (kR a43_75), (kI 2), (kR a6_120_108), (kI 2), (kR a9_120_108), (kR a12_120_108), (kR a15_120_108), (kR a18_120_108), (kR a21_120_108), (kR a40_120_108), (kI 2), (kI (Int32.ofNat vc))]), (a31_75, Ar Z .int 17 (upd (upd (upd (upd zI 0 (kI 0)) 1 (kI (Int32.ofNat tq91))) 2 (kI (Int32.ofNat t2))) 2 (kI (Int32.ofNat t2)))), (a40_75, Ar Z .int 64 (cpy fz (cpy fz zI 0 0 t2) 0 t2 0)), (a43_75, Ar Z .double 64 (cpy gz zD 0 0 t2)), (a2, Ar Z .double 8 gv), (a40_120_108, Pg Z .double 4 (upd (upd zN 0 (kR a43_75)) 1 (kR a50_120_108))), (a15_120_108, Ar Z .int 4 (upd zI 1 (kI 1))), (a18_120_108, Ar Z .int 4 (upd zI 1 (kI ((Int32.ofNat vc) - (Int32.ofNat t2))))), (a13_75, Ar Z .int 17 (upd (upd zI 1 (kI 2)) 2 (kI 2))), (a50_120_108, Ar Z .double 64 (cpy gz (cpy gy zD 0 0 vc) 0 vc 0)), (a6_120_108, Ar Z .int 4 (upd (upd (upd zI 0 (kI 0)) 1 (kI (-1))) 1 (kI 1))), (a9_120_108, Ar Z .int 4 (upd (upd zI 0 (kI 0)) 1 (kI 1))), (a12_120_108, Ar Z .int 4 (upd (upd zI 0 (kI (-1))) 1 (kI (-1)))), (a21_120_108, Ar Z .int 4 (upd zI 1 (kI (Int32.ofNat vc)))), (a53, Ar Z .double 3 gy), (a22_79, Ar Z .double 4 gz), (a77, oB Z [.null, (kI 0), (kR a53), (kI (Int32.ofNat vc)), (kR a4_79), (kR a7_79), (kR a10_79), (kR a13_79), (kR a16_79), (kR a19_79), (kR a22_79), (kI 0), (kI 0), (kI 0), (kI 0), .null]), (a4_75, Ar Z .int 0 zI), (a7_75, Ar Z .int 0 (cpy zI (cpy zI zI 0 0 0) 0 0 0)), (a10_75, Ar Z .int 16 (upd (upd zI 0 (kI (-1))) 1 (kI (-1)))), (a16_75, Ar Z .int 17 (upd (upd zI 1 (kI 0)) 2 (kI 0))), (a19_75, Ar Z .int 16 (upd (upd zI 0 (kI (-1))) 1 (kI (-1)))), (a22_75, Ar Z .int 17 (upd (upd zI 1 (kI 0)) 2 (kI 0))), (a25_75, Ar Z .int 17 (upd (upd (upd (upd zI 0 (kI 0)) 1 (kI 0)) 2 (kI 0)) 2 (kI 0))), (a28_75, Ar Z .int 17 (upd (upd (upd (upd zI 0 (kI 0)) 1 (kI 0)) 2 (kI 0)) 2 (kI 0))), (a34_75, Ar Z .int 16 (cpy zI (cpy zI zI 0 0 0) 0 0 0)), (a37_75, Ar Z .int 16 (cpy zI (cpy zI zI 0 0 0) 0 0 0)), (a4_79, Ar Z .int 2 (upd (upd zI 0 (kI 0)) 1 (kI 0))), (a10_79, Ar Z .int 2 (upd (upd zI 0 (kI 0)) 1 (kI 0))), (a16_79, Ar Z .int 2 (upd (upd zI 0 (kI 0)) 1 (kI (Int32.ofNat tq91)))), (a7_79, Ar Z .int 2 zI), (a13_79, Ar Z .int 2 zI), (a19_79, Ar Z .int 4 fz), (a71, Ar Z .int 0 zI), (a63, Ar Z .double 3 (upd (upd (upd zD 0 (kD dw0)) 1 (kD dw1)) 2 (kD dw2)))] := Wo.pick W108 [0, 1, 25, 13, 34, 3, 8, 9, 2, 4, 5, 6, 7, 10, 11, 12, 14, 15, 16, 17, 18, 19, 20, 21, 22, 23, 24, 26, 27, 28, 29, 30, 31, 32, 33] 35 (by decide +kernel) rfl
      obtain ⟨cq112, kq112, q112a, q112b, q112c⟩ := isOf hZ (rfl : T108.heap = T108.heap) (W111.exa (i := 0) rfl)
      obtain ⟨_, _, ⟨T112, L112, k112, n112⟩, -, X112, ⟨Lc112, hQ112, l112, y112, z112⟩, st112⟩ := X108.virtualBack hx (y := y_va) (z := y_va) hown (mvT hZ (hw _ (mi 124 rfl))) (mvT hZ (hw _ (mi 125 rfl))) (notFace_of_selects (args := #[]) (mvT hZ (hw _ (mi 127 rfl)))) (mvT hZ (hw _ (mi 127 rfl))) (mvT hZ (hw _ (mi 126 rfl))) (by decide) (backOf (W := 0) (rmVA00 l Z a0 hw [] a73 a4_75 a7_75 a10_75 a13_75 a16_75 a19_75 a22_75 a25_75 a28_75 a31_75 a34_75 a37_75 a40_75 a43_75 a6_120_108 a9_120_108 a12_120_108 a15_120_108 a18_120_108 a21_120_108 a40_120_108 a2 (2 : Int32) (2 : Int32) (Int32.ofNat vc) (upd (upd (upd (upd zI 0 (kI 0)) 1 (kI (Int32.ofNat tq91))) 2 (kI (Int32.ofNat t2))) 2 (kI (Int32.ofNat t2))) (cpy fz (cpy fz zI 0 0 t2) 0 t2 0) (cpy gz zD 0 0 t2) gv (upd (upd zN 0 (kR a43_75)) 1 (kR a50_120_108)) (upd zI 1 (kI 1)) (upd zI 1 (kI ((Int32.ofNat vc) - (Int32.ofNat t2)))) ch 0 ta kt (ta + kt) Sq wq Bq ((a13_75, Ar Z .int 17 (upd (upd zI 1 (kI 2)) 2 (kI 2))) :: (a50_120_108, Ar Z .double 64 (cpy gz (cpy gy zD 0 0 vc) 0 vc 0)) :: (a6_120_108, Ar Z .int 4 (upd (upd (upd zI 0 (kI 0)) 1 (kI (-1))) 1 (kI 1))) :: (a9_120_108, Ar Z .int 4 (upd (upd zI 0 (kI 0)) 1 (kI 1))) :: (a12_120_108, Ar Z .int 4 (upd (upd zI 0 (kI (-1))) 1 (kI (-1)))) :: (a21_120_108, Ar Z .int 4 (upd zI 1 (kI (Int32.ofNat vc)))) :: (a53, Ar Z .double 3 gy) :: (a22_79, Ar Z .double 4 gz) :: (a77, oB Z [.null, (kI 0), (kR a53), (kI (Int32.ofNat vc)), (kR a4_79), (kR a7_79), (kR a10_79), (kR a13_79), (kR a16_79), (kR a19_79), (kR a22_79), (kI 0), (kI 0), (kI 0), (kI 0), .null]) :: (a4_75, Ar Z .int 0 zI) :: (a7_75, Ar Z .int 0 (cpy zI (cpy zI zI 0 0 0) 0 0 0)) :: (a10_75, Ar Z .int 16 (upd (upd zI 0 (kI (-1))) 1 (kI (-1)))) :: (a16_75, Ar Z .int 17 (upd (upd zI 1 (kI 0)) 2 (kI 0))) :: (a19_75, Ar Z .int 16 (upd (upd zI 0 (kI (-1))) 1 (kI (-1)))) :: (a22_75, Ar Z .int 17 (upd (upd zI 1 (kI 0)) 2 (kI 0))) :: (a25_75, Ar Z .int 17 (upd (upd (upd (upd zI 0 (kI 0)) 1 (kI 0)) 2 (kI 0)) 2 (kI 0))) :: (a28_75, Ar Z .int 17 (upd (upd (upd (upd zI 0 (kI 0)) 1 (kI 0)) 2 (kI 0)) 2 (kI 0))) :: (a34_75, Ar Z .int 16 (cpy zI (cpy zI zI 0 0 0) 0 0 0)) :: (a37_75, Ar Z .int 16 (cpy zI (cpy zI zI 0 0 0) 0 0 0)) :: (a4_79, Ar Z .int 2 (upd (upd zI 0 (kI 0)) 1 (kI 0))) :: (a10_79, Ar Z .int 2 (upd (upd zI 0 (kI 0)) 1 (kI 0))) :: (a16_79, Ar Z .int 2 (upd (upd zI 0 (kI 0)) 1 (kI (Int32.ofNat tq91)))) :: (a7_79, Ar Z .int 2 zI) :: (a13_79, Ar Z .int 2 zI) :: (a19_79, Ar Z .int 4 fz) :: (a71, Ar Z .int 0 zI) :: (a63, Ar Z .double 3 (upd (upd (upd zD 0 (kD dw0)) 1 (kD dw1)) 2 (kD dw2))) :: []) T108.heap n0 W111 hch (by omega) (by omega) rfl hfa hfb (fun t ht => ⟨(show (cpy fz (cpy fz zI 0 0 t2) 0 t2 0) t = fz t from own_c2 (by omega)).trans (hBl t (by omega)).1, (hBl t (by omega)).2.1⟩) (fun t ht => by rw [show (cpy gz zD 0 0 t2) (t + 0) = gz t from own_cpy (d := 0) (by omega)]; exact (hBl t (by omega)).2.2) hVq rfl rfl rfl) hZ (hw _ (mi 128 rfl)) (hw _ (mi 7 rfl)) (by decide) (by decide)) q112a q112c (g := K110.g) rfl (by rw [hml]; rfl) (Steps.refl _) (argsL := [(.int (0 : Int32)), (.int (Int32.ofNat ch)), (.ref a2)]) (rest := []) (lenOf pd_va rfl) rfl (by show 2 * 0 + _ ≤ _; exact Nat.le_of_eq rfl) (hb hby at_510) (fun _ _ => ⟨rfl, (rfl : T108.heap = T108.heap), (by decide : 35 + 0 ≤ _), (by decide : 463 + 0 ≤ _)⟩)
      dsimp only [Pt.U, Pt.locs, Pt.cells, Pt.slots] at X112 l112 y112 z112 st112 hQ112
      subst l112 y112 z112
      obtain ⟨ac112, rfl, N112q, W112, hres112⟩ := hQ112
      have N112 := Fr.app N108 N112q
      have K113 : Rc K0 T112 (mkF m 515 #[sJ p1, sV, sJ p2, sV, sI p3, sI p4, sR a2, sD du0, sV, sD du1, sV, sD du2, sV, sD dw0, sV, sD dw1, sV, sD dw2, sV, sI (Int32.ofNat sa0), sI (Int32.ofNat sa1), sI (Int32.ofNat sa2), sI (Int32.ofNat md), sI (Int32.ofNat vc), sI (Int32.ofNat ch), sI (own_bi lbt), sI (own_bi hbt), sR a53, sR a63, sR a71, sR a73, sR a77, sI 0, sI 0, sD ac112, sV, sU, sU, sU] []) := fun t k => K110 t (st112.trans (XS.dstore X112.here hx rfl (hb hby at_513) rfl (l' := #[sJ p1, sV, sJ p2, sV, sI p3, sI p4, sR a2, sD du0, sV, sD du1, sV, sD du2, sV, sD dw0, sV, sD dw1, sV, sD dw2, sV, sI (Int32.ofNat sa0), sI (Int32.ofNat sa1), sI (Int32.ofNat sa2), sI (Int32.ofNat md), sI (Int32.ofNat vc), sI (Int32.ofNat ch), sI (own_bi lbt), sI (own_bi hbt), sR a53, sR a63, sR a71, sR a73, sR a77, sI 0, sI 0, sD ac112, sV, sU, sU, sU]) rfl k))
      have W114 : Wo n0 T112.heap [(a2, Ar Z .double 8 gv), (a73, oR Z [(kR a4_75), (kR a7_75), (kR a10_75), (kR a13_75), (kR a16_75), (kR a19_75), (kR a22_75), (kR a25_75), (kR a28_75), (kR a31_75), (kR a34_75), (kR a37_75), (kR a40_75), (kR a43_75), (kI 2), (kR a6_120_108), (kI 2), (kR a9_120_108), (kR a12_120_108), (kR a15_120_108), (kR a18_120_108), (kR a21_120_108), (kR a40_120_108), (kI 2), (kI (Int32.ofNat vc))]), (a31_75, Ar Z .int 17 (upd (upd (upd (upd zI 0 (kI 0)) 1 (kI (Int32.ofNat tq91))) 2 (kI (Int32.ofNat t2))) 2 (kI (Int32.ofNat t2)))), (a40_75, Ar Z .int 64 (cpy fz (cpy fz zI 0 0 t2) 0 t2 0)), (a43_75, Ar Z .double 64 (cpy gz zD 0 0 t2)), (a40_120_108, Pg Z .double 4 (upd (upd zN 0 (kR a43_75)) 1 (kR a50_120_108))), (a15_120_108, Ar Z .int 4 (upd zI 1 (kI 1))), (a18_120_108, Ar Z .int 4 (upd zI 1 (kI ((Int32.ofNat vc) - (Int32.ofNat t2))))), (a13_75, Ar Z .int 17 (upd (upd zI 1 (kI 2)) 2 (kI 2))), (a50_120_108, Ar Z .double 64 (cpy gz (cpy gy zD 0 0 vc) 0 vc 0)), (a6_120_108, Ar Z .int 4 (upd (upd (upd zI 0 (kI 0)) 1 (kI (-1))) 1 (kI 1))), (a9_120_108, Ar Z .int 4 (upd (upd zI 0 (kI 0)) 1 (kI 1))), (a12_120_108, Ar Z .int 4 (upd (upd zI 0 (kI (-1))) 1 (kI (-1)))), (a21_120_108, Ar Z .int 4 (upd zI 1 (kI (Int32.ofNat vc)))), (a53, Ar Z .double 3 gy), (a22_79, Ar Z .double 4 gz), (a77, oB Z [.null, (kI 0), (kR a53), (kI (Int32.ofNat vc)), (kR a4_79), (kR a7_79), (kR a10_79), (kR a13_79), (kR a16_79), (kR a19_79), (kR a22_79), (kI 0), (kI 0), (kI 0), (kI 0), .null]), (a4_75, Ar Z .int 0 zI), (a7_75, Ar Z .int 0 (cpy zI (cpy zI zI 0 0 0) 0 0 0)), (a10_75, Ar Z .int 16 (upd (upd zI 0 (kI (-1))) 1 (kI (-1)))), (a16_75, Ar Z .int 17 (upd (upd zI 1 (kI 0)) 2 (kI 0))), (a19_75, Ar Z .int 16 (upd (upd zI 0 (kI (-1))) 1 (kI (-1)))), (a22_75, Ar Z .int 17 (upd (upd zI 1 (kI 0)) 2 (kI 0))), (a25_75, Ar Z .int 17 (upd (upd (upd (upd zI 0 (kI 0)) 1 (kI 0)) 2 (kI 0)) 2 (kI 0))), (a28_75, Ar Z .int 17 (upd (upd (upd (upd zI 0 (kI 0)) 1 (kI 0)) 2 (kI 0)) 2 (kI 0))), (a34_75, Ar Z .int 16 (cpy zI (cpy zI zI 0 0 0) 0 0 0)), (a37_75, Ar Z .int 16 (cpy zI (cpy zI zI 0 0 0) 0 0 0)), (a4_79, Ar Z .int 2 (upd (upd zI 0 (kI 0)) 1 (kI 0))), (a10_79, Ar Z .int 2 (upd (upd zI 0 (kI 0)) 1 (kI 0))), (a16_79, Ar Z .int 2 (upd (upd zI 0 (kI 0)) 1 (kI (Int32.ofNat tq91)))), (a7_79, Ar Z .int 2 zI), (a13_79, Ar Z .int 2 zI), (a19_79, Ar Z .int 4 fz), (a71, Ar Z .int 0 zI), (a63, Ar Z .double 3 (upd (upd (upd zD 0 (kD dw0)) 1 (kD dw1)) 2 (kD dw2)))] := Wo.pick W112 [4, 0, 1, 2, 3, 5, 6, 7, 8, 9, 10, 11, 12, 13, 14, 15, 16, 17, 18, 19, 20, 21, 22, 23, 24, 25, 26, 27, 28, 29, 30, 31, 32, 33, 34] 35 (by decide +kernel) rfl
      obtain ⟨T115, Ls115, X115, e115, K115⟩ := tnE a2 gv du0 du1 du2 dw0 dw1 dw2 ac112 sa0 sa1 sa2 ch false hbt (0 : Int32) ku0 ku1 ku2 kw0 kw1 kw2 Bq (.val (.long p1)) (.second) (.val (.long p2)) (.second) (.val (.int p3)) (.val (.int p4)) (.val (.int (Int32.ofNat md))) (.val (.int (Int32.ofNat vc))) (.val (.int (own_bi lbt))) (.val (.ref a53)) (.val (.ref a63)) (.val (.ref a71)) (.val (.ref a73)) (.val (.ref a77)) (.val (.int (0 : Int32))) ((a73, oR Z [(kR a4_75), (kR a7_75), (kR a10_75), (kR a13_75), (kR a16_75), (kR a19_75), (kR a22_75), (kR a25_75), (kR a28_75), (kR a31_75), (kR a34_75), (kR a37_75), (kR a40_75), (kR a43_75), (kI 2), (kR a6_120_108), (kI 2), (kR a9_120_108), (kR a12_120_108), (kR a15_120_108), (kR a18_120_108), (kR a21_120_108), (kR a40_120_108), (kI 2), (kI (Int32.ofNat vc))]) :: (a31_75, Ar Z .int 17 (upd (upd (upd (upd zI 0 (kI 0)) 1 (kI (Int32.ofNat tq91))) 2 (kI (Int32.ofNat t2))) 2 (kI (Int32.ofNat t2)))) :: (a40_75, Ar Z .int 64 (cpy fz (cpy fz zI 0 0 t2) 0 t2 0)) :: (a43_75, Ar Z .double 64 (cpy gz zD 0 0 t2)) :: (a40_120_108, Pg Z .double 4 (upd (upd zN 0 (kR a43_75)) 1 (kR a50_120_108))) :: (a15_120_108, Ar Z .int 4 (upd zI 1 (kI 1))) :: (a18_120_108, Ar Z .int 4 (upd zI 1 (kI ((Int32.ofNat vc) - (Int32.ofNat t2))))) :: (a13_75, Ar Z .int 17 (upd (upd zI 1 (kI 2)) 2 (kI 2))) :: (a50_120_108, Ar Z .double 64 (cpy gz (cpy gy zD 0 0 vc) 0 vc 0)) :: (a6_120_108, Ar Z .int 4 (upd (upd (upd zI 0 (kI 0)) 1 (kI (-1))) 1 (kI 1))) :: (a9_120_108, Ar Z .int 4 (upd (upd zI 0 (kI 0)) 1 (kI 1))) :: (a12_120_108, Ar Z .int 4 (upd (upd zI 0 (kI (-1))) 1 (kI (-1)))) :: (a21_120_108, Ar Z .int 4 (upd zI 1 (kI (Int32.ofNat vc)))) :: (a53, Ar Z .double 3 gy) :: (a22_79, Ar Z .double 4 gz) :: (a77, oB Z [.null, (kI 0), (kR a53), (kI (Int32.ofNat vc)), (kR a4_79), (kR a7_79), (kR a10_79), (kR a13_79), (kR a16_79), (kR a19_79), (kR a22_79), (kI 0), (kI 0), (kI 0), (kI 0), .null]) :: (a4_75, Ar Z .int 0 zI) :: (a7_75, Ar Z .int 0 (cpy zI (cpy zI zI 0 0 0) 0 0 0)) :: (a10_75, Ar Z .int 16 (upd (upd zI 0 (kI (-1))) 1 (kI (-1)))) :: (a16_75, Ar Z .int 17 (upd (upd zI 1 (kI 0)) 2 (kI 0))) :: (a19_75, Ar Z .int 16 (upd (upd zI 0 (kI (-1))) 1 (kI (-1)))) :: (a22_75, Ar Z .int 17 (upd (upd zI 1 (kI 0)) 2 (kI 0))) :: (a25_75, Ar Z .int 17 (upd (upd (upd (upd zI 0 (kI 0)) 1 (kI 0)) 2 (kI 0)) 2 (kI 0))) :: (a28_75, Ar Z .int 17 (upd (upd (upd (upd zI 0 (kI 0)) 1 (kI 0)) 2 (kI 0)) 2 (kI 0))) :: (a34_75, Ar Z .int 16 (cpy zI (cpy zI zI 0 0 0) 0 0 0)) :: (a37_75, Ar Z .int 16 (cpy zI (cpy zI zI 0 0 0) 0 0 0)) :: (a4_79, Ar Z .int 2 (upd (upd zI 0 (kI 0)) 1 (kI 0))) :: (a10_79, Ar Z .int 2 (upd (upd zI 0 (kI 0)) 1 (kI 0))) :: (a16_79, Ar Z .int 2 (upd (upd zI 0 (kI 0)) 1 (kI (Int32.ofNat tq91)))) :: (a7_79, Ar Z .int 2 zI) :: (a13_79, Ar Z .int 2 zI) :: (a19_79, Ar Z .int 4 fz) :: (a71, Ar Z .int 0 zI) :: (a63, Ar Z .double 3 (upd (upd (upd zD 0 (kD dw0)) 1 (kD dw1)) 2 (kD dw2))) :: []) X112 hx hZ hw hby hml hown (rfl : T112.heap = T112.heap) W114 rfl hch hsa0 hsa1 hsa2 hVq hdu0 hdw0 hdu1 hdw1 hdu2 hdw2 (by rw [← (hsum Bq kw0 kw1 kw2).1]; exact hres112) K113
      obtain ⟨fs, hr, hrun, hended, hWm, hsame⟩ := X115.leave (v := some (.int (1 : Int32))) (fun h => by rw [Bd.returns] at h; cases h)
      refine ⟨_, _, pre0 _ (K115 _ (retN X115 hx (t := .boolean) Bd.returns (by simp) (hb hby at_661) hr)), hrun, hended, _, _, rfl, ?_, ⟨_, rfl⟩, hWm, hsame.mono (by decide) (by decide)⟩
      show Qrm0 Z p1 p2 p3 p4 n0 _ T115.heap _
      rw [e115]
      exact ⟨rfl, N112⟩
    · have h1b := h1
      have K116 : Rc K0 T101 (mkF m 502 #[sJ p1, sV, sJ p2, sV, sI p3, sI p4, sR a2, sD du0, sV, sD du1, sV, sD du2, sV, sD dw0, sV, sD dw1, sV, sD dw2, sV, sI (Int32.ofNat sa0), sI (Int32.ofNat sa1), sI (Int32.ofNat sa2), sI (Int32.ofNat md), sI (Int32.ofNat vc), sI (Int32.ofNat ch), sI (own_bi lbt), sI (own_bi hbt), sR a53, sR a63, sR a71, sR a73, sR a77, sI 0, sI 0, sU, sU, sU, sU, sU] []) := fun t k => K102 t (by
        refine XS.icmpYes X101.here hx rfl (pc0 := 442) (pc' := 470) rfl (hb hby at_442) rfl (feq (own_ne (a := md) (b := 1) h1 (by omega) (by decide))).2 (by decide) (by decide) ?_
        refine XS.iload X101.here hx rfl (hb hby at_470) rfl ?_
        refine XS.iconst X101.here hx rfl (hb hby at_472) ?_
        refine XS.icmpYes X101.here hx rfl (pc0 := 473) (pc' := 502) rfl (hb hby at_473) rfl (tlt (own_lt (b := 2) hm (by decide))).1 (by decide) (by decide) ?_
        exact k)
      obtain ⟨ta, kt, hfa, hfb, hle, hk2, hsum⟩ := hCh (upd (upd (upd zI 0 (kI 0)) 1 (kI (Int32.ofNat tq91))) 2 (kI (Int32.ofNat t2))) rfl rfl rfl ch hch
      have K117 : Rc K0 T101 (mkF m 510 #[sJ p1, sV, sJ p2, sV, sI p3, sI p4, sR a2, sD du0, sV, sD du1, sV, sD du2, sV, sD dw0, sV, sD dw1, sV, sD dw2, sV, sI (Int32.ofNat sa0), sI (Int32.ofNat sa1), sI (Int32.ofNat sa2), sI (Int32.ofNat md), sI (Int32.ofNat vc), sI (Int32.ofNat ch), sI (own_bi lbt), sI (own_bi hbt), sR a53, sR a63, sR a71, sR a73, sR a77, sI 0, sI 0, sU, sU, sU, sU, sU] [(kR a2), (kI (Int32.ofNat ch)), (kI 0), (kR a73)]) := fun t k => K116 t (by
        refine XS.aload X101.here hx rfl (hb hby at_502) rfl rfl ?_
        refine XS.iload X101.here hx rfl (hb hby at_504) rfl ?_
        refine XS.iload X101.here hx rfl (hb hby at_506) rfl ?_
        refine XS.aload X101.here hx rfl (hb hby at_508) rfl rfl ?_
        exact k)
      have W118 : Wo n0 T101.heap [(a73, oR Z [(kR a4_75), (kR a7_75), (kR a10_75), (kR a13_75), (kR a16_75), (kR a19_75), (kR a22_75), (kR a25_75), (kR a28_75), (kR a31_75), (kR a34_75), (kR a37_75), (kR a40_75), (kR a43_75), (kI 1), .null, (kI 1), .null, .null, .null, .null, .null, .null, (kI 0), (kI 0)]), (a31_75, Ar Z .int 17 (upd (upd (upd zI 0 (kI 0)) 1 (kI (Int32.ofNat tq91))) 2 (kI (Int32.ofNat t2)))), (a40_75, Ar Z .int 64 (cpy fz zI 0 0 t2)), (a43_75, Ar Z .double 64 (cpy gz zD 0 0 t2)), (a2, Ar Z .double 8 gv), (a77, oB Z [.null, (kI 0), (kR a53), (kI (Int32.ofNat u)), (kR a4_79), (kR a7_79), (kR a10_79), (kR a13_79), (kR a16_79), (kR a19_79), (kR a22_79), (kI 2), (kI 0), (kI 0), (kI (Int32.ofNat t2)), .null]), (a4_75, Ar Z .int 0 zI), (a7_75, Ar Z .int 0 (cpy zI zI 0 0 0)), (a10_75, Ar Z .int 16 (upd zI 0 (kI (-1)))), (a13_75, Ar Z .int 17 (upd zI 1 (kI 2))), (a16_75, Ar Z .int 17 (upd zI 1 (kI 0))), (a19_75, Ar Z .int 16 (upd zI 0 (kI (-1)))), (a22_75, Ar Z .int 17 (upd zI 1 (kI 0))), (a25_75, Ar Z .int 17 (upd (upd (upd zI 0 (kI 0)) 1 (kI 0)) 2 (kI 0))), (a28_75, Ar Z .int 17 (upd (upd (upd zI 0 (kI 0)) 1 (kI 0)) 2 (kI 0))), (a34_75, Ar Z .int 16 (cpy zI zI 0 0 0)), (a37_75, Ar Z .int 16 (cpy zI zI 0 0 0)), (a4_79, Ar Z .int 2 (upd (upd zI 0 (kI 0)) 1 (kI 0))), (a10_79, Ar Z .int 2 (upd (upd zI 0 (kI 0)) 1 (kI 0))), (a16_79, Ar Z .int 2 (upd (upd zI 0 (kI 0)) 1 (kI (Int32.ofNat tq91)))), (a7_79, Ar Z .int 2 zI), (a13_79, Ar Z .int 2 zI), (a19_79, Ar Z .int 4 fz), (a22_79, Ar Z .double 4 gz), (a71, Ar Z .int 0 zI), (a53, Ar Z .double 3 gy), (a63, Ar Z .double 3 (upd (upd (upd zD 0 (kD dw0)) 1 (kD dw1)) 2 (kD dw2)))] := Wo.pick W101 [0, 11, 14, 15, 26, 1, 2, 3, 4, 5, 6, 7, 8, 9, 10, 12, 13, 16, 17, 18, 19, 20, 21, 22, 23, 24, 25] 27 (by decide +kernel) rfl
      obtain ⟨cq119, kq119, q119a, q119b, q119c⟩ := isOf hZ (rfl : T101.heap = T101.heap) (W118.exa (i := 0) rfl)
      obtain ⟨_, _, ⟨T119, L119, k119, n119⟩, -, X119, ⟨Lc119, hQ119, l119, y119, z119⟩, st119⟩ := X101.virtualBack hx (y := y_va) (z := y_va) hown (mvT hZ (hw _ (mi 124 rfl))) (mvT hZ (hw _ (mi 125 rfl))) (notFace_of_selects (args := #[]) (mvT hZ (hw _ (mi 127 rfl)))) (mvT hZ (hw _ (mi 127 rfl))) (mvT hZ (hw _ (mi 126 rfl))) (by decide) (backOf (W := 0) (rmVAF l Z a0 hw [] a73 a4_75 a7_75 a10_75 a13_75 a16_75 a19_75 a22_75 a25_75 a28_75 a31_75 a34_75 a37_75 a40_75 a43_75 a2 (1 : Int32) (1 : Int32) (upd (upd (upd zI 0 (kI 0)) 1 (kI (Int32.ofNat tq91))) 2 (kI (Int32.ofNat t2))) (cpy fz zI 0 0 t2) (cpy gz zD 0 0 t2) gv ch ta kt (ta + kt) Sq wq Bq ((a77, oB Z [.null, (kI 0), (kR a53), (kI (Int32.ofNat u)), (kR a4_79), (kR a7_79), (kR a10_79), (kR a13_79), (kR a16_79), (kR a19_79), (kR a22_79), (kI 2), (kI 0), (kI 0), (kI (Int32.ofNat t2)), .null]) :: (a4_75, Ar Z .int 0 zI) :: (a7_75, Ar Z .int 0 (cpy zI zI 0 0 0)) :: (a10_75, Ar Z .int 16 (upd zI 0 (kI (-1)))) :: (a13_75, Ar Z .int 17 (upd zI 1 (kI 2))) :: (a16_75, Ar Z .int 17 (upd zI 1 (kI 0))) :: (a19_75, Ar Z .int 16 (upd zI 0 (kI (-1)))) :: (a22_75, Ar Z .int 17 (upd zI 1 (kI 0))) :: (a25_75, Ar Z .int 17 (upd (upd (upd zI 0 (kI 0)) 1 (kI 0)) 2 (kI 0))) :: (a28_75, Ar Z .int 17 (upd (upd (upd zI 0 (kI 0)) 1 (kI 0)) 2 (kI 0))) :: (a34_75, Ar Z .int 16 (cpy zI zI 0 0 0)) :: (a37_75, Ar Z .int 16 (cpy zI zI 0 0 0)) :: (a4_79, Ar Z .int 2 (upd (upd zI 0 (kI 0)) 1 (kI 0))) :: (a10_79, Ar Z .int 2 (upd (upd zI 0 (kI 0)) 1 (kI 0))) :: (a16_79, Ar Z .int 2 (upd (upd zI 0 (kI 0)) 1 (kI (Int32.ofNat tq91)))) :: (a7_79, Ar Z .int 2 zI) :: (a13_79, Ar Z .int 2 zI) :: (a19_79, Ar Z .int 4 fz) :: (a22_79, Ar Z .double 4 gz) :: (a71, Ar Z .int 0 zI) :: (a53, Ar Z .double 3 gy) :: (a63, Ar Z .double 3 (upd (upd (upd zD 0 (kD dw0)) 1 (kD dw1)) 2 (kD dw2))) :: []) T101.heap n0 W118 hch (by omega) rfl hfa hfb (fun t ht => ⟨(show (cpy fz zI 0 0 t2) t = fz t from own_cpy (d := 0) (by omega)).trans (hBl t (by omega)).1, (hBl t (by omega)).2.1⟩) (fun t ht => by rw [show (cpy gz zD 0 0 t2) (t + 0) = gz t from own_cpy (d := 0) (by omega)]; exact (hBl t (by omega)).2.2) hVq) hZ (hw _ (mi 128 rfl)) (hw _ (mi 7 rfl)) (by decide) (by decide)) q119a q119c (g := K117.g) rfl (by rw [hml]; rfl) (Steps.refl _) (argsL := [(.int (0 : Int32)), (.int (Int32.ofNat ch)), (.ref a2)]) (rest := []) (lenOf pd_va rfl) rfl (by show 2 * 0 + _ ≤ _; exact Nat.le_of_eq rfl) (hb hby at_510) (fun _ _ => ⟨rfl, (rfl : T101.heap = T101.heap), (by decide : 27 + 0 ≤ _), (by decide : 371 + 0 ≤ _)⟩)
      dsimp only [Pt.U, Pt.locs, Pt.cells, Pt.slots] at X119 l119 y119 z119 st119 hQ119
      subst l119 y119 z119
      obtain ⟨ac119, rfl, N119q, W119, hres119⟩ := hQ119
      have N119 := Fr.app N101 N119q
      have K120 : Rc K0 T119 (mkF m 515 #[sJ p1, sV, sJ p2, sV, sI p3, sI p4, sR a2, sD du0, sV, sD du1, sV, sD du2, sV, sD dw0, sV, sD dw1, sV, sD dw2, sV, sI (Int32.ofNat sa0), sI (Int32.ofNat sa1), sI (Int32.ofNat sa2), sI (Int32.ofNat md), sI (Int32.ofNat vc), sI (Int32.ofNat ch), sI (own_bi lbt), sI (own_bi hbt), sR a53, sR a63, sR a71, sR a73, sR a77, sI 0, sI 0, sD ac119, sV, sU, sU, sU] []) := fun t k => K117 t (st119.trans (XS.dstore X119.here hx rfl (hb hby at_513) rfl (l' := #[sJ p1, sV, sJ p2, sV, sI p3, sI p4, sR a2, sD du0, sV, sD du1, sV, sD du2, sV, sD dw0, sV, sD dw1, sV, sD dw2, sV, sI (Int32.ofNat sa0), sI (Int32.ofNat sa1), sI (Int32.ofNat sa2), sI (Int32.ofNat md), sI (Int32.ofNat vc), sI (Int32.ofNat ch), sI (own_bi lbt), sI (own_bi hbt), sR a53, sR a63, sR a71, sR a73, sR a77, sI 0, sI 0, sD ac119, sV, sU, sU, sU]) rfl k))
      have W121 : Wo n0 T119.heap [(a2, Ar Z .double 8 gv), (a73, oR Z [(kR a4_75), (kR a7_75), (kR a10_75), (kR a13_75), (kR a16_75), (kR a19_75), (kR a22_75), (kR a25_75), (kR a28_75), (kR a31_75), (kR a34_75), (kR a37_75), (kR a40_75), (kR a43_75), (kI 1), .null, (kI 1), .null, .null, .null, .null, .null, .null, (kI 0), (kI 0)]), (a31_75, Ar Z .int 17 (upd (upd (upd zI 0 (kI 0)) 1 (kI (Int32.ofNat tq91))) 2 (kI (Int32.ofNat t2)))), (a40_75, Ar Z .int 64 (cpy fz zI 0 0 t2)), (a43_75, Ar Z .double 64 (cpy gz zD 0 0 t2)), (a77, oB Z [.null, (kI 0), (kR a53), (kI (Int32.ofNat u)), (kR a4_79), (kR a7_79), (kR a10_79), (kR a13_79), (kR a16_79), (kR a19_79), (kR a22_79), (kI 2), (kI 0), (kI 0), (kI (Int32.ofNat t2)), .null]), (a4_75, Ar Z .int 0 zI), (a7_75, Ar Z .int 0 (cpy zI zI 0 0 0)), (a10_75, Ar Z .int 16 (upd zI 0 (kI (-1)))), (a13_75, Ar Z .int 17 (upd zI 1 (kI 2))), (a16_75, Ar Z .int 17 (upd zI 1 (kI 0))), (a19_75, Ar Z .int 16 (upd zI 0 (kI (-1)))), (a22_75, Ar Z .int 17 (upd zI 1 (kI 0))), (a25_75, Ar Z .int 17 (upd (upd (upd zI 0 (kI 0)) 1 (kI 0)) 2 (kI 0))), (a28_75, Ar Z .int 17 (upd (upd (upd zI 0 (kI 0)) 1 (kI 0)) 2 (kI 0))), (a34_75, Ar Z .int 16 (cpy zI zI 0 0 0)), (a37_75, Ar Z .int 16 (cpy zI zI 0 0 0)), (a4_79, Ar Z .int 2 (upd (upd zI 0 (kI 0)) 1 (kI 0))), (a10_79, Ar Z .int 2 (upd (upd zI 0 (kI 0)) 1 (kI 0))), (a16_79, Ar Z .int 2 (upd (upd zI 0 (kI 0)) 1 (kI (Int32.ofNat tq91)))), (a7_79, Ar Z .int 2 zI), (a13_79, Ar Z .int 2 zI), (a19_79, Ar Z .int 4 fz), (a22_79, Ar Z .double 4 gz), (a71, Ar Z .int 0 zI), (a53, Ar Z .double 3 gy), (a63, Ar Z .double 3 (upd (upd (upd zD 0 (kD dw0)) 1 (kD dw1)) 2 (kD dw2)))] := Wo.pick W119 [4, 0, 1, 2, 3, 5, 6, 7, 8, 9, 10, 11, 12, 13, 14, 15, 16, 17, 18, 19, 20, 21, 22, 23, 24, 25, 26] 27 (by decide +kernel) rfl
      obtain ⟨T122, Ls122, X122, e122, K122⟩ := tnE a2 gv du0 du1 du2 dw0 dw1 dw2 ac119 sa0 sa1 sa2 ch false hbt (0 : Int32) ku0 ku1 ku2 kw0 kw1 kw2 Bq (.val (.long p1)) (.second) (.val (.long p2)) (.second) (.val (.int p3)) (.val (.int p4)) (.val (.int (Int32.ofNat md))) (.val (.int (Int32.ofNat vc))) (.val (.int (own_bi lbt))) (.val (.ref a53)) (.val (.ref a63)) (.val (.ref a71)) (.val (.ref a73)) (.val (.ref a77)) (.val (.int (0 : Int32))) ((a73, oR Z [(kR a4_75), (kR a7_75), (kR a10_75), (kR a13_75), (kR a16_75), (kR a19_75), (kR a22_75), (kR a25_75), (kR a28_75), (kR a31_75), (kR a34_75), (kR a37_75), (kR a40_75), (kR a43_75), (kI 1), .null, (kI 1), .null, .null, .null, .null, .null, .null, (kI 0), (kI 0)]) :: (a31_75, Ar Z .int 17 (upd (upd (upd zI 0 (kI 0)) 1 (kI (Int32.ofNat tq91))) 2 (kI (Int32.ofNat t2)))) :: (a40_75, Ar Z .int 64 (cpy fz zI 0 0 t2)) :: (a43_75, Ar Z .double 64 (cpy gz zD 0 0 t2)) :: (a77, oB Z [.null, (kI 0), (kR a53), (kI (Int32.ofNat u)), (kR a4_79), (kR a7_79), (kR a10_79), (kR a13_79), (kR a16_79), (kR a19_79), (kR a22_79), (kI 2), (kI 0), (kI 0), (kI (Int32.ofNat t2)), .null]) :: (a4_75, Ar Z .int 0 zI) :: (a7_75, Ar Z .int 0 (cpy zI zI 0 0 0)) :: (a10_75, Ar Z .int 16 (upd zI 0 (kI (-1)))) :: (a13_75, Ar Z .int 17 (upd zI 1 (kI 2))) :: (a16_75, Ar Z .int 17 (upd zI 1 (kI 0))) :: (a19_75, Ar Z .int 16 (upd zI 0 (kI (-1)))) :: (a22_75, Ar Z .int 17 (upd zI 1 (kI 0))) :: (a25_75, Ar Z .int 17 (upd (upd (upd zI 0 (kI 0)) 1 (kI 0)) 2 (kI 0))) :: (a28_75, Ar Z .int 17 (upd (upd (upd zI 0 (kI 0)) 1 (kI 0)) 2 (kI 0))) :: (a34_75, Ar Z .int 16 (cpy zI zI 0 0 0)) :: (a37_75, Ar Z .int 16 (cpy zI zI 0 0 0)) :: (a4_79, Ar Z .int 2 (upd (upd zI 0 (kI 0)) 1 (kI 0))) :: (a10_79, Ar Z .int 2 (upd (upd zI 0 (kI 0)) 1 (kI 0))) :: (a16_79, Ar Z .int 2 (upd (upd zI 0 (kI 0)) 1 (kI (Int32.ofNat tq91)))) :: (a7_79, Ar Z .int 2 zI) :: (a13_79, Ar Z .int 2 zI) :: (a19_79, Ar Z .int 4 fz) :: (a22_79, Ar Z .double 4 gz) :: (a71, Ar Z .int 0 zI) :: (a53, Ar Z .double 3 gy) :: (a63, Ar Z .double 3 (upd (upd (upd zD 0 (kD dw0)) 1 (kD dw1)) 2 (kD dw2))) :: []) X119 hx hZ hw hby hml hown (rfl : T119.heap = T119.heap) W121 rfl hch hsa0 hsa1 hsa2 hVq hdu0 hdw0 hdu1 hdw1 hdu2 hdw2 (by rw [← (hsum Bq kw0 kw1 kw2).1]; exact hres119) K120
      obtain ⟨fs, hr, hrun, hended, hWm, hsame⟩ := X122.leave (v := some (.int (1 : Int32))) (fun h => by rw [Bd.returns] at h; cases h)
      refine ⟨_, _, pre0 _ (K122 _ (retN X122 hx (t := .boolean) Bd.returns (by simp) (hb hby at_661) hr)), hrun, hended, _, _, rfl, ?_, ⟨_, rfl⟩, hWm, hsame.mono (by decide) (by decide)⟩
      show Qrm0 Z p1 p2 p3 p4 n0 _ T122.heap _
      rw [e122]
      exact ⟨rfl, N119⟩
  · have hmb := hm
    have K123 : Rc K0 T98 (mkF m 431 #[sJ p1, sV, sJ p2, sV, sI p3, sI p4, sR a2, sD du0, sV, sD du1, sV, sD du2, sV, sD dw0, sV, sD dw1, sV, sD dw2, sV, sI (Int32.ofNat sa0), sI (Int32.ofNat sa1), sI (Int32.ofNat sa2), sI (Int32.ofNat md), sI (Int32.ofNat vc), sI (Int32.ofNat ch), sI (own_bi lbt), sI (own_bi hbt), sR a53, sR a63, sR a71, sR a73, sR a77, sU, sU, sU, sU, sU, sU, sU] [(kI (-1)), (kR a71), (kR a77), (kR a73)]) := fun t k => K98 t (by
      refine XS.aload X98.here hx rfl (hb hby at_424) rfl rfl ?_
      refine XS.aload X98.here hx rfl (hb hby at_426) rfl rfl ?_
      refine XS.aload X98.here hx rfl (hb hby at_428) rfl rfl ?_
      refine XS.iconst X98.here hx rfl (hb hby at_430) ?_
      exact k)
    have W124 : Wo n0 T98.heap [(a73, oR Z [(kR a4_75), (kR a7_75), (kR a10_75), (kR a13_75), (kR a16_75), (kR a19_75), (kR a22_75), (kR a25_75), (kR a28_75), (kR a31_75), (kR a34_75), (kR a37_75), (kR a40_75), (kR a43_75), (kI 0), .null, (kI 0), .null, .null, .null, .null, .null, .null, (kI 0), (kI 0)]), (a77, oB Z [.null, (kI 0), (kR a53), (kI (Int32.ofNat u)), (kR a4_79), (kR a7_79), (kR a10_79), (kR a13_79), (kR a16_79), (kR a19_79), (kR a22_79), (kI 2), (kI 0), (kI 0), (kI (Int32.ofNat t2)), .null]), (a4_75, Ar Z .int 0 zI), (a7_75, Ar Z .int 0 zI), (a10_75, Ar Z .int 16 zI), (a13_75, Ar Z .int 17 zI), (a16_75, Ar Z .int 17 zI), (a19_75, Ar Z .int 16 zI), (a22_75, Ar Z .int 17 zI), (a25_75, Ar Z .int 17 zI), (a28_75, Ar Z .int 17 zI), (a31_75, Ar Z .int 17 zI), (a34_75, Ar Z .int 16 zI), (a37_75, Ar Z .int 16 zI), (a40_75, Ar Z .int 64 zI), (a43_75, Ar Z .double 64 zD), (a4_79, Ar Z .int 2 (upd (upd zI 0 (kI 0)) 1 (kI 0))), (a10_79, Ar Z .int 2 (upd (upd zI 0 (kI 0)) 1 (kI 0))), (a16_79, Ar Z .int 2 (upd (upd zI 0 (kI 0)) 1 (kI (Int32.ofNat tq91)))), (a7_79, Ar Z .int 2 zI), (a13_79, Ar Z .int 2 zI), (a19_79, Ar Z .int 4 fz), (a22_79, Ar Z .double 4 gz), (a71, Ar Z .int 0 zI), (a53, Ar Z .double 3 gy), (a63, Ar Z .double 3 (upd (upd (upd zD 0 (kD dw0)) 1 (kD dw1)) 2 (kD dw2))), (a2, Ar Z .double 8 gv)] := Wo.pick W98 [22, 0, 21, 20, 19, 18, 17, 16, 15, 14, 13, 12, 11, 10, 9, 8, 4, 5, 1, 7, 6, 2, 3, 23, 25, 24, 26] 27 (by decide +kernel) rfl
    obtain ⟨cq125, kq125, q125a, q125b, q125c⟩ := isOf hZ (rfl : T98.heap = T98.heap) (W124.exa (i := 0) rfl)
    obtain ⟨_, _, ⟨T125, L125, k125, n125⟩, -, X125, ⟨Lc125, hQ125, l125, y125, z125⟩, st125⟩ := X98.virtualBack hx (y := y_add) (z := y_add) hown (mvT hZ (hw _ (mi 96 rfl))) (mvT hZ (hw _ (mi 97 rfl))) (notFace_of_selects (args := #[]) (mvT hZ (hw _ (mi 99 rfl)))) (mvT hZ (hw _ (mi 99 rfl))) (mvT hZ (hw _ (mi 98 rfl))) (by decide) (backOf (W := 0) (rmADV l Z a0 hw [] a73 a4_75 a7_75 a10_75 a13_75 a16_75 a19_75 a22_75 a25_75 a28_75 a31_75 a34_75 a37_75 a40_75 a43_75 a77 a4_79 a7_79 a10_79 a13_79 a16_79 a19_79 a22_79 a71 a53 u tq91 t2 zI zI zI zI zI zI zI zI zI zI zI zI zI zD (upd (upd zI 0 (kI 0)) 1 (kI 0)) (upd (upd zI 0 (kI 0)) 1 (kI 0)) (upd (upd zI 0 (kI 0)) 1 (kI (Int32.ofNat tq91))) zI zI fz gz zI gy ((a63, Ar Z .double 3 (upd (upd (upd zD 0 (kD dw0)) 1 (kD dw1)) 2 (kD dw2))) :: (a2, Ar Z .double 8 gv) :: []) T98.heap n0 W124 (hu1 hm) hu3 (by omega) rfl rfl rfl rfl rfl rfl rfl rfl rfl rfl rfl rfl) hZ (hw _ (mi 100 rfl)) (hw _ (mi 7 rfl)) (by decide) (by decide)) q125a q125c (g := K123.g) rfl (by rw [hml]; rfl) (Steps.refl _) (argsL := [(.ref a77), (.ref a71), (.int (-1 : Int32))]) (rest := []) (lenOf pd_add rfl) rfl (by show 2 * 0 + _ ≤ _; exact Nat.le_of_eq rfl) (hb hby at_431) (fun _ _ => ⟨rfl, (rfl : T98.heap = T98.heap), (by decide : 27 + 8 ≤ _), (by decide : 371 + 92 ≤ _)⟩)
    dsimp only [Pt.U, Pt.locs, Pt.cells, Pt.slots] at X125 l125 y125 z125 st125 hQ125
    subst l125 y125 z125
    obtain ⟨a26_156_125, a36_156_125, a6_156_125, a9_156_125, a12_156_125, a15_156_125, a18_156_125, a21_156_125, rfl, N125q, W125⟩ := hQ125
    have N125 := Fr.app N98 N125q
    have K126 : Rc K0 T125 (mkF m 485 #[sJ p1, sV, sJ p2, sV, sI p3, sI p4, sR a2, sD du0, sV, sD du1, sV, sD du2, sV, sD dw0, sV, sD dw1, sV, sD dw2, sV, sI (Int32.ofNat sa0), sI (Int32.ofNat sa1), sI (Int32.ofNat sa2), sI (Int32.ofNat md), sI (Int32.ofNat vc), sI (Int32.ofNat ch), sI (own_bi lbt), sI (own_bi hbt), sR a53, sR a63, sR a71, sR a73, sR a77, sI 0, sI 0, sU, sU, sU, sU, sU] [(kI (Int32.ofNat vc)), (kR a53), (kR a63), (kI 0), (kR a73)]) := fun t k => K123 t (st125.trans (by
      refine XS.istore X125.here hx rfl (hb hby at_434) rfl (l' := #[sJ p1, sV, sJ p2, sV, sI p3, sI p4, sR a2, sD du0, sV, sD du1, sV, sD du2, sV, sD dw0, sV, sD dw1, sV, sD dw2, sV, sI (Int32.ofNat sa0), sI (Int32.ofNat sa1), sI (Int32.ofNat sa2), sI (Int32.ofNat md), sI (Int32.ofNat vc), sI (Int32.ofNat ch), sI (own_bi lbt), sI (own_bi hbt), sR a53, sR a63, sR a71, sR a73, sR a77, sI 0, sU, sU, sU, sU, sU, sU]) rfl ?_
      refine XS.iconst X125.here hx rfl (hb hby at_436) ?_
      refine XS.istore X125.here hx rfl (hb hby at_437) rfl (l' := #[sJ p1, sV, sJ p2, sV, sI p3, sI p4, sR a2, sD du0, sV, sD du1, sV, sD du2, sV, sD dw0, sV, sD dw1, sV, sD dw2, sV, sI (Int32.ofNat sa0), sI (Int32.ofNat sa1), sI (Int32.ofNat sa2), sI (Int32.ofNat md), sI (Int32.ofNat vc), sI (Int32.ofNat ch), sI (own_bi lbt), sI (own_bi hbt), sR a53, sR a63, sR a71, sR a73, sR a77, sI 0, sI 0, sU, sU, sU, sU, sU]) rfl ?_
      refine XS.iload X125.here hx rfl (hb hby at_439) rfl ?_
      refine XS.iconst X125.here hx rfl (hb hby at_441) ?_
      refine XS.icmpYes X125.here hx rfl (pc0 := 442) (pc' := 470) rfl (hb hby at_442) rfl (feq (own_ne (a := md) (b := 1) (by omega) (by omega) (by decide))).2 (by decide) (by decide) ?_
      refine XS.iload X125.here hx rfl (hb hby at_470) rfl ?_
      refine XS.iconst X125.here hx rfl (hb hby at_472) ?_
      refine XS.icmpNo X125.here hx rfl (hb hby at_473) rfl (flt (own_nlt (a := md) (b := 2) (by omega) (by omega))).1 ?_
      refine XS.aload X125.here hx rfl (hb hby at_476) rfl rfl ?_
      refine XS.iconst X125.here hx rfl (hb hby at_478) ?_
      refine XS.aload X125.here hx rfl (hb hby at_479) rfl rfl ?_
      refine XS.aload X125.here hx rfl (hb hby at_481) rfl rfl ?_
      refine XS.iload X125.here hx rfl (hb hby at_483) rfl ?_
      exact k))
    have W127 : Wo n0 T125.heap [(a73, oR Z [(kR a4_75), (kR a7_75), (kR a10_75), (kR a13_75), (kR a16_75), (kR a19_75), (kR a22_75), (kR a25_75), (kR a28_75), (kR a31_75), (kR a34_75), (kR a37_75), (kR a40_75), (kR a43_75), (kI 1), (kR a6_156_125), (kI 1), (kR a9_156_125), (kR a12_156_125), (kR a15_156_125), (kR a18_156_125), (kR a21_156_125), (kR a26_156_125), (kI 2), (kI (Int32.ofNat (u + t2)))]), (a31_75, Ar Z .int 17 (upd (upd (upd zI 0 (kI 0)) 1 (kI (Int32.ofNat tq91))) 2 (kI (Int32.ofNat t2)))), (a13_75, Ar Z .int 17 (upd zI 1 (kI 2))), (a26_156_125, Pg Z .double 4 (upd (upd zN 0 (kR a43_75)) 1 (kR a36_156_125))), (a36_156_125, Ar Z .double 64 (cpy gz (cpy gy zD 0 0 u) 0 u t2)), (a6_156_125, Ar Z .int 4 (upd (upd zI 0 (kI (-1))) 0 (kI 0))), (a9_156_125, Ar Z .int 4 (upd zI 0 (kI 0))), (a12_156_125, Ar Z .int 4 (upd zI 0 (kI (-1)))), (a15_156_125, Ar Z .int 4 (upd zI 0 (kI 1))), (a18_156_125, Ar Z .int 4 (upd zI 0 (kI (Int32.ofNat u)))), (a21_156_125, Ar Z .int 4 (upd zI 0 (kI (Int32.ofNat u)))), (a53, Ar Z .double 3 gy), (a63, Ar Z .double 3 (upd (upd (upd zD 0 (kD dw0)) 1 (kD dw1)) 2 (kD dw2))), (a22_79, Ar Z .double 4 gz), (a43_75, Ar Z .double 64 zD), (a77, oB Z [.null, (kI 0), (kR a53), (kI (Int32.ofNat u)), (kR a4_79), (kR a7_79), (kR a10_79), (kR a13_79), (kR a16_79), (kR a19_79), (kR a22_79), (kI 2), (kI 0), (kI 0), (kI (Int32.ofNat t2)), .null]), (a4_75, Ar Z .int 0 zI), (a7_75, Ar Z .int 0 (cpy zI zI 0 0 0)), (a10_75, Ar Z .int 16 (upd zI 0 (kI (-1)))), (a16_75, Ar Z .int 17 (upd zI 1 (kI 0))), (a19_75, Ar Z .int 16 (upd zI 0 (kI (-1)))), (a22_75, Ar Z .int 17 (upd zI 1 (kI 0))), (a25_75, Ar Z .int 17 (upd (upd (upd zI 0 (kI 0)) 1 (kI 0)) 2 (kI 0))), (a28_75, Ar Z .int 17 (upd (upd (upd zI 0 (kI 0)) 1 (kI 0)) 2 (kI 0))), (a34_75, Ar Z .int 16 (cpy zI zI 0 0 0)), (a37_75, Ar Z .int 16 (cpy zI zI 0 0 0)), (a40_75, Ar Z .int 64 (cpy fz zI 0 0 t2)), (a4_79, Ar Z .int 2 (upd (upd zI 0 (kI 0)) 1 (kI 0))), (a10_79, Ar Z .int 2 (upd (upd zI 0 (kI 0)) 1 (kI 0))), (a16_79, Ar Z .int 2 (upd (upd zI 0 (kI 0)) 1 (kI (Int32.ofNat tq91)))), (a7_79, Ar Z .int 2 zI), (a13_79, Ar Z .int 2 zI), (a19_79, Ar Z .int 4 fz), (a71, Ar Z .int 0 zI), (a2, Ar Z .double 8 gv)] := Wo.pick W125 [0, 1, 2, 3, 4, 5, 6, 7, 8, 9, 10, 11, 33, 12, 13, 14, 15, 16, 17, 18, 19, 20, 21, 22, 23, 24, 25, 26, 27, 28, 29, 30, 31, 32, 34] 35 (by decide +kernel) rfl
    obtain ⟨cq128, kq128, q128a, q128b, q128c⟩ := isOf hZ (rfl : T125.heap = T125.heap) (W127.exa (i := 0) rfl)
    obtain ⟨_, _, ⟨T128, L128, k128, n128⟩, -, X128, ⟨Lc128, hQ128, l128, y128, z128⟩, st128⟩ := X125.virtualBack hx (y := y_ts) (z := y_ts) hown (mvT hZ (hw _ (mi 186 rfl))) (mvT hZ (hw _ (mi 187 rfl))) (notFace_of_selects (args := #[]) (mvT hZ (hw _ (mi 189 rfl)))) (mvT hZ (hw _ (mi 189 rfl))) (mvT hZ (hw _ (mi 188 rfl))) (by decide) (backOf (W := 0) (rmTS l Z a0 hw [] a73 a4_75 a7_75 a10_75 a13_75 a16_75 a19_75 a22_75 a25_75 a28_75 a31_75 a34_75 a37_75 a40_75 a43_75 a6_156_125 a9_156_125 a12_156_125 a15_156_125 a18_156_125 a21_156_125 a26_156_125 a36_156_125 a53 a63 vc t2 u (upd (upd (upd zI 0 (kI 0)) 1 (kI (Int32.ofNat tq91))) 2 (kI (Int32.ofNat t2))) (upd zI 1 (kI 2)) (upd (upd zN 0 (kR a43_75)) 1 (kR a36_156_125)) (cpy gz (cpy gy zD 0 0 u) 0 u t2) (upd (upd zI 0 (kI (-1))) 0 (kI 0)) (upd zI 0 (kI 0)) (upd zI 0 (kI (-1))) (upd zI 0 (kI 1)) (upd zI 0 (kI (Int32.ofNat u))) (upd zI 0 (kI (Int32.ofNat u))) gy (upd (upd (upd zD 0 (kD dw0)) 1 (kD dw1)) 2 (kD dw2)) ((a22_79, Ar Z .double 4 gz) :: (a43_75, Ar Z .double 64 zD) :: (a77, oB Z [.null, (kI 0), (kR a53), (kI (Int32.ofNat u)), (kR a4_79), (kR a7_79), (kR a10_79), (kR a13_79), (kR a16_79), (kR a19_79), (kR a22_79), (kI 2), (kI 0), (kI 0), (kI (Int32.ofNat t2)), .null]) :: (a4_75, Ar Z .int 0 zI) :: (a7_75, Ar Z .int 0 (cpy zI zI 0 0 0)) :: (a10_75, Ar Z .int 16 (upd zI 0 (kI (-1)))) :: (a16_75, Ar Z .int 17 (upd zI 1 (kI 0))) :: (a19_75, Ar Z .int 16 (upd zI 0 (kI (-1)))) :: (a22_75, Ar Z .int 17 (upd zI 1 (kI 0))) :: (a25_75, Ar Z .int 17 (upd (upd (upd zI 0 (kI 0)) 1 (kI 0)) 2 (kI 0))) :: (a28_75, Ar Z .int 17 (upd (upd (upd zI 0 (kI 0)) 1 (kI 0)) 2 (kI 0))) :: (a34_75, Ar Z .int 16 (cpy zI zI 0 0 0)) :: (a37_75, Ar Z .int 16 (cpy zI zI 0 0 0)) :: (a40_75, Ar Z .int 64 (cpy fz zI 0 0 t2)) :: (a4_79, Ar Z .int 2 (upd (upd zI 0 (kI 0)) 1 (kI 0))) :: (a10_79, Ar Z .int 2 (upd (upd zI 0 (kI 0)) 1 (kI 0))) :: (a16_79, Ar Z .int 2 (upd (upd zI 0 (kI 0)) 1 (kI (Int32.ofNat tq91)))) :: (a7_79, Ar Z .int 2 zI) :: (a13_79, Ar Z .int 2 zI) :: (a19_79, Ar Z .int 4 fz) :: (a71, Ar Z .int 0 zI) :: (a2, Ar Z .double 8 gv) :: []) T125.heap n0 W127 (by omega) (by omega) (by omega) rfl rfl rfl rfl rfl rfl) hZ (hw _ (mi 190 rfl)) (hw _ (mi 7 rfl)) (by decide) (by decide)) q128a q128c (g := K126.g) rfl (by rw [hml]; rfl) (Steps.refl _) (argsL := [(.int (0 : Int32)), (.ref a63), (.ref a53), (.int (Int32.ofNat vc))]) (rest := []) (lenOf pd_ts rfl) rfl (by show 2 * 0 + _ ≤ _; exact Nat.le_of_eq rfl) (hb hby at_485) (fun _ _ => ⟨rfl, (rfl : T125.heap = T125.heap), (by decide : 35 + 0 ≤ _), (by decide : 463 + 0 ≤ _)⟩)
    dsimp only [Pt.U, Pt.locs, Pt.cells, Pt.slots] at X128 l128 y128 z128 st128 hQ128
    subst l128 y128 z128
    obtain ⟨rfl, N128q, W128⟩ := hQ128
    have N128 := Fr.app N125 N128q
    have K129 : Rc K0 T128 (mkF m 492 #[sJ p1, sV, sJ p2, sV, sI p3, sI p4, sR a2, sD du0, sV, sD du1, sV, sD du2, sV, sD dw0, sV, sD dw1, sV, sD dw2, sV, sI (Int32.ofNat sa0), sI (Int32.ofNat sa1), sI (Int32.ofNat sa2), sI (Int32.ofNat md), sI (Int32.ofNat vc), sI (Int32.ofNat ch), sI (own_bi lbt), sI (own_bi hbt), sR a53, sR a63, sR a71, sR a73, sR a77, sI 0, sI 0, sI 1, sU, sU, sU, sU] [(kI (own_bi lbt))]) := fun t k => K126 t (st128.trans (by
      refine XS.istore X128.here hx rfl (hb hby at_488) rfl (l' := #[sJ p1, sV, sJ p2, sV, sI p3, sI p4, sR a2, sD du0, sV, sD du1, sV, sD du2, sV, sD dw0, sV, sD dw1, sV, sD dw2, sV, sI (Int32.ofNat sa0), sI (Int32.ofNat sa1), sI (Int32.ofNat sa2), sI (Int32.ofNat md), sI (Int32.ofNat vc), sI (Int32.ofNat ch), sI (own_bi lbt), sI (own_bi hbt), sR a53, sR a63, sR a71, sR a73, sR a77, sI 0, sI 0, sI 1, sU, sU, sU, sU]) rfl ?_
      refine XS.iload X128.here hx rfl (hb hby at_490) rfl ?_
      exact k))
    by_cases hl : lbt = true
    · have hlb := hl
      have K130 : Rc K0 T128 (mkF m 502 #[sJ p1, sV, sJ p2, sV, sI p3, sI p4, sR a2, sD du0, sV, sD du1, sV, sD du2, sV, sD dw0, sV, sD dw1, sV, sD dw2, sV, sI (Int32.ofNat sa0), sI (Int32.ofNat sa1), sI (Int32.ofNat sa2), sI (Int32.ofNat md), sI (Int32.ofNat vc), sI (Int32.ofNat ch), sI (own_bi lbt), sI (own_bi hbt), sR a53, sR a63, sR a71, sR a73, sR a77, sI 1, sI 1, sI 1, sU, sU, sU, sU] []) := fun t k => K129 t (by
        refine XS.ifNo X128.here hx rfl (hb hby at_492) rfl ((if0 _ _).trans (feq (show ¬ (own_bi lbt = 0) from by rw [hlb]; decide)).1) ?_
        refine XS.iload X128.here hx rfl (hb hby at_495) rfl ?_
        refine XS.istore X128.here hx rfl (hb hby at_497) rfl (l' := #[sJ p1, sV, sJ p2, sV, sI p3, sI p4, sR a2, sD du0, sV, sD du1, sV, sD du2, sV, sD dw0, sV, sD dw1, sV, sD dw2, sV, sI (Int32.ofNat sa0), sI (Int32.ofNat sa1), sI (Int32.ofNat sa2), sI (Int32.ofNat md), sI (Int32.ofNat vc), sI (Int32.ofNat ch), sI (own_bi lbt), sI (own_bi hbt), sR a53, sR a63, sR a71, sR a73, sR a77, sI 1, sI 0, sI 1, sU, sU, sU, sU]) rfl ?_
        refine XS.iconst X128.here hx rfl (hb hby at_499) ?_
        refine XS.istore X128.here hx rfl (hb hby at_500) rfl (l' := #[sJ p1, sV, sJ p2, sV, sI p3, sI p4, sR a2, sD du0, sV, sD du1, sV, sD du2, sV, sD dw0, sV, sD dw1, sV, sD dw2, sV, sI (Int32.ofNat sa0), sI (Int32.ofNat sa1), sI (Int32.ofNat sa2), sI (Int32.ofNat md), sI (Int32.ofNat vc), sI (Int32.ofNat ch), sI (own_bi lbt), sI (own_bi hbt), sR a53, sR a63, sR a71, sR a73, sR a77, sI 1, sI 1, sI 1, sU, sU, sU, sU]) rfl ?_
        exact k)
      obtain ⟨ta, kt, hfa, hfb, hle, hk2, hsum⟩ := hCh (upd (upd (upd zI 0 (kI 0)) 1 (kI (Int32.ofNat tq91))) 2 (kI (Int32.ofNat t2))) rfl rfl rfl ch hch
      have K131 : Rc K0 T128 (mkF m 510 #[sJ p1, sV, sJ p2, sV, sI p3, sI p4, sR a2, sD du0, sV, sD du1, sV, sD du2, sV, sD dw0, sV, sD dw1, sV, sD dw2, sV, sI (Int32.ofNat sa0), sI (Int32.ofNat sa1), sI (Int32.ofNat sa2), sI (Int32.ofNat md), sI (Int32.ofNat vc), sI (Int32.ofNat ch), sI (own_bi lbt), sI (own_bi hbt), sR a53, sR a63, sR a71, sR a73, sR a77, sI 1, sI 1, sI 1, sU, sU, sU, sU] [(kR a2), (kI (Int32.ofNat ch)), (kI 1), (kR a73)]) := fun t k => K130 t (by
        refine XS.aload X128.here hx rfl (hb hby at_502) rfl rfl ?_
        refine XS.iload X128.here hx rfl (hb hby at_504) rfl ?_
        refine XS.iload X128.here hx rfl (hb hby at_506) rfl ?_
        refine XS.aload X128.here hx rfl (hb hby at_508) rfl rfl ?_
        exact k)
      have W132 : Wo n0 T128.heap [(a73, oR Z [(kR a4_75), (kR a7_75), (kR a10_75), (kR a13_75), (kR a16_75), (kR a19_75), (kR a22_75), (kR a25_75), (kR a28_75), (kR a31_75), (kR a34_75), (kR a37_75), (kR a40_75), (kR a43_75), (kI 1), (kR a6_156_125), (kI 2), (kR a9_156_125), (kR a12_156_125), (kR a15_156_125), (kR a18_156_125), (kR a21_156_125), (kR a26_156_125), (kI 2), (kI (Int32.ofNat ((u + t2) + (vc + t2))))]), (a31_75, Ar Z .int 17 (upd (upd (upd zI 0 (kI 0)) 1 (kI (Int32.ofNat tq91))) 2 (kI (Int32.ofNat t2)))), (a40_75, Ar Z .int 64 (cpy fz zI 0 0 t2)), (a36_156_125, Ar Z .double 64 (cpy (upd (upd (upd zD 0 (kD dw0)) 1 (kD dw1)) 2 (kD dw2)) (cpy gy (cpy gz (cpy gy zD 0 0 u) 0 u t2) 0 (u + t2) vc) 0 ((u + t2) + vc) t2)), (a2, Ar Z .double 8 gv), (a26_156_125, Pg Z .double 4 (upd (upd zN 0 (kR a43_75)) 1 (kR a36_156_125))), (a15_156_125, Ar Z .int 4 (upd (upd zI 0 (kI 1)) 1 (kI 1))), (a18_156_125, Ar Z .int 4 (upd (upd zI 0 (kI (Int32.ofNat u))) 1 (kI (Int32.ofNat ((u + t2) + vc))))), (a13_75, Ar Z .int 17 (upd zI 1 (kI 2))), (a6_156_125, Ar Z .int 4 (upd (upd (upd zI 0 (kI (-1))) 0 (kI 0)) 0 (kI 1))), (a9_156_125, Ar Z .int 4 (upd (upd zI 0 (kI 0)) 1 (kI 0))), (a12_156_125, Ar Z .int 4 (upd (upd zI 0 (kI (-1))) 1 (kI 0))), (a21_156_125, Ar Z .int 4 (upd (upd zI 0 (kI (Int32.ofNat u))) 1 (kI (Int32.ofNat vc)))), (a53, Ar Z .double 3 gy), (a63, Ar Z .double 3 (upd (upd (upd zD 0 (kD dw0)) 1 (kD dw1)) 2 (kD dw2))), (a22_79, Ar Z .double 4 gz), (a43_75, Ar Z .double 64 zD), (a77, oB Z [.null, (kI 0), (kR a53), (kI (Int32.ofNat u)), (kR a4_79), (kR a7_79), (kR a10_79), (kR a13_79), (kR a16_79), (kR a19_79), (kR a22_79), (kI 2), (kI 0), (kI 0), (kI (Int32.ofNat t2)), .null]), (a4_75, Ar Z .int 0 zI), (a7_75, Ar Z .int 0 (cpy zI zI 0 0 0)), (a10_75, Ar Z .int 16 (upd zI 0 (kI (-1)))), (a16_75, Ar Z .int 17 (upd zI 1 (kI 0))), (a19_75, Ar Z .int 16 (upd zI 0 (kI (-1)))), (a22_75, Ar Z .int 17 (upd zI 1 (kI 0))), (a25_75, Ar Z .int 17 (upd (upd (upd zI 0 (kI 0)) 1 (kI 0)) 2 (kI 0))), (a28_75, Ar Z .int 17 (upd (upd (upd zI 0 (kI 0)) 1 (kI 0)) 2 (kI 0))), (a34_75, Ar Z .int 16 (cpy zI zI 0 0 0)), (a37_75, Ar Z .int 16 (cpy zI zI 0 0 0)), (a4_79, Ar Z .int 2 (upd (upd zI 0 (kI 0)) 1 (kI 0))), (a10_79, Ar Z .int 2 (upd (upd zI 0 (kI 0)) 1 (kI 0))), (a16_79, Ar Z .int 2 (upd (upd zI 0 (kI 0)) 1 (kI (Int32.ofNat tq91)))), (a7_79, Ar Z .int 2 zI), (a13_79, Ar Z .int 2 zI), (a19_79, Ar Z .int 4 fz), (a71, Ar Z .int 0 zI)] := Wo.pick W128 [0, 1, 26, 4, 34, 3, 8, 9, 2, 5, 6, 7, 10, 11, 12, 13, 14, 15, 16, 17, 18, 19, 20, 21, 22, 23, 24, 25, 27, 28, 29, 30, 31, 32, 33] 35 (by decide +kernel) rfl
      obtain ⟨cq133, kq133, q133a, q133b, q133c⟩ := isOf hZ (rfl : T128.heap = T128.heap) (W132.exa (i := 0) rfl)
      obtain ⟨_, _, ⟨T133, L133, k133, n133⟩, -, X133, ⟨Lc133, hQ133, l133, y133, z133⟩, st133⟩ := X128.virtualBack hx (y := y_va) (z := y_va) hown (mvT hZ (hw _ (mi 124 rfl))) (mvT hZ (hw _ (mi 125 rfl))) (notFace_of_selects (args := #[]) (mvT hZ (hw _ (mi 127 rfl)))) (mvT hZ (hw _ (mi 127 rfl))) (mvT hZ (hw _ (mi 126 rfl))) (by decide) (backOf (W := 0) (rmVA11 l Z a0 hw [] a73 a4_75 a7_75 a10_75 a13_75 a16_75 a19_75 a22_75 a25_75 a28_75 a31_75 a34_75 a37_75 a40_75 a43_75 a6_156_125 a9_156_125 a12_156_125 a15_156_125 a18_156_125 a21_156_125 a26_156_125 a36_156_125 a2 (1 : Int32) (2 : Int32) (Int32.ofNat ((u + t2) + (vc + t2))) (upd (upd (upd zI 0 (kI 0)) 1 (kI (Int32.ofNat tq91))) 2 (kI (Int32.ofNat t2))) (cpy fz zI 0 0 t2) (cpy (upd (upd (upd zD 0 (kD dw0)) 1 (kD dw1)) 2 (kD dw2)) (cpy gy (cpy gz (cpy gy zD 0 0 u) 0 u t2) 0 (u + t2) vc) 0 ((u + t2) + vc) t2) gv (upd (upd zN 0 (kR a43_75)) 1 (kR a36_156_125)) (upd (upd zI 0 (kI 1)) 1 (kI 1)) (upd (upd zI 0 (kI (Int32.ofNat u))) 1 (kI (Int32.ofNat ((u + t2) + vc)))) ch ((u + t2) + vc) ta kt (ta + kt) Sq (own_lw kw0 kw1 kw2) Bq ((a13_75, Ar Z .int 17 (upd zI 1 (kI 2))) :: (a6_156_125, Ar Z .int 4 (upd (upd (upd zI 0 (kI (-1))) 0 (kI 0)) 0 (kI 1))) :: (a9_156_125, Ar Z .int 4 (upd (upd zI 0 (kI 0)) 1 (kI 0))) :: (a12_156_125, Ar Z .int 4 (upd (upd zI 0 (kI (-1))) 1 (kI 0))) :: (a21_156_125, Ar Z .int 4 (upd (upd zI 0 (kI (Int32.ofNat u))) 1 (kI (Int32.ofNat vc)))) :: (a53, Ar Z .double 3 gy) :: (a63, Ar Z .double 3 (upd (upd (upd zD 0 (kD dw0)) 1 (kD dw1)) 2 (kD dw2))) :: (a22_79, Ar Z .double 4 gz) :: (a43_75, Ar Z .double 64 zD) :: (a77, oB Z [.null, (kI 0), (kR a53), (kI (Int32.ofNat u)), (kR a4_79), (kR a7_79), (kR a10_79), (kR a13_79), (kR a16_79), (kR a19_79), (kR a22_79), (kI 2), (kI 0), (kI 0), (kI (Int32.ofNat t2)), .null]) :: (a4_75, Ar Z .int 0 zI) :: (a7_75, Ar Z .int 0 (cpy zI zI 0 0 0)) :: (a10_75, Ar Z .int 16 (upd zI 0 (kI (-1)))) :: (a16_75, Ar Z .int 17 (upd zI 1 (kI 0))) :: (a19_75, Ar Z .int 16 (upd zI 0 (kI (-1)))) :: (a22_75, Ar Z .int 17 (upd zI 1 (kI 0))) :: (a25_75, Ar Z .int 17 (upd (upd (upd zI 0 (kI 0)) 1 (kI 0)) 2 (kI 0))) :: (a28_75, Ar Z .int 17 (upd (upd (upd zI 0 (kI 0)) 1 (kI 0)) 2 (kI 0))) :: (a34_75, Ar Z .int 16 (cpy zI zI 0 0 0)) :: (a37_75, Ar Z .int 16 (cpy zI zI 0 0 0)) :: (a4_79, Ar Z .int 2 (upd (upd zI 0 (kI 0)) 1 (kI 0))) :: (a10_79, Ar Z .int 2 (upd (upd zI 0 (kI 0)) 1 (kI 0))) :: (a16_79, Ar Z .int 2 (upd (upd zI 0 (kI 0)) 1 (kI (Int32.ofNat tq91)))) :: (a7_79, Ar Z .int 2 zI) :: (a13_79, Ar Z .int 2 zI) :: (a19_79, Ar Z .int 4 fz) :: (a71, Ar Z .int 0 zI) :: []) T128.heap n0 W132 hch (by omega) (by omega) rfl hfa hfb (fun t ht => ⟨(show (cpy fz zI 0 0 t2) t = fz t from own_cpy (d := 0) (by omega)).trans (hBl t (by omega)).1, (hBl t (by omega)).2.1⟩) (fun t ht => by rw [show (cpy (upd (upd (upd zD 0 (kD dw0)) 1 (kD dw1)) 2 (kD dw2)) (cpy gy (cpy gz (cpy gy zD 0 0 u) 0 u t2) 0 (u + t2) vc) 0 ((u + t2) + vc) t2) (t + ((u + t2) + vc)) = (upd (upd (upd zD 0 (kD dw0)) 1 (kD dw1)) 2 (kD dw2)) t from own_cpy (by omega)]; exact own_pb hdw0 hdw1 hdw2 t (by omega)) hVq rfl rfl rfl) hZ (hw _ (mi 128 rfl)) (hw _ (mi 7 rfl)) (by decide) (by decide)) q133a q133c (g := K131.g) rfl (by rw [hml]; rfl) (Steps.refl _) (argsL := [(.int (1 : Int32)), (.int (Int32.ofNat ch)), (.ref a2)]) (rest := []) (lenOf pd_va rfl) rfl (by show 2 * 0 + _ ≤ _; exact Nat.le_of_eq rfl) (hb hby at_510) (fun _ _ => ⟨rfl, (rfl : T128.heap = T128.heap), (by decide : 35 + 0 ≤ _), (by decide : 463 + 0 ≤ _)⟩)
      dsimp only [Pt.U, Pt.locs, Pt.cells, Pt.slots] at X133 l133 y133 z133 st133 hQ133
      subst l133 y133 z133
      obtain ⟨ac133, rfl, N133q, W133, hres133⟩ := hQ133
      have N133 := Fr.app N128 N133q
      have K134 : Rc K0 T133 (mkF m 515 #[sJ p1, sV, sJ p2, sV, sI p3, sI p4, sR a2, sD du0, sV, sD du1, sV, sD du2, sV, sD dw0, sV, sD dw1, sV, sD dw2, sV, sI (Int32.ofNat sa0), sI (Int32.ofNat sa1), sI (Int32.ofNat sa2), sI (Int32.ofNat md), sI (Int32.ofNat vc), sI (Int32.ofNat ch), sI (own_bi lbt), sI (own_bi hbt), sR a53, sR a63, sR a71, sR a73, sR a77, sI 1, sI 1, sD ac133, sV, sU, sU, sU] []) := fun t k => K131 t (st133.trans (XS.dstore X133.here hx rfl (hb hby at_513) rfl (l' := #[sJ p1, sV, sJ p2, sV, sI p3, sI p4, sR a2, sD du0, sV, sD du1, sV, sD du2, sV, sD dw0, sV, sD dw1, sV, sD dw2, sV, sI (Int32.ofNat sa0), sI (Int32.ofNat sa1), sI (Int32.ofNat sa2), sI (Int32.ofNat md), sI (Int32.ofNat vc), sI (Int32.ofNat ch), sI (own_bi lbt), sI (own_bi hbt), sR a53, sR a63, sR a71, sR a73, sR a77, sI 1, sI 1, sD ac133, sV, sU, sU, sU]) rfl k))
      have W135 : Wo n0 T133.heap [(a2, Ar Z .double 8 gv), (a73, oR Z [(kR a4_75), (kR a7_75), (kR a10_75), (kR a13_75), (kR a16_75), (kR a19_75), (kR a22_75), (kR a25_75), (kR a28_75), (kR a31_75), (kR a34_75), (kR a37_75), (kR a40_75), (kR a43_75), (kI 1), (kR a6_156_125), (kI 2), (kR a9_156_125), (kR a12_156_125), (kR a15_156_125), (kR a18_156_125), (kR a21_156_125), (kR a26_156_125), (kI 2), (kI (Int32.ofNat ((u + t2) + (vc + t2))))]), (a31_75, Ar Z .int 17 (upd (upd (upd zI 0 (kI 0)) 1 (kI (Int32.ofNat tq91))) 2 (kI (Int32.ofNat t2)))), (a40_75, Ar Z .int 64 (cpy fz zI 0 0 t2)), (a36_156_125, Ar Z .double 64 (cpy (upd (upd (upd zD 0 (kD dw0)) 1 (kD dw1)) 2 (kD dw2)) (cpy gy (cpy gz (cpy gy zD 0 0 u) 0 u t2) 0 (u + t2) vc) 0 ((u + t2) + vc) t2)), (a26_156_125, Pg Z .double 4 (upd (upd zN 0 (kR a43_75)) 1 (kR a36_156_125))), (a15_156_125, Ar Z .int 4 (upd (upd zI 0 (kI 1)) 1 (kI 1))), (a18_156_125, Ar Z .int 4 (upd (upd zI 0 (kI (Int32.ofNat u))) 1 (kI (Int32.ofNat ((u + t2) + vc))))), (a13_75, Ar Z .int 17 (upd zI 1 (kI 2))), (a6_156_125, Ar Z .int 4 (upd (upd (upd zI 0 (kI (-1))) 0 (kI 0)) 0 (kI 1))), (a9_156_125, Ar Z .int 4 (upd (upd zI 0 (kI 0)) 1 (kI 0))), (a12_156_125, Ar Z .int 4 (upd (upd zI 0 (kI (-1))) 1 (kI 0))), (a21_156_125, Ar Z .int 4 (upd (upd zI 0 (kI (Int32.ofNat u))) 1 (kI (Int32.ofNat vc)))), (a53, Ar Z .double 3 gy), (a63, Ar Z .double 3 (upd (upd (upd zD 0 (kD dw0)) 1 (kD dw1)) 2 (kD dw2))), (a22_79, Ar Z .double 4 gz), (a43_75, Ar Z .double 64 zD), (a77, oB Z [.null, (kI 0), (kR a53), (kI (Int32.ofNat u)), (kR a4_79), (kR a7_79), (kR a10_79), (kR a13_79), (kR a16_79), (kR a19_79), (kR a22_79), (kI 2), (kI 0), (kI 0), (kI (Int32.ofNat t2)), .null]), (a4_75, Ar Z .int 0 zI), (a7_75, Ar Z .int 0 (cpy zI zI 0 0 0)), (a10_75, Ar Z .int 16 (upd zI 0 (kI (-1)))), (a16_75, Ar Z .int 17 (upd zI 1 (kI 0))), (a19_75, Ar Z .int 16 (upd zI 0 (kI (-1)))), (a22_75, Ar Z .int 17 (upd zI 1 (kI 0))), (a25_75, Ar Z .int 17 (upd (upd (upd zI 0 (kI 0)) 1 (kI 0)) 2 (kI 0))), (a28_75, Ar Z .int 17 (upd (upd (upd zI 0 (kI 0)) 1 (kI 0)) 2 (kI 0))), (a34_75, Ar Z .int 16 (cpy zI zI 0 0 0)), (a37_75, Ar Z .int 16 (cpy zI zI 0 0 0)), (a4_79, Ar Z .int 2 (upd (upd zI 0 (kI 0)) 1 (kI 0))), (a10_79, Ar Z .int 2 (upd (upd zI 0 (kI 0)) 1 (kI 0))), (a16_79, Ar Z .int 2 (upd (upd zI 0 (kI 0)) 1 (kI (Int32.ofNat tq91)))), (a7_79, Ar Z .int 2 zI), (a13_79, Ar Z .int 2 zI), (a19_79, Ar Z .int 4 fz), (a71, Ar Z .int 0 zI)] := Wo.pick W133 [4, 0, 1, 2, 3, 5, 6, 7, 8, 9, 10, 11, 12, 13, 14, 15, 16, 17, 18, 19, 20, 21, 22, 23, 24, 25, 26, 27, 28, 29, 30, 31, 32, 33, 34] 35 (by decide +kernel) rfl
      obtain ⟨T136, Ls136, X136, e136, K136⟩ := tnE a2 gv du0 du1 du2 dw0 dw1 dw2 ac133 sa0 sa1 sa2 ch true hbt (1 : Int32) ku0 ku1 ku2 kw0 kw1 kw2 Bq (.val (.long p1)) (.second) (.val (.long p2)) (.second) (.val (.int p3)) (.val (.int p4)) (.val (.int (Int32.ofNat md))) (.val (.int (Int32.ofNat vc))) (.val (.int (own_bi lbt))) (.val (.ref a53)) (.val (.ref a63)) (.val (.ref a71)) (.val (.ref a73)) (.val (.ref a77)) (.val (.int (1 : Int32))) ((a73, oR Z [(kR a4_75), (kR a7_75), (kR a10_75), (kR a13_75), (kR a16_75), (kR a19_75), (kR a22_75), (kR a25_75), (kR a28_75), (kR a31_75), (kR a34_75), (kR a37_75), (kR a40_75), (kR a43_75), (kI 1), (kR a6_156_125), (kI 2), (kR a9_156_125), (kR a12_156_125), (kR a15_156_125), (kR a18_156_125), (kR a21_156_125), (kR a26_156_125), (kI 2), (kI (Int32.ofNat ((u + t2) + (vc + t2))))]) :: (a31_75, Ar Z .int 17 (upd (upd (upd zI 0 (kI 0)) 1 (kI (Int32.ofNat tq91))) 2 (kI (Int32.ofNat t2)))) :: (a40_75, Ar Z .int 64 (cpy fz zI 0 0 t2)) :: (a36_156_125, Ar Z .double 64 (cpy (upd (upd (upd zD 0 (kD dw0)) 1 (kD dw1)) 2 (kD dw2)) (cpy gy (cpy gz (cpy gy zD 0 0 u) 0 u t2) 0 (u + t2) vc) 0 ((u + t2) + vc) t2)) :: (a26_156_125, Pg Z .double 4 (upd (upd zN 0 (kR a43_75)) 1 (kR a36_156_125))) :: (a15_156_125, Ar Z .int 4 (upd (upd zI 0 (kI 1)) 1 (kI 1))) :: (a18_156_125, Ar Z .int 4 (upd (upd zI 0 (kI (Int32.ofNat u))) 1 (kI (Int32.ofNat ((u + t2) + vc))))) :: (a13_75, Ar Z .int 17 (upd zI 1 (kI 2))) :: (a6_156_125, Ar Z .int 4 (upd (upd (upd zI 0 (kI (-1))) 0 (kI 0)) 0 (kI 1))) :: (a9_156_125, Ar Z .int 4 (upd (upd zI 0 (kI 0)) 1 (kI 0))) :: (a12_156_125, Ar Z .int 4 (upd (upd zI 0 (kI (-1))) 1 (kI 0))) :: (a21_156_125, Ar Z .int 4 (upd (upd zI 0 (kI (Int32.ofNat u))) 1 (kI (Int32.ofNat vc)))) :: (a53, Ar Z .double 3 gy) :: (a63, Ar Z .double 3 (upd (upd (upd zD 0 (kD dw0)) 1 (kD dw1)) 2 (kD dw2))) :: (a22_79, Ar Z .double 4 gz) :: (a43_75, Ar Z .double 64 zD) :: (a77, oB Z [.null, (kI 0), (kR a53), (kI (Int32.ofNat u)), (kR a4_79), (kR a7_79), (kR a10_79), (kR a13_79), (kR a16_79), (kR a19_79), (kR a22_79), (kI 2), (kI 0), (kI 0), (kI (Int32.ofNat t2)), .null]) :: (a4_75, Ar Z .int 0 zI) :: (a7_75, Ar Z .int 0 (cpy zI zI 0 0 0)) :: (a10_75, Ar Z .int 16 (upd zI 0 (kI (-1)))) :: (a16_75, Ar Z .int 17 (upd zI 1 (kI 0))) :: (a19_75, Ar Z .int 16 (upd zI 0 (kI (-1)))) :: (a22_75, Ar Z .int 17 (upd zI 1 (kI 0))) :: (a25_75, Ar Z .int 17 (upd (upd (upd zI 0 (kI 0)) 1 (kI 0)) 2 (kI 0))) :: (a28_75, Ar Z .int 17 (upd (upd (upd zI 0 (kI 0)) 1 (kI 0)) 2 (kI 0))) :: (a34_75, Ar Z .int 16 (cpy zI zI 0 0 0)) :: (a37_75, Ar Z .int 16 (cpy zI zI 0 0 0)) :: (a4_79, Ar Z .int 2 (upd (upd zI 0 (kI 0)) 1 (kI 0))) :: (a10_79, Ar Z .int 2 (upd (upd zI 0 (kI 0)) 1 (kI 0))) :: (a16_79, Ar Z .int 2 (upd (upd zI 0 (kI 0)) 1 (kI (Int32.ofNat tq91)))) :: (a7_79, Ar Z .int 2 zI) :: (a13_79, Ar Z .int 2 zI) :: (a19_79, Ar Z .int 4 fz) :: (a71, Ar Z .int 0 zI) :: []) X133 hx hZ hw hby hml hown (rfl : T133.heap = T133.heap) W135 rfl hch hsa0 hsa1 hsa2 hVq hdu0 hdw0 hdu1 hdw1 hdu2 hdw2 (by rw [← (hsum Bq kw0 kw1 kw2).2]; exact hres133) K134
      obtain ⟨fs, hr, hrun, hended, hWm, hsame⟩ := X136.leave (v := some (.int (1 : Int32))) (fun h => by rw [Bd.returns] at h; cases h)
      refine ⟨_, _, pre0 _ (K136 _ (retN X136 hx (t := .boolean) Bd.returns (by simp) (hb hby at_661) hr)), hrun, hended, _, _, rfl, ?_, ⟨_, rfl⟩, hWm, hsame.mono (by decide) (by decide)⟩
      show Qrm0 Z p1 p2 p3 p4 n0 _ T136.heap _
      rw [e136]
      exact ⟨rfl, N133⟩
    · have hlb := Bool.eq_false_iff.mpr hl
      have K137 : Rc K0 T128 (mkF m 502 #[sJ p1, sV, sJ p2, sV, sI p3, sI p4, sR a2, sD du0, sV, sD du1, sV, sD du2, sV, sD dw0, sV, sD dw1, sV, sD dw2, sV, sI (Int32.ofNat sa0), sI (Int32.ofNat sa1), sI (Int32.ofNat sa2), sI (Int32.ofNat md), sI (Int32.ofNat vc), sI (Int32.ofNat ch), sI (own_bi lbt), sI (own_bi hbt), sR a53, sR a63, sR a71, sR a73, sR a77, sI 0, sI 0, sI 1, sU, sU, sU, sU] []) := fun t k => K129 t (XS.ifYes X128.here hx rfl (pc0 := 492) (pc' := 502) rfl (hb hby at_492) rfl ((if0 _ _).trans (teq (show own_bi lbt = 0 from by rw [hlb]; rfl)).1) (by decide) (by decide) k)
      obtain ⟨ta, kt, hfa, hfb, hle, hk2, hsum⟩ := hCh (upd (upd (upd zI 0 (kI 0)) 1 (kI (Int32.ofNat tq91))) 2 (kI (Int32.ofNat t2))) rfl rfl rfl ch hch
      have K138 : Rc K0 T128 (mkF m 510 #[sJ p1, sV, sJ p2, sV, sI p3, sI p4, sR a2, sD du0, sV, sD du1, sV, sD du2, sV, sD dw0, sV, sD dw1, sV, sD dw2, sV, sI (Int32.ofNat sa0), sI (Int32.ofNat sa1), sI (Int32.ofNat sa2), sI (Int32.ofNat md), sI (Int32.ofNat vc), sI (Int32.ofNat ch), sI (own_bi lbt), sI (own_bi hbt), sR a53, sR a63, sR a71, sR a73, sR a77, sI 0, sI 0, sI 1, sU, sU, sU, sU] [(kR a2), (kI (Int32.ofNat ch)), (kI 0), (kR a73)]) := fun t k => K137 t (by
        refine XS.aload X128.here hx rfl (hb hby at_502) rfl rfl ?_
        refine XS.iload X128.here hx rfl (hb hby at_504) rfl ?_
        refine XS.iload X128.here hx rfl (hb hby at_506) rfl ?_
        refine XS.aload X128.here hx rfl (hb hby at_508) rfl rfl ?_
        exact k)
      have W139 : Wo n0 T128.heap [(a73, oR Z [(kR a4_75), (kR a7_75), (kR a10_75), (kR a13_75), (kR a16_75), (kR a19_75), (kR a22_75), (kR a25_75), (kR a28_75), (kR a31_75), (kR a34_75), (kR a37_75), (kR a40_75), (kR a43_75), (kI 1), (kR a6_156_125), (kI 2), (kR a9_156_125), (kR a12_156_125), (kR a15_156_125), (kR a18_156_125), (kR a21_156_125), (kR a26_156_125), (kI 2), (kI (Int32.ofNat ((u + t2) + (vc + t2))))]), (a31_75, Ar Z .int 17 (upd (upd (upd zI 0 (kI 0)) 1 (kI (Int32.ofNat tq91))) 2 (kI (Int32.ofNat t2)))), (a40_75, Ar Z .int 64 (cpy fz zI 0 0 t2)), (a36_156_125, Ar Z .double 64 (cpy (upd (upd (upd zD 0 (kD dw0)) 1 (kD dw1)) 2 (kD dw2)) (cpy gy (cpy gz (cpy gy zD 0 0 u) 0 u t2) 0 (u + t2) vc) 0 ((u + t2) + vc) t2)), (a2, Ar Z .double 8 gv), (a26_156_125, Pg Z .double 4 (upd (upd zN 0 (kR a43_75)) 1 (kR a36_156_125))), (a15_156_125, Ar Z .int 4 (upd (upd zI 0 (kI 1)) 1 (kI 1))), (a18_156_125, Ar Z .int 4 (upd (upd zI 0 (kI (Int32.ofNat u))) 1 (kI (Int32.ofNat ((u + t2) + vc))))), (a13_75, Ar Z .int 17 (upd zI 1 (kI 2))), (a6_156_125, Ar Z .int 4 (upd (upd (upd zI 0 (kI (-1))) 0 (kI 0)) 0 (kI 1))), (a9_156_125, Ar Z .int 4 (upd (upd zI 0 (kI 0)) 1 (kI 0))), (a12_156_125, Ar Z .int 4 (upd (upd zI 0 (kI (-1))) 1 (kI 0))), (a21_156_125, Ar Z .int 4 (upd (upd zI 0 (kI (Int32.ofNat u))) 1 (kI (Int32.ofNat vc)))), (a53, Ar Z .double 3 gy), (a63, Ar Z .double 3 (upd (upd (upd zD 0 (kD dw0)) 1 (kD dw1)) 2 (kD dw2))), (a22_79, Ar Z .double 4 gz), (a43_75, Ar Z .double 64 zD), (a77, oB Z [.null, (kI 0), (kR a53), (kI (Int32.ofNat u)), (kR a4_79), (kR a7_79), (kR a10_79), (kR a13_79), (kR a16_79), (kR a19_79), (kR a22_79), (kI 2), (kI 0), (kI 0), (kI (Int32.ofNat t2)), .null]), (a4_75, Ar Z .int 0 zI), (a7_75, Ar Z .int 0 (cpy zI zI 0 0 0)), (a10_75, Ar Z .int 16 (upd zI 0 (kI (-1)))), (a16_75, Ar Z .int 17 (upd zI 1 (kI 0))), (a19_75, Ar Z .int 16 (upd zI 0 (kI (-1)))), (a22_75, Ar Z .int 17 (upd zI 1 (kI 0))), (a25_75, Ar Z .int 17 (upd (upd (upd zI 0 (kI 0)) 1 (kI 0)) 2 (kI 0))), (a28_75, Ar Z .int 17 (upd (upd (upd zI 0 (kI 0)) 1 (kI 0)) 2 (kI 0))), (a34_75, Ar Z .int 16 (cpy zI zI 0 0 0)), (a37_75, Ar Z .int 16 (cpy zI zI 0 0 0)), (a4_79, Ar Z .int 2 (upd (upd zI 0 (kI 0)) 1 (kI 0))), (a10_79, Ar Z .int 2 (upd (upd zI 0 (kI 0)) 1 (kI 0))), (a16_79, Ar Z .int 2 (upd (upd zI 0 (kI 0)) 1 (kI (Int32.ofNat tq91)))), (a7_79, Ar Z .int 2 zI), (a13_79, Ar Z .int 2 zI), (a19_79, Ar Z .int 4 fz), (a71, Ar Z .int 0 zI)] := Wo.pick W128 [0, 1, 26, 4, 34, 3, 8, 9, 2, 5, 6, 7, 10, 11, 12, 13, 14, 15, 16, 17, 18, 19, 20, 21, 22, 23, 24, 25, 27, 28, 29, 30, 31, 32, 33] 35 (by decide +kernel) rfl
      obtain ⟨cq140, kq140, q140a, q140b, q140c⟩ := isOf hZ (rfl : T128.heap = T128.heap) (W139.exa (i := 0) rfl)
      obtain ⟨_, _, ⟨T140, L140, k140, n140⟩, -, X140, ⟨Lc140, hQ140, l140, y140, z140⟩, st140⟩ := X128.virtualBack hx (y := y_va) (z := y_va) hown (mvT hZ (hw _ (mi 124 rfl))) (mvT hZ (hw _ (mi 125 rfl))) (notFace_of_selects (args := #[]) (mvT hZ (hw _ (mi 127 rfl)))) (mvT hZ (hw _ (mi 127 rfl))) (mvT hZ (hw _ (mi 126 rfl))) (by decide) (backOf (W := 0) (rmVA01 l Z a0 hw [] a73 a4_75 a7_75 a10_75 a13_75 a16_75 a19_75 a22_75 a25_75 a28_75 a31_75 a34_75 a37_75 a40_75 a43_75 a6_156_125 a9_156_125 a12_156_125 a15_156_125 a18_156_125 a21_156_125 a26_156_125 a36_156_125 a2 (1 : Int32) (2 : Int32) (Int32.ofNat ((u + t2) + (vc + t2))) (upd (upd (upd zI 0 (kI 0)) 1 (kI (Int32.ofNat tq91))) 2 (kI (Int32.ofNat t2))) (cpy fz zI 0 0 t2) (cpy (upd (upd (upd zD 0 (kD dw0)) 1 (kD dw1)) 2 (kD dw2)) (cpy gy (cpy gz (cpy gy zD 0 0 u) 0 u t2) 0 (u + t2) vc) 0 ((u + t2) + vc) t2) gv (upd (upd zN 0 (kR a43_75)) 1 (kR a36_156_125)) (upd (upd zI 0 (kI 1)) 1 (kI 1)) (upd (upd zI 0 (kI (Int32.ofNat u))) 1 (kI (Int32.ofNat ((u + t2) + vc)))) ch u ta kt (ta + kt) Sq wq Bq ((a13_75, Ar Z .int 17 (upd zI 1 (kI 2))) :: (a6_156_125, Ar Z .int 4 (upd (upd (upd zI 0 (kI (-1))) 0 (kI 0)) 0 (kI 1))) :: (a9_156_125, Ar Z .int 4 (upd (upd zI 0 (kI 0)) 1 (kI 0))) :: (a12_156_125, Ar Z .int 4 (upd (upd zI 0 (kI (-1))) 1 (kI 0))) :: (a21_156_125, Ar Z .int 4 (upd (upd zI 0 (kI (Int32.ofNat u))) 1 (kI (Int32.ofNat vc)))) :: (a53, Ar Z .double 3 gy) :: (a63, Ar Z .double 3 (upd (upd (upd zD 0 (kD dw0)) 1 (kD dw1)) 2 (kD dw2))) :: (a22_79, Ar Z .double 4 gz) :: (a43_75, Ar Z .double 64 zD) :: (a77, oB Z [.null, (kI 0), (kR a53), (kI (Int32.ofNat u)), (kR a4_79), (kR a7_79), (kR a10_79), (kR a13_79), (kR a16_79), (kR a19_79), (kR a22_79), (kI 2), (kI 0), (kI 0), (kI (Int32.ofNat t2)), .null]) :: (a4_75, Ar Z .int 0 zI) :: (a7_75, Ar Z .int 0 (cpy zI zI 0 0 0)) :: (a10_75, Ar Z .int 16 (upd zI 0 (kI (-1)))) :: (a16_75, Ar Z .int 17 (upd zI 1 (kI 0))) :: (a19_75, Ar Z .int 16 (upd zI 0 (kI (-1)))) :: (a22_75, Ar Z .int 17 (upd zI 1 (kI 0))) :: (a25_75, Ar Z .int 17 (upd (upd (upd zI 0 (kI 0)) 1 (kI 0)) 2 (kI 0))) :: (a28_75, Ar Z .int 17 (upd (upd (upd zI 0 (kI 0)) 1 (kI 0)) 2 (kI 0))) :: (a34_75, Ar Z .int 16 (cpy zI zI 0 0 0)) :: (a37_75, Ar Z .int 16 (cpy zI zI 0 0 0)) :: (a4_79, Ar Z .int 2 (upd (upd zI 0 (kI 0)) 1 (kI 0))) :: (a10_79, Ar Z .int 2 (upd (upd zI 0 (kI 0)) 1 (kI 0))) :: (a16_79, Ar Z .int 2 (upd (upd zI 0 (kI 0)) 1 (kI (Int32.ofNat tq91)))) :: (a7_79, Ar Z .int 2 zI) :: (a13_79, Ar Z .int 2 zI) :: (a19_79, Ar Z .int 4 fz) :: (a71, Ar Z .int 0 zI) :: []) T128.heap n0 W139 hch (by omega) (by omega) rfl hfa hfb (fun t ht => ⟨(show (cpy fz zI 0 0 t2) t = fz t from own_cpy (d := 0) (by omega)).trans (hBl t (by omega)).1, (hBl t (by omega)).2.1⟩) (fun t ht => by rw [show (cpy (upd (upd (upd zD 0 (kD dw0)) 1 (kD dw1)) 2 (kD dw2)) (cpy gy (cpy gz (cpy gy zD 0 0 u) 0 u t2) 0 (u + t2) vc) 0 ((u + t2) + vc) t2) (t + u) = gz t from own_c3 (by omega)]; exact (hBl t (by omega)).2.2) hVq rfl rfl rfl) hZ (hw _ (mi 128 rfl)) (hw _ (mi 7 rfl)) (by decide) (by decide)) q140a q140c (g := K138.g) rfl (by rw [hml]; rfl) (Steps.refl _) (argsL := [(.int (0 : Int32)), (.int (Int32.ofNat ch)), (.ref a2)]) (rest := []) (lenOf pd_va rfl) rfl (by show 2 * 0 + _ ≤ _; exact Nat.le_of_eq rfl) (hb hby at_510) (fun _ _ => ⟨rfl, (rfl : T128.heap = T128.heap), (by decide : 35 + 0 ≤ _), (by decide : 463 + 0 ≤ _)⟩)
      dsimp only [Pt.U, Pt.locs, Pt.cells, Pt.slots] at X140 l140 y140 z140 st140 hQ140
      subst l140 y140 z140
      obtain ⟨ac140, rfl, N140q, W140, hres140⟩ := hQ140
      have N140 := Fr.app N128 N140q
      have K141 : Rc K0 T140 (mkF m 515 #[sJ p1, sV, sJ p2, sV, sI p3, sI p4, sR a2, sD du0, sV, sD du1, sV, sD du2, sV, sD dw0, sV, sD dw1, sV, sD dw2, sV, sI (Int32.ofNat sa0), sI (Int32.ofNat sa1), sI (Int32.ofNat sa2), sI (Int32.ofNat md), sI (Int32.ofNat vc), sI (Int32.ofNat ch), sI (own_bi lbt), sI (own_bi hbt), sR a53, sR a63, sR a71, sR a73, sR a77, sI 0, sI 0, sD ac140, sV, sU, sU, sU] []) := fun t k => K138 t (st140.trans (XS.dstore X140.here hx rfl (hb hby at_513) rfl (l' := #[sJ p1, sV, sJ p2, sV, sI p3, sI p4, sR a2, sD du0, sV, sD du1, sV, sD du2, sV, sD dw0, sV, sD dw1, sV, sD dw2, sV, sI (Int32.ofNat sa0), sI (Int32.ofNat sa1), sI (Int32.ofNat sa2), sI (Int32.ofNat md), sI (Int32.ofNat vc), sI (Int32.ofNat ch), sI (own_bi lbt), sI (own_bi hbt), sR a53, sR a63, sR a71, sR a73, sR a77, sI 0, sI 0, sD ac140, sV, sU, sU, sU]) rfl k))
      have W142 : Wo n0 T140.heap [(a2, Ar Z .double 8 gv), (a73, oR Z [(kR a4_75), (kR a7_75), (kR a10_75), (kR a13_75), (kR a16_75), (kR a19_75), (kR a22_75), (kR a25_75), (kR a28_75), (kR a31_75), (kR a34_75), (kR a37_75), (kR a40_75), (kR a43_75), (kI 1), (kR a6_156_125), (kI 2), (kR a9_156_125), (kR a12_156_125), (kR a15_156_125), (kR a18_156_125), (kR a21_156_125), (kR a26_156_125), (kI 2), (kI (Int32.ofNat ((u + t2) + (vc + t2))))]), (a31_75, Ar Z .int 17 (upd (upd (upd zI 0 (kI 0)) 1 (kI (Int32.ofNat tq91))) 2 (kI (Int32.ofNat t2)))), (a40_75, Ar Z .int 64 (cpy fz zI 0 0 t2)), (a36_156_125, Ar Z .double 64 (cpy (upd (upd (upd zD 0 (kD dw0)) 1 (kD dw1)) 2 (kD dw2)) (cpy gy (cpy gz (cpy gy zD 0 0 u) 0 u t2) 0 (u + t2) vc) 0 ((u + t2) + vc) t2)), (a26_156_125, Pg Z .double 4 (upd (upd zN 0 (kR a43_75)) 1 (kR a36_156_125))), (a15_156_125, Ar Z .int 4 (upd (upd zI 0 (kI 1)) 1 (kI 1))), (a18_156_125, Ar Z .int 4 (upd (upd zI 0 (kI (Int32.ofNat u))) 1 (kI (Int32.ofNat ((u + t2) + vc))))), (a13_75, Ar Z .int 17 (upd zI 1 (kI 2))), (a6_156_125, Ar Z .int 4 (upd (upd (upd zI 0 (kI (-1))) 0 (kI 0)) 0 (kI 1))), (a9_156_125, Ar Z .int 4 (upd (upd zI 0 (kI 0)) 1 (kI 0))), (a12_156_125, Ar Z .int 4 (upd (upd zI 0 (kI (-1))) 1 (kI 0))), (a21_156_125, Ar Z .int 4 (upd (upd zI 0 (kI (Int32.ofNat u))) 1 (kI (Int32.ofNat vc)))), (a53, Ar Z .double 3 gy), (a63, Ar Z .double 3 (upd (upd (upd zD 0 (kD dw0)) 1 (kD dw1)) 2 (kD dw2))), (a22_79, Ar Z .double 4 gz), (a43_75, Ar Z .double 64 zD), (a77, oB Z [.null, (kI 0), (kR a53), (kI (Int32.ofNat u)), (kR a4_79), (kR a7_79), (kR a10_79), (kR a13_79), (kR a16_79), (kR a19_79), (kR a22_79), (kI 2), (kI 0), (kI 0), (kI (Int32.ofNat t2)), .null]), (a4_75, Ar Z .int 0 zI), (a7_75, Ar Z .int 0 (cpy zI zI 0 0 0)), (a10_75, Ar Z .int 16 (upd zI 0 (kI (-1)))), (a16_75, Ar Z .int 17 (upd zI 1 (kI 0))), (a19_75, Ar Z .int 16 (upd zI 0 (kI (-1)))), (a22_75, Ar Z .int 17 (upd zI 1 (kI 0))), (a25_75, Ar Z .int 17 (upd (upd (upd zI 0 (kI 0)) 1 (kI 0)) 2 (kI 0))), (a28_75, Ar Z .int 17 (upd (upd (upd zI 0 (kI 0)) 1 (kI 0)) 2 (kI 0))), (a34_75, Ar Z .int 16 (cpy zI zI 0 0 0)), (a37_75, Ar Z .int 16 (cpy zI zI 0 0 0)), (a4_79, Ar Z .int 2 (upd (upd zI 0 (kI 0)) 1 (kI 0))), (a10_79, Ar Z .int 2 (upd (upd zI 0 (kI 0)) 1 (kI 0))), (a16_79, Ar Z .int 2 (upd (upd zI 0 (kI 0)) 1 (kI (Int32.ofNat tq91)))), (a7_79, Ar Z .int 2 zI), (a13_79, Ar Z .int 2 zI), (a19_79, Ar Z .int 4 fz), (a71, Ar Z .int 0 zI)] := Wo.pick W140 [4, 0, 1, 2, 3, 5, 6, 7, 8, 9, 10, 11, 12, 13, 14, 15, 16, 17, 18, 19, 20, 21, 22, 23, 24, 25, 26, 27, 28, 29, 30, 31, 32, 33, 34] 35 (by decide +kernel) rfl
      obtain ⟨T143, Ls143, X143, e143, K143⟩ := tnE a2 gv du0 du1 du2 dw0 dw1 dw2 ac140 sa0 sa1 sa2 ch false hbt (0 : Int32) ku0 ku1 ku2 kw0 kw1 kw2 Bq (.val (.long p1)) (.second) (.val (.long p2)) (.second) (.val (.int p3)) (.val (.int p4)) (.val (.int (Int32.ofNat md))) (.val (.int (Int32.ofNat vc))) (.val (.int (own_bi lbt))) (.val (.ref a53)) (.val (.ref a63)) (.val (.ref a71)) (.val (.ref a73)) (.val (.ref a77)) (.val (.int (0 : Int32))) ((a73, oR Z [(kR a4_75), (kR a7_75), (kR a10_75), (kR a13_75), (kR a16_75), (kR a19_75), (kR a22_75), (kR a25_75), (kR a28_75), (kR a31_75), (kR a34_75), (kR a37_75), (kR a40_75), (kR a43_75), (kI 1), (kR a6_156_125), (kI 2), (kR a9_156_125), (kR a12_156_125), (kR a15_156_125), (kR a18_156_125), (kR a21_156_125), (kR a26_156_125), (kI 2), (kI (Int32.ofNat ((u + t2) + (vc + t2))))]) :: (a31_75, Ar Z .int 17 (upd (upd (upd zI 0 (kI 0)) 1 (kI (Int32.ofNat tq91))) 2 (kI (Int32.ofNat t2)))) :: (a40_75, Ar Z .int 64 (cpy fz zI 0 0 t2)) :: (a36_156_125, Ar Z .double 64 (cpy (upd (upd (upd zD 0 (kD dw0)) 1 (kD dw1)) 2 (kD dw2)) (cpy gy (cpy gz (cpy gy zD 0 0 u) 0 u t2) 0 (u + t2) vc) 0 ((u + t2) + vc) t2)) :: (a26_156_125, Pg Z .double 4 (upd (upd zN 0 (kR a43_75)) 1 (kR a36_156_125))) :: (a15_156_125, Ar Z .int 4 (upd (upd zI 0 (kI 1)) 1 (kI 1))) :: (a18_156_125, Ar Z .int 4 (upd (upd zI 0 (kI (Int32.ofNat u))) 1 (kI (Int32.ofNat ((u + t2) + vc))))) :: (a13_75, Ar Z .int 17 (upd zI 1 (kI 2))) :: (a6_156_125, Ar Z .int 4 (upd (upd (upd zI 0 (kI (-1))) 0 (kI 0)) 0 (kI 1))) :: (a9_156_125, Ar Z .int 4 (upd (upd zI 0 (kI 0)) 1 (kI 0))) :: (a12_156_125, Ar Z .int 4 (upd (upd zI 0 (kI (-1))) 1 (kI 0))) :: (a21_156_125, Ar Z .int 4 (upd (upd zI 0 (kI (Int32.ofNat u))) 1 (kI (Int32.ofNat vc)))) :: (a53, Ar Z .double 3 gy) :: (a63, Ar Z .double 3 (upd (upd (upd zD 0 (kD dw0)) 1 (kD dw1)) 2 (kD dw2))) :: (a22_79, Ar Z .double 4 gz) :: (a43_75, Ar Z .double 64 zD) :: (a77, oB Z [.null, (kI 0), (kR a53), (kI (Int32.ofNat u)), (kR a4_79), (kR a7_79), (kR a10_79), (kR a13_79), (kR a16_79), (kR a19_79), (kR a22_79), (kI 2), (kI 0), (kI 0), (kI (Int32.ofNat t2)), .null]) :: (a4_75, Ar Z .int 0 zI) :: (a7_75, Ar Z .int 0 (cpy zI zI 0 0 0)) :: (a10_75, Ar Z .int 16 (upd zI 0 (kI (-1)))) :: (a16_75, Ar Z .int 17 (upd zI 1 (kI 0))) :: (a19_75, Ar Z .int 16 (upd zI 0 (kI (-1)))) :: (a22_75, Ar Z .int 17 (upd zI 1 (kI 0))) :: (a25_75, Ar Z .int 17 (upd (upd (upd zI 0 (kI 0)) 1 (kI 0)) 2 (kI 0))) :: (a28_75, Ar Z .int 17 (upd (upd (upd zI 0 (kI 0)) 1 (kI 0)) 2 (kI 0))) :: (a34_75, Ar Z .int 16 (cpy zI zI 0 0 0)) :: (a37_75, Ar Z .int 16 (cpy zI zI 0 0 0)) :: (a4_79, Ar Z .int 2 (upd (upd zI 0 (kI 0)) 1 (kI 0))) :: (a10_79, Ar Z .int 2 (upd (upd zI 0 (kI 0)) 1 (kI 0))) :: (a16_79, Ar Z .int 2 (upd (upd zI 0 (kI 0)) 1 (kI (Int32.ofNat tq91)))) :: (a7_79, Ar Z .int 2 zI) :: (a13_79, Ar Z .int 2 zI) :: (a19_79, Ar Z .int 4 fz) :: (a71, Ar Z .int 0 zI) :: []) X140 hx hZ hw hby hml hown (rfl : T140.heap = T140.heap) W142 rfl hch hsa0 hsa1 hsa2 hVq hdu0 hdw0 hdu1 hdw1 hdu2 hdw2 (by rw [← (hsum Bq kw0 kw1 kw2).1]; exact hres140) K141
      obtain ⟨fs, hr, hrun, hended, hWm, hsame⟩ := X143.leave (v := some (.int (1 : Int32))) (fun h => by rw [Bd.returns] at h; cases h)
      refine ⟨_, _, pre0 _ (K143 _ (retN X143 hx (t := .boolean) Bd.returns (by simp) (hb hby at_661) hr)), hrun, hended, _, _, rfl, ?_, ⟨_, rfl⟩, hWm, hsame.mono (by decide) (by decide)⟩
      show Qrm0 Z p1 p2 p3 p4 n0 _ T143.heap _
      rw [e143]
      exact ⟨rfl, N140⟩
set_option maxRecDepth 65536 in
set_option maxHeartbeats 40000000 in
theorem comes_1 {Post : Tables → Env → Array Value → State → Outcome → State → Prop} (hpost : ∀ tb e args s v u, (limb_1_1.after args s (.returned v) u = true ∧ limb_1_2.after args s (.returned v) u = true ∧ True) → FrameEnd s (.returned v) u (Jvm.fieldLocs frame_1_writes args s ++ Jvm.arrayLocs frame_1_arrays args s ++ Jvm.staticLocs frame_1_statics s) 80 1024 → Post tb e args s (.returned v) u) :
    ArmFor flags0 classFile x code maxLocals ret World_1 tables_1 room_1 Calls_1 rest_1 Pre_1 Post := by
  intro l hfl _ _ p e ha hc hk s m args below hf hA hF happ hP
  obtain ⟨hcalls, hrest, hpre⟩ := hP
  obtain ⟨-, -, -, hnamed, -, -, -, hat⟩ := (Spec.applies_iff hf).mp happ
  obtain ⟨hg, hn⟩ := and_e (Cond.before_iff.mp (show (Jvm.Cond.and given_1 narrow_1).before args s = true from hpre))
  obtain ⟨gc, g0⟩ := and_e hg
  obtain ⟨q0, g1⟩ := and_e g0
  obtain ⟨q1, g2⟩ := and_e g1
  obtain ⟨q2, g3⟩ := and_e g2
  obtain ⟨w0, w1, w2, w3, rfl⟩ : ∃ w0 w1 w2 w3 : Value, args = #[w0, w1, w2, w3] := by
    have hs : args.size = 4 := by simpa [Cond.value, given_1] using gc
    obtain ⟨L⟩ := args
    match L, hs with
    | [w0, w1, w2, w3], _ => exact ⟨w0, w1, w2, w3, rfl⟩
  have hw := fun d (hd : d ∈ tables_1) => atoms_spec (ws := Jvm.Cond.code x code maxLocals ret :: tables_1) hat d (List.mem_cons_of_mem _ hd)
  obtain ⟨i0, ei0⟩ := isL_v q0
  obtain rfl : w0 = (.long i0) := Option.some.inj ei0
  obtain ⟨i1, ei1⟩ := isL_v q1
  obtain rfl : w1 = (.long i1) := Option.some.inj ei1
  obtain ⟨i2, ei2⟩ := is_v q2
  obtain rfl : w2 = (.int i2) := Option.some.inj ei2
  obtain ⟨i3, ei3⟩ := is_v g3
  obtain rfl : w3 = (.int i3) := Option.some.inj ei3
  obtain ⟨n, o, h1, h2, h3, _, L, rfl, ⟨rfl, N⟩, hq⟩ := rm0 l s _ hw tables_1 i0 i1 i2 i3 s.heap s.heap.size (Wo.nil (Nat.le_refl _)) p e ha hc hk s m _ below hf ((Spec.applies_iff_loose hf).mp happ).1 ⟨rfl, State.Warmed39.refl s, rfl⟩ trivial
  refine ⟨n, _, h1, h2, h3, hpost _ _ _ _ _ _ ⟨Cond.after_iff.mpr rfl, Cond.after_iff.mpr (eq_i res_at (Term.int_eval (1)) rfl), trivial⟩ ⟨hq.1, hq.2.1, (hq.2.2.sift fun y hy => Or.inr (N y hy)).mono (by decide) (by decide)⟩⟩
theorem main_1_1 : Claimed_1_1 := comes_1 fun _ _ _ _ _ _ h hF => ⟨h.1, hF⟩
theorem main_1_2 : Claimed_1_2 := comes_1 fun _ _ _ _ _ _ h hF => ⟨h.2.1, hF⟩
end Jvm.Pilot.@@N@@
namespace Jvm.Pilot.@@N@@
open Jvm Jvm.ClassFile Sem Op Lib Jvm.Free Jvm.Stand Jvm.Pilot.@@N@@.Jvm.D
/-! MADE BY PROGRAM (witnessworld.py) out of the Statement's table words and the real class files: 19 classes; the members and pool entries that the words name. The judged class is class 1, her method 1. -/
namespace start1
open Jvm.ClassFile
def u (s : String) : CpInfo := .utf8 (stringToUtf16 s)
/-- a pool by its gaps: so many unusable entries, then the entry; so many at the end -/
def gap : Nat → List CpInfo → List CpInfo
  | 0, r => r
  | n + 1, r => .unusable :: gap n r
def poolList (es : List (Nat × CpInfo)) (last : Nat) : List CpInfo := es.foldr (fun e r => gap e.1 (e.2 :: r)) (gap last [])
def pool (es : List (Nat × CpInfo)) (last : Nat) : Array CpInfo := ⟨poolList es last⟩
def fileOf (pool : Array CpInfo) (this : Nat) (attrs : Array Attribute := #[]) (ms : Array MethodInfo := #[]) (fl : Nat := 33) (sup : Nat := 0) (ifs : Array Nat := #[]) (fds : Array FieldInfo := #[]) : ClassFile where
  minorVersion := 0
  majorVersion := 65
  constantPool := pool
  accessFlags := fl
  thisClass := this
  superClass := sup
  interfaces := ifs
  fields := fds
  methods := ms
  attributes := attrs
def plain (name : String) (sup : Option ClassId) : Class where
  name := name
  kind := .ordinary
  loader := none
  accessFlags := 33
  super := sup
  interfaces := #[]
  cf := none
  fields := #[]
  methods := #[]
  instanceTypes := #[]
  staticTypes := #[]
  resolved := #[]
  callSites := []
  init := .initialized
  statics := none
  mirror := none

def resd (n : Nat) (L : List (Nat × Resolved)) : Array (Option Resolved) := ⟨(List.range n).map fun i => (L.find? (fun x => x.1 == i)).map (·.2)⟩
def pool0 : Array CpInfo := pool [(5, u "<init>"), (0, u "()V"), (1, .class_ 10), (1, u "java/lang/Object")] 113

def k0c0 : Code := { maxStack := 0, maxLocals := 1, code := object_method_1_code, exceptionTable := #[], attributes := #[] }
def k0m0 : Method := { name := "<init>", desc := "()V", sig := { parameters := [], returnType := none }, accessFlags := 1, code := some k0c0 }
/-- java/lang/Object -/
def k0 : Class := { plain "java/lang/Object" none with
  accessFlags := 33
  interfaces := #[]
  cf := some (fileOf pool0 8 #[] #[{ accessFlags := 1, nameIndex := 5, descriptorIndex := 6, attributes := #[] }] 33 0 #[] #[])
  fields := #[]
  methods := #[k0m0]
  instanceTypes := #[]
  staticTypes := #[]
  resolved := Array.replicate 124 none
  statics := none }

def pool1 : Array CpInfo := pool [(2, .class_ 4), (0, .nameAndType 5 6), (0, u "java/lang/Object"), (0, u "<init>"), (0, u "()V"), (0, .long 15), (1, .double 4625196817309499392), (1, .long 7), (1, .class_ 14), (0, u "com/example/sambre/sambre/engine/Rows"), (0, .methodref 13 3), (0, .class_ 17), (0, u "com/example/sambre/sambre/engine/Rows$Builder"), (0, .methodref 16 3), (0, .methodref 16 20), (0, .nameAndType 21 22), (0, u "start"), (0, u "([II[DI)V"), (0, .methodref 16 24), (0, .nameAndType 25 6), (0, u "startChoice"), (0, .methodref 16 27), (0, .nameAndType 28 29), (0, u "addMove"), (0, u "(ID)I"), (0, .methodref 13 31), (0, .nameAndType 32 33), (0, u "add"), (0, u "(Lcom/example/sambre/sambre/engine/Rows$Builder;[II)I"), (0, .methodref 13 35), (0, .nameAndType 36 37), (0, u "addToShape"), (0, u "(I[D[DI)I"), (0, .methodref 13 39), (0, .nameAndType 40 41), (0, u "value"), (0, u "(II[D)D"), (0, .class_ 43), (0, u "com/example/sambre/sambre/engine/RowsValuePinLaw"), (2, u "law"), (0, u "(JJII)Z")] 9

def k1m0 : Method := { name := "<init>", desc := "()V", sig := { parameters := [], returnType := none }, accessFlags := 1, code := none }
def k1c1 : Code := { maxStack := 6, maxLocals := 39, code := code, exceptionTable := #[], attributes := #[] }
def k1m1 : Method := { name := "law", desc := "(JJII)Z", sig := { parameters := [.long, .long, .int, .int], returnType := some .boolean }, accessFlags := 9, code := some k1c1 }
/-- com/example/sambre/sambre/engine/RowsValuePinLaw -/
def k1 : Class := { plain "com/example/sambre/sambre/engine/RowsValuePinLaw" (some 0) with
  accessFlags := 49
  interfaces := #[]
  cf := some (fileOf pool1 42 #[] #[{ accessFlags := 1, nameIndex := 5, descriptorIndex := 6, attributes := #[] }, { accessFlags := 9, nameIndex := 46, descriptorIndex := 47, attributes := #[] }] 49 2 #[] #[])
  fields := #[]
  methods := #[k1m0, k1m1]
  instanceTypes := #[]
  staticTypes := #[]
  resolved := Array.replicate 57 none
  statics := none }

def pool2 : Array CpInfo := pool [(1, .methodref 2 3), (0, .class_ 4), (0, .nameAndType 5 6), (0, u "java/lang/Object"), (0, u "<init>"), (0, u "()V"), (0, .fieldref 8 9), (0, .class_ 10), (0, .nameAndType 11 12), (0, u "com/example/sambre/sambre/engine/Rows"), (0, u "keys"), (0, u "[I"), (0, .fieldref 8 14), (0, .nameAndType 15 12), (0, u "ranges"), (0, .fieldref 8 17), (0, .nameAndType 18 12), (0, u "nextShape"), (0, .fieldref 8 20), (0, .nameAndType 21 12), (0, u "firstChoice"), (0, .fieldref 8 23), (0, .nameAndType 24 12), (0, u "firstKey"), (0, .fieldref 8 26), (0, .nameAndType 27 12), (0, u "keyLength"), (0, .fieldref 8 29), (0, .nameAndType 30 12), (0, u "firstRange"), (0, .fieldref 8 32), (0, .nameAndType 33 12), (0, u "firstAction"), (0, .fieldref 8 35), (0, .nameAndType 36 12), (0, u "firstCommand"), (0, .fieldref 8 38), (0, .nameAndType 39 12), (0, u "firstTransition"), (0, .fieldref 8 41), (0, .nameAndType 42 12), (0, u "actions"), (0, .fieldref 8 44), (0, .nameAndType 45 12), (0, u "commands"), (0, .fieldref 8 47), (0, .nameAndType 48 12), (0, u "successors"), (0, .fieldref 8 50), (0, .nameAndType 51 52), (0, u "probabilities"), (0, u "[D"), (0, .fieldref 8 54), (0, .nameAndType 55 56), (0, u "shapeCount"), (0, u "I"), (0, .fieldref 58 59), (0, .class_ 60), (0, .nameAndType 61 56), (0, u "com/example/sambre/sambre/engine/Rows$Builder"), (0, u "choiceCount"), (0, .fieldref 58 63), (0, .nameAndType 64 12), (0, u "key"), (0, .fieldref 58 66), (0, .nameAndType 27 56), (0, .fieldref 8 68), (0, .nameAndType 69 12), (0, u "lastRow"), (0, .fieldref 58 71), (0, .nameAndType 72 56), (0, u "varyingCount"), (0, .fieldref 58 74), (0, .nameAndType 75 56), (0, u "actionCount"), (0, .fieldref 58 77), (0, .nameAndType 78 56), (0, u "commandCount"), (0, .fieldref 58 80), (0, .nameAndType 81 56), (0, u "transitionCount"), (4, .fieldref 58 32), (0, .fieldref 58 35), (0, .fieldref 58 38), (0, .fieldref 58 41), (0, .methodref 91 92), (0, .class_ 93), (0, .nameAndType 94 95), (0, u "java/lang/System"), (0, u "arraycopy"), (0, u "(Ljava/lang/Object;ILjava/lang/Object;II)V"), (0, .fieldref 58 44), (0, .fieldref 58 47), (0, .fieldref 58 50), (0, .fieldref 8 100), (0, .nameAndType 101 56), (0, u "rowCount"), (0, .methodref 8 103), (0, .nameAndType 104 6), (0, u "separateRows"), (0, .methodref 8 106), (0, .nameAndType 107 108), (0, u "room"), (0, u "([II)[I"), (0, .fieldref 58 110), (0, .nameAndType 111 52), (0, u "varying"), (0, .methodref 8 113), (0, .nameAndType 114 115), (0, u "place"), (0, u "(I[DI[D)I"), (2, .methodref 119 120), (0, .class_ 121), (0, .nameAndType 122 123), (0, u "com/example/sambre/sambre/engine/ArrayLengths"), (0, u "atLeast"), (0, u "(II)I"), (0, .fieldref 8 125), (0, .nameAndType 126 12), (0, u "shapeOf"), (0, .fieldref 8 128), (0, .nameAndType 129 12), (0, u "nextRow"), (0, .fieldref 8 131), (0, .nameAndType 132 12), (0, u "blockOf"), (0, .fieldref 8 134), (0, .nameAndType 135 12), (0, u "shift"), (0, .fieldref 8 137), (0, .nameAndType 72 12), (0, .class_ 52), (0, .fieldref 8 140), (0, .nameAndType 141 142), (0, u "blocks"), (0, u "[[D"), (0, .fieldref 8 144), (0, .nameAndType 145 56), (0, u "blockCount"), (0, .fieldref 8 147), (0, .nameAndType 148 56), (0, u "used"), (9, u "LARGEST_BLOCK"), (19, u "markedShapes"), (2, u "markedRows"), (2, u "markedBlocks"), (2, u "markedUsed"), (38, u "NONE"), (2, u "FIRST_BLOCK"), (3, u "add"), (0, u "(Lcom/example/sambre/sambre/engine/Rows$Builder;[II)I"), (2, u "addToShape"), (0, u "(I[D[DI)I"), (18, u "value"), (0, u "(II[D)D")] 24

def k2c0 : Code := { maxStack := 2, maxLocals := 1, code := prog_87_method_1_code, exceptionTable := #[], attributes := #[] }
def k2m0 : Method := { name := "<init>", desc := "()V", sig := { parameters := [], returnType := none }, accessFlags := 0, code := some k2c0 }
def k2c1 : Code := { maxStack := 6, maxLocals := 15, code := prog_87_method_2_code, exceptionTable := #[], attributes := #[] }
def k2m1 : Method := { name := "add", desc := "(Lcom/example/sambre/sambre/engine/Rows$Builder;[II)I", sig := { parameters := [(.object "com/example/sambre/sambre/engine/Rows$Builder"), (.array .int), .int], returnType := some .int }, accessFlags := 0, code := some k2c1 }
def k2c2 : Code := { maxStack := 5, maxLocals := 5, code := prog_87_method_3_code, exceptionTable := #[], attributes := #[] }
def k2m2 : Method := { name := "addToShape", desc := "(I[D[DI)I", sig := { parameters := [.int, (.array .double), (.array .double), .int], returnType := some .int }, accessFlags := 0, code := some k2c2 }
def k2c3 : Code := { maxStack := 3, maxLocals := 3, code := prog_87_method_4_code, exceptionTable := #[], attributes := #[] }
def k2m3 : Method := { name := "separateRows", desc := "()V", sig := { parameters := [], returnType := none }, accessFlags := 2, code := some k2c3 }
def k2c4 : Code := { maxStack := 5, maxLocals := 10, code := prog_87_method_5_code, exceptionTable := #[], attributes := #[] }
def k2m4 : Method := { name := "place", desc := "(I[DI[D)I", sig := { parameters := [.int, (.array .double), .int, (.array .double)], returnType := some .int }, accessFlags := 2, code := some k2c4 }
def k2c5 : Code := { maxStack := 3, maxLocals := 2, code := prog_87_method_7_code, exceptionTable := #[], attributes := #[] }
def k2m5 : Method := { name := "room", desc := "([II)[I", sig := { parameters := [(.array .int), .int], returnType := some (.array .int) }, accessFlags := 10, code := some k2c5 }
def k2c6 : Code := { maxStack := 7, maxLocals := 9, code := prog_87_method_32_code, exceptionTable := #[], attributes := #[] }
def k2m6 : Method := { name := "value", desc := "(II[D)D", sig := { parameters := [.int, .int, (.array .double)], returnType := some .double }, accessFlags := 0, code := some k2c6 }
/-- com/example/sambre/sambre/engine/Rows -/
def k2 : Class := { plain "com/example/sambre/sambre/engine/Rows" (some 0) with
  accessFlags := 32
  interfaces := #[]
  cf := some (fileOf pool2 8 #[.nestMembers #[58]] #[{ accessFlags := 0, nameIndex := 5, descriptorIndex := 6, attributes := #[] }, { accessFlags := 0, nameIndex := 233, descriptorIndex := 234, attributes := #[] }, { accessFlags := 0, nameIndex := 237, descriptorIndex := 238, attributes := #[] }, { accessFlags := 2, nameIndex := 104, descriptorIndex := 6, attributes := #[] }, { accessFlags := 2, nameIndex := 114, descriptorIndex := 115, attributes := #[] }, { accessFlags := 10, nameIndex := 107, descriptorIndex := 108, attributes := #[] }, { accessFlags := 0, nameIndex := 257, descriptorIndex := 258, attributes := #[] }] 32 2 #[] #[{ accessFlags := 24, nameIndex := 226, descriptorIndex := 56, attributes := #[] }, { accessFlags := 26, nameIndex := 229, descriptorIndex := 56, attributes := #[] }, { accessFlags := 26, nameIndex := 158, descriptorIndex := 56, attributes := #[] }, { accessFlags := 2, nameIndex := 55, descriptorIndex := 56, attributes := #[] }, { accessFlags := 2, nameIndex := 18, descriptorIndex := 12, attributes := #[] }, { accessFlags := 2, nameIndex := 21, descriptorIndex := 12, attributes := #[] }, { accessFlags := 2, nameIndex := 24, descriptorIndex := 12, attributes := #[] }, { accessFlags := 2, nameIndex := 27, descriptorIndex := 12, attributes := #[] }, { accessFlags := 2, nameIndex := 30, descriptorIndex := 12, attributes := #[] }, { accessFlags := 2, nameIndex := 33, descriptorIndex := 12, attributes := #[] }, { accessFlags := 2, nameIndex := 36, descriptorIndex := 12, attributes := #[] }, { accessFlags := 2, nameIndex := 39, descriptorIndex := 12, attributes := #[] }, { accessFlags := 2, nameIndex := 42, descriptorIndex := 12, attributes := #[] }, { accessFlags := 2, nameIndex := 45, descriptorIndex := 12, attributes := #[] }, { accessFlags := 2, nameIndex := 48, descriptorIndex := 12, attributes := #[] }, { accessFlags := 2, nameIndex := 51, descriptorIndex := 52, attributes := #[] }, { accessFlags := 2, nameIndex := 11, descriptorIndex := 12, attributes := #[] }, { accessFlags := 2, nameIndex := 15, descriptorIndex := 12, attributes := #[] }, { accessFlags := 2, nameIndex := 101, descriptorIndex := 56, attributes := #[] }, { accessFlags := 2, nameIndex := 69, descriptorIndex := 12, attributes := #[] }, { accessFlags := 2, nameIndex := 126, descriptorIndex := 12, attributes := #[] }, { accessFlags := 2, nameIndex := 129, descriptorIndex := 12, attributes := #[] }, { accessFlags := 2, nameIndex := 132, descriptorIndex := 12, attributes := #[] }, { accessFlags := 2, nameIndex := 135, descriptorIndex := 12, attributes := #[] }, { accessFlags := 2, nameIndex := 72, descriptorIndex := 12, attributes := #[] }, { accessFlags := 2, nameIndex := 141, descriptorIndex := 142, attributes := #[] }, { accessFlags := 2, nameIndex := 145, descriptorIndex := 56, attributes := #[] }, { accessFlags := 2, nameIndex := 148, descriptorIndex := 56, attributes := #[] }, { accessFlags := 2, nameIndex := 178, descriptorIndex := 56, attributes := #[] }, { accessFlags := 2, nameIndex := 181, descriptorIndex := 56, attributes := #[] }, { accessFlags := 2, nameIndex := 184, descriptorIndex := 56, attributes := #[] }, { accessFlags := 2, nameIndex := 187, descriptorIndex := 56, attributes := #[] }])
  fields := #[{ name := "NONE", type := .int, accessFlags := 24, slot := 0, constantValue := 0 }, { name := "FIRST_BLOCK", type := .int, accessFlags := 26, slot := 1, constantValue := 0 }, { name := "LARGEST_BLOCK", type := .int, accessFlags := 26, slot := 2, constantValue := 0 }, { name := "shapeCount", type := .int, accessFlags := 2, slot := 0, constantValue := 0 }, { name := "nextShape", type := (.array .int), accessFlags := 2, slot := 1, constantValue := 0 }, { name := "firstChoice", type := (.array .int), accessFlags := 2, slot := 2, constantValue := 0 }, { name := "firstKey", type := (.array .int), accessFlags := 2, slot := 3, constantValue := 0 }, { name := "keyLength", type := (.array .int), accessFlags := 2, slot := 4, constantValue := 0 }, { name := "firstRange", type := (.array .int), accessFlags := 2, slot := 5, constantValue := 0 }, { name := "firstAction", type := (.array .int), accessFlags := 2, slot := 6, constantValue := 0 }, { name := "firstCommand", type := (.array .int), accessFlags := 2, slot := 7, constantValue := 0 }, { name := "firstTransition", type := (.array .int), accessFlags := 2, slot := 8, constantValue := 0 }, { name := "actions", type := (.array .int), accessFlags := 2, slot := 9, constantValue := 0 }, { name := "commands", type := (.array .int), accessFlags := 2, slot := 10, constantValue := 0 }, { name := "successors", type := (.array .int), accessFlags := 2, slot := 11, constantValue := 0 }, { name := "probabilities", type := (.array .double), accessFlags := 2, slot := 12, constantValue := 0 }, { name := "keys", type := (.array .int), accessFlags := 2, slot := 13, constantValue := 0 }, { name := "ranges", type := (.array .int), accessFlags := 2, slot := 14, constantValue := 0 }, { name := "rowCount", type := .int, accessFlags := 2, slot := 15, constantValue := 0 }, { name := "lastRow", type := (.array .int), accessFlags := 2, slot := 16, constantValue := 0 }, { name := "shapeOf", type := (.array .int), accessFlags := 2, slot := 17, constantValue := 0 }, { name := "nextRow", type := (.array .int), accessFlags := 2, slot := 18, constantValue := 0 }, { name := "blockOf", type := (.array .int), accessFlags := 2, slot := 19, constantValue := 0 }, { name := "shift", type := (.array .int), accessFlags := 2, slot := 20, constantValue := 0 }, { name := "varyingCount", type := (.array .int), accessFlags := 2, slot := 21, constantValue := 0 }, { name := "blocks", type := (.array (.array .double)), accessFlags := 2, slot := 22, constantValue := 0 }, { name := "blockCount", type := .int, accessFlags := 2, slot := 23, constantValue := 0 }, { name := "used", type := .int, accessFlags := 2, slot := 24, constantValue := 0 }, { name := "markedShapes", type := .int, accessFlags := 2, slot := 25, constantValue := 0 }, { name := "markedRows", type := .int, accessFlags := 2, slot := 26, constantValue := 0 }, { name := "markedBlocks", type := .int, accessFlags := 2, slot := 27, constantValue := 0 }, { name := "markedUsed", type := .int, accessFlags := 2, slot := 28, constantValue := 0 }]
  methods := #[k2m0, k2m1, k2m2, k2m3, k2m4, k2m5, k2m6]
  instanceTypes := #[.int, (.array .int), (.array .int), (.array .int), (.array .int), (.array .int), (.array .int), (.array .int), (.array .int), (.array .int), (.array .int), (.array .int), (.array .double), (.array .int), (.array .int), .int, (.array .int), (.array .int), (.array .int), (.array .int), (.array .int), (.array .int), (.array (.array .double)), .int, .int, .int, .int, .int, .int]
  staticTypes := #[.int, .int, .int]
  resolved := resd 283 [(57, .field 3 12), (62, .field 3 1), (65, .field 3 2), (70, .field 3 4), (73, .field 3 13), (76, .field 3 14), (79, .field 3 15), (86, .field 3 5), (87, .field 3 7), (88, .field 3 9), (89, .field 3 6), (96, .field 3 8), (97, .field 3 10), (98, .field 3 11), (109, .field 3 3)]
  statics := none }

def pool3 : Array CpInfo := pool [(1, .methodref 2 3), (0, .class_ 4), (0, .nameAndType 5 6), (0, u "java/lang/Object"), (0, u "<init>"), (0, u "()V"), (0, .fieldref 8 9), (0, .class_ 10), (0, .nameAndType 11 12), (0, u "com/example/sambre/sambre/engine/Rows$Builder"), (0, u "firstAction"), (0, u "[I"), (0, .fieldref 8 14), (0, .nameAndType 15 12), (0, u "actions"), (0, .fieldref 8 17), (0, .nameAndType 18 12), (0, u "firstCommand"), (0, .fieldref 8 20), (0, .nameAndType 21 12), (0, u "commands"), (0, .fieldref 8 23), (0, .nameAndType 24 12), (0, u "firstTransition"), (0, .fieldref 8 26), (0, .nameAndType 27 12), (0, u "successors"), (0, .fieldref 8 29), (0, .nameAndType 30 31), (0, u "probabilities"), (0, u "[D"), (0, .fieldref 8 33), (0, .nameAndType 34 12), (0, u "key"), (0, .fieldref 8 36), (0, .nameAndType 37 38), (0, u "keyLength"), (0, u "I"), (0, .fieldref 8 40), (0, .nameAndType 41 31), (0, u "varying"), (0, .fieldref 8 43), (0, .nameAndType 44 38), (0, u "varyingCount"), (0, .fieldref 8 46), (0, .nameAndType 47 38), (0, u "choiceCount"), (0, .fieldref 8 49), (0, .nameAndType 50 38), (0, u "actionCount"), (0, .fieldref 8 52), (0, .nameAndType 53 38), (0, u "commandCount"), (0, .fieldref 8 55), (0, .nameAndType 56 38), (0, u "transitionCount"), (0, .fieldref 8 58), (0, .nameAndType 59 60), (0, u "places"), (0, u "Ljava/util/Map;"), (31, u "SCANNED"), (6, u "start"), (0, u "([II[DI)V"), (0, u "startChoice"), (4, u "addMove"), (0, u "(ID)I"), (5, .class_ 114), (0, u "com/example/sambre/sambre/engine/Rows")] 2

def k3c0 : Code := { maxStack := 2, maxLocals := 1, code := prog_88_method_1_code, exceptionTable := #[], attributes := #[] }
def k3m0 : Method := { name := "<init>", desc := "()V", sig := { parameters := [], returnType := none }, accessFlags := 0, code := some k3c0 }
def k3c1 : Code := { maxStack := 2, maxLocals := 5, code := prog_88_method_2_code, exceptionTable := #[], attributes := #[] }
def k3m1 : Method := { name := "start", desc := "([II[DI)V", sig := { parameters := [(.array .int), .int, (.array .double), .int], returnType := none }, accessFlags := 0, code := some k3c1 }
def k3c2 : Code := { maxStack := 5, maxLocals := 1, code := prog_88_method_3_code, exceptionTable := #[], attributes := #[] }
def k3m2 : Method := { name := "startChoice", desc := "()V", sig := { parameters := [], returnType := none }, accessFlags := 0, code := some k3c2 }
def k3c3 : Code := { maxStack := 6, maxLocals := 7, code := prog_88_method_6_code, exceptionTable := #[], attributes := #[] }
def k3m3 : Method := { name := "addMove", desc := "(ID)I", sig := { parameters := [.int, .double], returnType := some .int }, accessFlags := 0, code := some k3c3 }
/-- com/example/sambre/sambre/engine/Rows$Builder -/
def k3 : Class := { plain "com/example/sambre/sambre/engine/Rows$Builder" (some 0) with
  accessFlags := 32
  interfaces := #[]
  cf := some (fileOf pool3 8 #[.nestHost 113] #[{ accessFlags := 0, nameIndex := 5, descriptorIndex := 6, attributes := #[] }, { accessFlags := 0, nameIndex := 99, descriptorIndex := 100, attributes := #[] }, { accessFlags := 0, nameIndex := 101, descriptorIndex := 6, attributes := #[] }, { accessFlags := 0, nameIndex := 106, descriptorIndex := 107, attributes := #[] }] 32 2 #[] #[{ accessFlags := 26, nameIndex := 92, descriptorIndex := 38, attributes := #[] }, { accessFlags := 2, nameIndex := 34, descriptorIndex := 12, attributes := #[] }, { accessFlags := 2, nameIndex := 37, descriptorIndex := 38, attributes := #[] }, { accessFlags := 2, nameIndex := 41, descriptorIndex := 31, attributes := #[] }, { accessFlags := 2, nameIndex := 44, descriptorIndex := 38, attributes := #[] }, { accessFlags := 2, nameIndex := 11, descriptorIndex := 12, attributes := #[] }, { accessFlags := 2, nameIndex := 15, descriptorIndex := 12, attributes := #[] }, { accessFlags := 2, nameIndex := 18, descriptorIndex := 12, attributes := #[] }, { accessFlags := 2, nameIndex := 21, descriptorIndex := 12, attributes := #[] }, { accessFlags := 2, nameIndex := 24, descriptorIndex := 12, attributes := #[] }, { accessFlags := 2, nameIndex := 27, descriptorIndex := 12, attributes := #[] }, { accessFlags := 2, nameIndex := 30, descriptorIndex := 31, attributes := #[] }, { accessFlags := 2, nameIndex := 47, descriptorIndex := 38, attributes := #[] }, { accessFlags := 2, nameIndex := 50, descriptorIndex := 38, attributes := #[] }, { accessFlags := 2, nameIndex := 53, descriptorIndex := 38, attributes := #[] }, { accessFlags := 2, nameIndex := 56, descriptorIndex := 38, attributes := #[] }, { accessFlags := 2, nameIndex := 59, descriptorIndex := 60, attributes := #[] }])
  fields := #[{ name := "SCANNED", type := .int, accessFlags := 26, slot := 0, constantValue := 0 }, { name := "key", type := (.array .int), accessFlags := 2, slot := 0, constantValue := 0 }, { name := "keyLength", type := .int, accessFlags := 2, slot := 1, constantValue := 0 }, { name := "varying", type := (.array .double), accessFlags := 2, slot := 2, constantValue := 0 }, { name := "varyingCount", type := .int, accessFlags := 2, slot := 3, constantValue := 0 }, { name := "firstAction", type := (.array .int), accessFlags := 2, slot := 4, constantValue := 0 }, { name := "actions", type := (.array .int), accessFlags := 2, slot := 5, constantValue := 0 }, { name := "firstCommand", type := (.array .int), accessFlags := 2, slot := 6, constantValue := 0 }, { name := "commands", type := (.array .int), accessFlags := 2, slot := 7, constantValue := 0 }, { name := "firstTransition", type := (.array .int), accessFlags := 2, slot := 8, constantValue := 0 }, { name := "successors", type := (.array .int), accessFlags := 2, slot := 9, constantValue := 0 }, { name := "probabilities", type := (.array .double), accessFlags := 2, slot := 10, constantValue := 0 }, { name := "choiceCount", type := .int, accessFlags := 2, slot := 11, constantValue := 0 }, { name := "actionCount", type := .int, accessFlags := 2, slot := 12, constantValue := 0 }, { name := "commandCount", type := .int, accessFlags := 2, slot := 13, constantValue := 0 }, { name := "transitionCount", type := .int, accessFlags := 2, slot := 14, constantValue := 0 }, { name := "places", type := (.object "java/util/Map"), accessFlags := 2, slot := 15, constantValue := 0 }]
  methods := #[k3m0, k3m1, k3m2, k3m3]
  instanceTypes := #[(.array .int), .int, (.array .double), .int, (.array .int), (.array .int), (.array .int), (.array .int), (.array .int), (.array .int), (.array .double), .int, .int, .int, .int, (.object "java/util/Map")]
  staticTypes := #[.int]
  resolved := Array.replicate 117 none
  statics := none }

def pool4 : Array CpInfo := pool [(2, .class_ 4), (1, u "java/lang/Object"), (0, u "<init>"), (0, u "()V"), (1, .class_ 10), (1, u "java/lang/System"), (0, u "allowSecurityManager"), (0, u "I"), (16, u "cons"), (0, u "Ljava/io/Console;"), (77, .class_ 110), (1, u "java/lang/System$CallersHolder"), (43, u "initialErrStream"), (0, u "Ljava/io/PrintStream;"), (19, u "security"), (0, u "Ljava/lang/SecurityManager;"), (31, .class_ 209), (0, u "java/lang/System$1"), (7, u "props"), (0, u "Ljava/util/Properties;"), (2, u "lineSeparator"), (0, u "Ljava/lang/String;"), (96, .class_ 321), (1, u "java/lang/System$LoggerFinder"), (5, .class_ 328), (0, u "java/lang/System$Logger"), (67, u "err"), (2, u "out"), (91, u "notSupportedJnuEncoding"), (15, u "in"), (17, u "initialIn"), (0, u "Ljava/io/InputStream;"), (35, u "bootLayer"), (0, u "Ljava/lang/ModuleLayer;"), (99, .class_ 664), (0, u "java/lang/System$2"), (9, u "NEVER"), (2, u "MAYBE"), (49, u "arraycopy"), (0, u "(Ljava/lang/Object;ILjava/lang/Object;II)V"), (72, .class_ 802), (0, u "java/lang/System$Logger$Level")] 31

def k4m0 : Method := { name := "<init>", desc := "()V", sig := { parameters := [], returnType := none }, accessFlags := 2, code := none }
def k4m1 : Method := { name := "arraycopy", desc := "(Ljava/lang/Object;ILjava/lang/Object;II)V", sig := { parameters := [(.object "java/lang/Object"), .int, (.object "java/lang/Object"), .int, .int], returnType := none }, accessFlags := 265, code := none }
/-- java/lang/System -/
def k4 : Class := { plain "java/lang/System" (some 0) with
  accessFlags := 49
  interfaces := #[]
  cf := some (fileOf pool4 8 #[.nestMembers #[319, 327, 801, 108, 663, 208]] #[{ accessFlags := 2, nameIndex := 5, descriptorIndex := 6, attributes := #[] }, { accessFlags := 265, nameIndex := 727, descriptorIndex := 728, attributes := #[] }] 49 2 #[] #[{ accessFlags := 25, nameIndex := 507, descriptorIndex := 526, attributes := #[] }, { accessFlags := 25, nameIndex := 399, descriptorIndex := 155, attributes := #[] }, { accessFlags := 25, nameIndex := 396, descriptorIndex := 155, attributes := #[] }, { accessFlags := 10, nameIndex := 525, descriptorIndex := 526, attributes := #[] }, { accessFlags := 26, nameIndex := 674, descriptorIndex := 12, attributes := #[] }, { accessFlags := 26, nameIndex := 677, descriptorIndex := 12, attributes := #[] }, { accessFlags := 10, nameIndex := 11, descriptorIndex := 12, attributes := #[] }, { accessFlags := 74, nameIndex := 175, descriptorIndex := 176, attributes := #[] }, { accessFlags := 10, nameIndex := 491, descriptorIndex := 222, attributes := #[] }, { accessFlags := 74, nameIndex := 29, descriptorIndex := 30, attributes := #[] }, { accessFlags := 74, nameIndex := 154, descriptorIndex := 155, attributes := #[] }, { accessFlags := 10, nameIndex := 217, descriptorIndex := 218, attributes := #[] }, { accessFlags := 10, nameIndex := 221, descriptorIndex := 222, attributes := #[] }, { accessFlags := 8, nameIndex := 562, descriptorIndex := 563, attributes := #[] }])
  fields := #[{ name := "in", type := (.object "java/io/InputStream"), accessFlags := 25, slot := 0, constantValue := 0 }, { name := "out", type := (.object "java/io/PrintStream"), accessFlags := 25, slot := 1, constantValue := 0 }, { name := "err", type := (.object "java/io/PrintStream"), accessFlags := 25, slot := 2, constantValue := 0 }, { name := "initialIn", type := (.object "java/io/InputStream"), accessFlags := 10, slot := 3, constantValue := 0 }, { name := "NEVER", type := .int, accessFlags := 26, slot := 4, constantValue := 0 }, { name := "MAYBE", type := .int, accessFlags := 26, slot := 5, constantValue := 0 }, { name := "allowSecurityManager", type := .int, accessFlags := 10, slot := 6, constantValue := 0 }, { name := "security", type := (.object "java/lang/SecurityManager"), accessFlags := 74, slot := 7, constantValue := 0 }, { name := "notSupportedJnuEncoding", type := (.object "java/lang/String"), accessFlags := 10, slot := 8, constantValue := 0 }, { name := "cons", type := (.object "java/io/Console"), accessFlags := 74, slot := 9, constantValue := 0 }, { name := "initialErrStream", type := (.object "java/io/PrintStream"), accessFlags := 74, slot := 10, constantValue := 0 }, { name := "props", type := (.object "java/util/Properties"), accessFlags := 10, slot := 11, constantValue := 0 }, { name := "lineSeparator", type := (.object "java/lang/String"), accessFlags := 10, slot := 12, constantValue := 0 }, { name := "bootLayer", type := (.object "java/lang/ModuleLayer"), accessFlags := 8, slot := 13, constantValue := 0 }]
  methods := #[k4m0, k4m1]
  instanceTypes := #[]
  staticTypes := #[(.object "java/io/InputStream"), (.object "java/io/PrintStream"), (.object "java/io/PrintStream"), (.object "java/io/InputStream"), .int, .int, .int, (.object "java/lang/SecurityManager"), (.object "java/lang/String"), (.object "java/io/Console"), (.object "java/io/PrintStream"), (.object "java/util/Properties"), (.object "java/lang/String"), (.object "java/lang/ModuleLayer")]
  resolved := Array.replicate 834 none
  statics := none }

def pool5 : Array CpInfo := pool [(4, .class_ 6), (1, u "java/lang/Object"), (0, u "<init>"), (0, u "()V"), (0, .class_ 10), (0, u "com/example/sambre/sambre/engine/ArrayLengths"), (0, .long 16), (1, .long 2147483639), (1, .methodref 16 17), (0, .class_ 18), (0, .nameAndType 19 20), (0, u "java/lang/Math"), (0, u "min"), (0, u "(JJ)J"), (0, .methodref 22 23), (0, .class_ 24), (0, .nameAndType 25 26), (0, u "java/lang/Long"), (0, u "highestOneBit"), (0, u "(J)J"), (0, .methodref 9 28), (0, .nameAndType 29 30), (0, u "filling"), (0, u "(JI)I"), (16, u "(II)I"), (0, u "HEADER"), (0, u "I"), (2, u "LONGEST"), (0, u "J"), (2, u "atLeast")] 5

def k5m0 : Method := { name := "<init>", desc := "()V", sig := { parameters := [], returnType := none }, accessFlags := 2, code := none }
def k5c1 : Code := { maxStack := 4, maxLocals := 3, code := prog_6_method_2_code, exceptionTable := #[], attributes := #[] }
def k5m1 : Method := { name := "filling", desc := "(JI)I", sig := { parameters := [.long, .int], returnType := some .int }, accessFlags := 8, code := some k5c1 }
def k5c2 : Code := { maxStack := 6, maxLocals := 4, code := prog_6_method_3_code, exceptionTable := #[], attributes := #[] }
def k5m2 : Method := { name := "atLeast", desc := "(II)I", sig := { parameters := [.int, .int], returnType := some .int }, accessFlags := 8, code := some k5c2 }
/-- com/example/sambre/sambre/engine/ArrayLengths -/
def k5 : Class := { plain "com/example/sambre/sambre/engine/ArrayLengths" (some 0) with
  accessFlags := 32
  interfaces := #[]
  cf := some (fileOf pool5 9 #[] #[{ accessFlags := 2, nameIndex := 7, descriptorIndex := 8, attributes := #[] }, { accessFlags := 8, nameIndex := 29, descriptorIndex := 30, attributes := #[] }, { accessFlags := 8, nameIndex := 56, descriptorIndex := 47, attributes := #[] }] 32 4 #[] #[{ accessFlags := 24, nameIndex := 48, descriptorIndex := 49, attributes := #[] }, { accessFlags := 26, nameIndex := 52, descriptorIndex := 53, attributes := #[] }])
  fields := #[{ name := "HEADER", type := .int, accessFlags := 24, slot := 0, constantValue := 0 }, { name := "LONGEST", type := .long, accessFlags := 26, slot := 1, constantValue := 0 }]
  methods := #[k5m0, k5m1, k5m2]
  instanceTypes := #[]
  staticTypes := #[.int, .long]
  resolved := Array.replicate 62 none
  statics := none }

def pool6 : Array CpInfo := pool [(1, .class_ 2), (0, u "java/io/Serializable"), (0, .class_ 4), (0, u "java/lang/Object")] 2

/-- java/io/Serializable -/
def k6 : Class := { plain "java/io/Serializable" (some 0) with
  accessFlags := 1537
  interfaces := #[]
  cf := some (fileOf pool6 1 #[] #[] 1537 3 #[] #[])
  fields := #[]
  methods := #[]
  instanceTypes := #[]
  staticTypes := #[]
  resolved := Array.replicate 7 none
  statics := none }

def pool7 : Array CpInfo := pool [(2, .class_ 4), (1, u "java/lang/Object"), (0, u "<init>"), (0, u "()V"), (1, .class_ 10), (1, u "java/lang/Number"), (2, .class_ 14), (0, u "java/io/Serializable"), (0, u "serialVersionUID"), (0, u "J")] 20

def k7m0 : Method := { name := "<init>", desc := "()V", sig := { parameters := [], returnType := none }, accessFlags := 1, code := none }
/-- java/lang/Number -/
def k7 : Class := { plain "java/lang/Number" (some 0) with
  accessFlags := 1057
  interfaces := #[6]
  cf := some (fileOf pool7 8 #[] #[{ accessFlags := 1, nameIndex := 5, descriptorIndex := 6, attributes := #[] }] 1057 2 #[13] #[{ accessFlags := 26, nameIndex := 15, descriptorIndex := 16, attributes := #[] }])
  fields := #[{ name := "serialVersionUID", type := .long, accessFlags := 26, slot := 0, constantValue := 0 }]
  methods := #[k7m0]
  instanceTypes := #[]
  staticTypes := #[.long]
  resolved := Array.replicate 37 none
  statics := none }

def pool8 : Array CpInfo := pool [(1, .class_ 2), (0, u "java/lang/Comparable"), (0, .class_ 4), (0, u "java/lang/Object")] 7

/-- java/lang/Comparable -/
def k8 : Class := { plain "java/lang/Comparable" (some 0) with
  accessFlags := 1537
  interfaces := #[]
  cf := some (fileOf pool8 1 #[] #[] 1537 3 #[] #[])
  fields := #[]
  methods := #[]
  instanceTypes := #[]
  staticTypes := #[]
  resolved := Array.replicate 12 none
  statics := none }

def pool9 : Array CpInfo := pool [(1, .class_ 2), (0, u "java/lang/constant/Constable"), (0, .class_ 4), (0, u "java/lang/Object")] 6

/-- java/lang/constant/Constable -/
def k9 : Class := { plain "java/lang/constant/Constable" (some 0) with
  accessFlags := 1537
  interfaces := #[]
  cf := some (fileOf pool9 1 #[] #[] 1537 3 #[] #[])
  fields := #[]
  methods := #[]
  instanceTypes := #[]
  staticTypes := #[]
  resolved := Array.replicate 11 none
  statics := none }

def pool10 : Array CpInfo := pool [(1, .class_ 2), (0, u "java/lang/constant/ConstantDesc"), (0, .class_ 4), (0, u "java/lang/Object")] 32

/-- java/lang/constant/ConstantDesc -/
def k10 : Class := { plain "java/lang/constant/ConstantDesc" (some 0) with
  accessFlags := 1537
  interfaces := #[]
  cf := some (fileOf pool10 1 #[] #[] 1537 3 #[] #[])
  fields := #[]
  methods := #[]
  instanceTypes := #[]
  staticTypes := #[]
  resolved := Array.replicate 37 none
  statics := none }

def pool11 : Array CpInfo := pool [(1, .class_ 2), (0, u "java/lang/Long"), (15, .class_ 20), (1, u "java/lang/Integer"), (77, .methodref 1 99), (0, .nameAndType 100 101), (0, u "numberOfLeadingZeros"), (0, u "(J)I"), (66, .long 9223372036854775808), (66, .class_ 237), (1, u "java/lang/Long$LongCache"), (33, .class_ 272), (0, u "java/lang/Number"), (2, u "value"), (0, u "J"), (31, .methodref 18 309), (0, .nameAndType 100 310), (0, u "(I)I"), (12, u "(J)J"), (37, u "TYPE"), (0, u "Ljava/lang/Class;"), (0, .class_ 364), (0, u "java/lang/Comparable"), (0, .class_ 366), (0, u "java/lang/constant/Constable"), (0, .class_ 368), (0, u "java/lang/constant/ConstantDesc"), (0, u "MIN_VALUE"), (1, u "MAX_VALUE"), (4, u "SIZE"), (0, u "I"), (1, u "BYTES"), (1, u "serialVersionUID"), (92, u "highestOneBit")] 49

def k11c0 : Code := { maxStack := 6, maxLocals := 2, code := jdk_35_method_46_code, exceptionTable := #[], attributes := #[] }
def k11m0 : Method := { name := "highestOneBit", desc := "(J)J", sig := { parameters := [.long], returnType := some .long }, accessFlags := 9, code := some k11c0 }
def k11c1 : Code := { maxStack := 3, maxLocals := 3, code := jdk_35_method_48_code, exceptionTable := #[], attributes := #[] }
def k11m1 : Method := { name := "numberOfLeadingZeros", desc := "(J)I", sig := { parameters := [.long], returnType := some .int }, accessFlags := 9, code := some k11c1 }
/-- java/lang/Long -/
def k11 : Class := { plain "java/lang/Long" (some 7) with
  accessFlags := 49
  interfaces := #[8, 9, 10]
  cf := some (fileOf pool11 1 #[.nestMembers #[235]] #[{ accessFlags := 9, nameIndex := 474, descriptorIndex := 323, attributes := #[] }, { accessFlags := 9, nameIndex := 100, descriptorIndex := 101, attributes := #[] }] 49 271 #[363, 365, 367] #[{ accessFlags := 25, nameIndex := 369, descriptorIndex := 276, attributes := #[] }, { accessFlags := 25, nameIndex := 371, descriptorIndex := 276, attributes := #[] }, { accessFlags := 25, nameIndex := 361, descriptorIndex := 362, attributes := #[] }, { accessFlags := 18, nameIndex := 275, descriptorIndex := 276, attributes := #[] }, { accessFlags := 25, nameIndex := 376, descriptorIndex := 377, attributes := #[] }, { accessFlags := 25, nameIndex := 379, descriptorIndex := 377, attributes := #[] }, { accessFlags := 26, nameIndex := 381, descriptorIndex := 276, attributes := #[] }])
  fields := #[{ name := "MIN_VALUE", type := .long, accessFlags := 25, slot := 0, constantValue := 0 }, { name := "MAX_VALUE", type := .long, accessFlags := 25, slot := 1, constantValue := 0 }, { name := "TYPE", type := (.object "java/lang/Class"), accessFlags := 25, slot := 2, constantValue := 0 }, { name := "value", type := .long, accessFlags := 18, slot := 0, constantValue := 0 }, { name := "SIZE", type := .int, accessFlags := 25, slot := 3, constantValue := 0 }, { name := "BYTES", type := .int, accessFlags := 25, slot := 4, constantValue := 0 }, { name := "serialVersionUID", type := .long, accessFlags := 26, slot := 5, constantValue := 0 }]
  methods := #[k11m0, k11m1]
  instanceTypes := #[.long]
  staticTypes := #[.long, .long, (.object "java/lang/Class"), .int, .int, .long]
  resolved := Array.replicate 524 none
  statics := none }

def pool12 : Array CpInfo := pool [(1, .class_ 2), (0, u "java/lang/Integer"), (16, u "digits"), (0, u "[C"), (32, u "numberOfLeadingZeros"), (0, u "(I)I"), (30, u "DigitOnes"), (0, u "[B"), (2, u "DigitTens"), (99, .class_ 190), (0, u "java/lang/Integer$IntegerCache"), (3, u "I"), (8, .class_ 204), (0, u "java/lang/Number"), (2, u "value"), (56, .integer 65536), (37, u "TYPE"), (0, u "Ljava/lang/Class;"), (0, .class_ 305), (0, u "java/lang/Comparable"), (0, .class_ 307), (0, u "java/lang/constant/Constable"), (0, .class_ 309), (0, u "java/lang/constant/ConstantDesc"), (0, u "MIN_VALUE"), (1, u "MAX_VALUE"), (3, u "SIZE"), (1, u "BYTES"), (1, u "serialVersionUID"), (0, u "J")] 131

def k12c0 : Code := { maxStack := 3, maxLocals := 2, code := jdk_33_method_47_code, exceptionTable := #[], attributes := #[] }
def k12m0 : Method := { name := "numberOfLeadingZeros", desc := "(I)I", sig := { parameters := [.int], returnType := some .int }, accessFlags := 9, code := some k12c0 }
/-- java/lang/Integer -/
def k12 : Class := { plain "java/lang/Integer" (some 7) with
  accessFlags := 49
  interfaces := #[8, 9, 10]
  cf := some (fileOf pool12 1 #[.nestMembers #[189]] #[{ accessFlags := 9, nameIndex := 53, descriptorIndex := 54, attributes := #[] }] 49 203 #[304, 306, 308] #[{ accessFlags := 25, nameIndex := 310, descriptorIndex := 194, attributes := #[] }, { accessFlags := 25, nameIndex := 312, descriptorIndex := 194, attributes := #[] }, { accessFlags := 25, nameIndex := 302, descriptorIndex := 303, attributes := #[] }, { accessFlags := 24, nameIndex := 19, descriptorIndex := 20, attributes := #[] }, { accessFlags := 24, nameIndex := 89, descriptorIndex := 86, attributes := #[] }, { accessFlags := 24, nameIndex := 85, descriptorIndex := 86, attributes := #[] }, { accessFlags := 18, nameIndex := 207, descriptorIndex := 194, attributes := #[] }, { accessFlags := 25, nameIndex := 316, descriptorIndex := 194, attributes := #[] }, { accessFlags := 25, nameIndex := 318, descriptorIndex := 194, attributes := #[] }, { accessFlags := 26, nameIndex := 320, descriptorIndex := 321, attributes := #[] }])
  fields := #[{ name := "MIN_VALUE", type := .int, accessFlags := 25, slot := 0, constantValue := 0 }, { name := "MAX_VALUE", type := .int, accessFlags := 25, slot := 1, constantValue := 0 }, { name := "TYPE", type := (.object "java/lang/Class"), accessFlags := 25, slot := 2, constantValue := 0 }, { name := "digits", type := (.array .char), accessFlags := 24, slot := 3, constantValue := 0 }, { name := "DigitTens", type := (.array .byte), accessFlags := 24, slot := 4, constantValue := 0 }, { name := "DigitOnes", type := (.array .byte), accessFlags := 24, slot := 5, constantValue := 0 }, { name := "value", type := .int, accessFlags := 18, slot := 0, constantValue := 0 }, { name := "SIZE", type := .int, accessFlags := 25, slot := 6, constantValue := 0 }, { name := "BYTES", type := .int, accessFlags := 25, slot := 7, constantValue := 0 }, { name := "serialVersionUID", type := .long, accessFlags := 26, slot := 8, constantValue := 0 }]
  methods := #[k12m0]
  instanceTypes := #[.int]
  staticTypes := #[.int, .int, (.object "java/lang/Class"), (.array .char), (.array .byte), (.array .byte), .int, .int, .long]
  resolved := Array.replicate 453 none
  statics := none }

def pool13 : Array CpInfo := pool [(1, .class_ 2), (0, u "java/lang/Math"), (1, .class_ 6), (1, u "java/lang/Object"), (0, u "<init>"), (0, u "()V"), (89, .class_ 100), (1, u "java/lang/Math$RandomNumberGeneratorHolder"), (20, u "(JJ)J"), (50, u "negativeZeroFloatBits"), (0, u "J"), (2, u "negativeZeroDoubleBits"), (24, u "min"), (43, u "$assertionsDisabled"), (0, u "Z"), (91, u "twoToTheDoubleScaleDown"), (0, u "D"), (4, u "twoToTheDoubleScaleUp"), (9, u "E"), (3, u "PI"), (2, u "TAU"), (2, u "DEGREES_TO_RADIANS"), (0, u "RADIANS_TO_DEGREES")] 94

def k13m0 : Method := { name := "<init>", desc := "()V", sig := { parameters := [], returnType := none }, accessFlags := 2, code := none }
def k13c1 : Code := { maxStack := 4, maxLocals := 4, code := jdk_29_method_70_code, exceptionTable := #[], attributes := #[] }
def k13m1 : Method := { name := "min", desc := "(JJ)J", sig := { parameters := [.long, .long], returnType := some .long }, accessFlags := 9, code := some k13c1 }
/-- java/lang/Math -/
def k13 : Class := { plain "java/lang/Math" (some 0) with
  accessFlags := 49
  interfaces := #[]
  cf := some (fileOf pool13 1 #[.nestMembers #[98]] #[{ accessFlags := 2, nameIndex := 7, descriptorIndex := 8, attributes := #[] }, { accessFlags := 9, nameIndex := 201, descriptorIndex := 121, attributes := #[] }] 49 4 #[] #[{ accessFlags := 25, nameIndex := 354, descriptorIndex := 339, attributes := #[] }, { accessFlags := 25, nameIndex := 358, descriptorIndex := 339, attributes := #[] }, { accessFlags := 25, nameIndex := 361, descriptorIndex := 339, attributes := #[] }, { accessFlags := 26, nameIndex := 364, descriptorIndex := 339, attributes := #[] }, { accessFlags := 26, nameIndex := 365, descriptorIndex := 339, attributes := #[] }, { accessFlags := 26, nameIndex := 172, descriptorIndex := 173, attributes := #[] }, { accessFlags := 26, nameIndex := 176, descriptorIndex := 173, attributes := #[] }, { accessFlags := 8, nameIndex := 344, descriptorIndex := 339, attributes := #[] }, { accessFlags := 8, nameIndex := 338, descriptorIndex := 339, attributes := #[] }, { accessFlags := 4120, nameIndex := 245, descriptorIndex := 246, attributes := #[] }])
  fields := #[{ name := "E", type := .double, accessFlags := 25, slot := 0, constantValue := 0 }, { name := "PI", type := .double, accessFlags := 25, slot := 1, constantValue := 0 }, { name := "TAU", type := .double, accessFlags := 25, slot := 2, constantValue := 0 }, { name := "DEGREES_TO_RADIANS", type := .double, accessFlags := 26, slot := 3, constantValue := 0 }, { name := "RADIANS_TO_DEGREES", type := .double, accessFlags := 26, slot := 4, constantValue := 0 }, { name := "negativeZeroFloatBits", type := .long, accessFlags := 26, slot := 5, constantValue := 0 }, { name := "negativeZeroDoubleBits", type := .long, accessFlags := 26, slot := 6, constantValue := 0 }, { name := "twoToTheDoubleScaleUp", type := .double, accessFlags := 8, slot := 7, constantValue := 0 }, { name := "twoToTheDoubleScaleDown", type := .double, accessFlags := 8, slot := 8, constantValue := 0 }, { name := "$assertionsDisabled", type := .boolean, accessFlags := 4120, slot := 9, constantValue := 0 }]
  methods := #[k13m0, k13m1]
  instanceTypes := #[]
  staticTypes := #[.double, .double, .double, .double, .double, .long, .long, .double, .double, .boolean]
  resolved := Array.replicate 460 none
  statics := none }

def pool14 : Array CpInfo := pool [(1, u "java/lang/Cloneable"), (0, .class_ 1), (0, u "java/lang/Object"), (0, .class_ 3)] 3

/-- java/lang/Cloneable -/
def k14 : Class := { plain "java/lang/Cloneable" (some 0) with
  accessFlags := 1537
  interfaces := #[]
  cf := some (fileOf pool14 2 #[] #[] 1537 4 #[] #[])
  fields := #[]
  methods := #[]
  instanceTypes := #[]
  staticTypes := #[]
  resolved := Array.replicate 8 none
  statics := none }

/-- the primitive byte -/
def k15 : Class := { plain "byte" none with kind := .primitive 'B', accessFlags := 0x411 }
/-- [B -/
def k16 : Class := { plain "[B" (some 0) with kind := .array 15 .byte, interfaces := #[14, 6], accessFlags := 1041 }

/-- the primitive int -/
def k17 : Class := { plain "int" none with kind := .primitive 'I', accessFlags := 0x411 }
/-- [I -/
def k18 : Class := { plain "[I" (some 0) with kind := .array 17 .int, interfaces := #[14, 6], accessFlags := 1041 }

/-- the primitive double -/
def k19 : Class := { plain "double" none with kind := .primitive 'D', accessFlags := 0x411 }
/-- [D -/
def k20 : Class := { plain "[D" (some 0) with kind := .array 19 .double, interfaces := #[14, 6], accessFlags := 1041 }
/-- [[D -/
def k21 : Class := { plain "[[D" (some 0) with kind := .array 20 (.array .double), interfaces := #[14, 6], accessFlags := 1041 }

def heap : Heap := #[]
def classes : Array Class := #[k0, k1, k2, k3, k4, k5, k6, k7, k8, k9, k10, k11, k12, k13, k14, k15, k16, k17, k18, k19, k20, k21]
def interned : List (Array UInt16 × Addr) := []
def slotsUsed : Nat := 0
def theMethod : MethodId := ⟨1, 1⟩
def args0 : Array Value := #[.long 5, .long 7, .int 3, .int 9]
def aboutOver (below : List Frame) : State where
  vm := { classes := classes, interned := interned.toArray }
  heap := heap
  slotsUsed := slotsUsed
  threads := #[{ frames := .invoking theMethod args0 :: below }]
def below0 : List Frame := [.native { method := ⟨0, 0⟩, args := #[] }]
def about1 : State := aboutOver below0
def p0 : Program := .bare "" "" ""
def e0 : Env := launch0.env 0 0 0
theorem w_frames : about1.frames = Frame.invoking theMethod args0 :: below0 := rfl
set_option maxRecDepth 65536 in
theorem w_args : argsFit about1.vm theMethod args0 = true := by decide +kernel
set_option maxRecDepth 65536 in
theorem w_heap : heapFits about1 = true := by decide +kernel
set_option maxRecDepth 65536 in
theorem w_runnable : about1.curStatus? = some .runnable := by decide +kernel
set_option maxRecDepth 65536 in
theorem w_alone : about1.alone = true := by decide +kernel
set_option maxRecDepth 65536 in
theorem w_named : about1.methodNamed? x = some theMethod := by decide +kernel
set_option maxRecDepth 65536 in
theorem w_hears : about1.hears theMethod below0 = true := by decide +kernel
set_option maxRecDepth 65536 in
theorem w_ripe : about1.ripe theMethod args0 below0 = true := by decide +kernel
theorem w_running : about1.status = .running := rfl
set_option maxRecDepth 65536 in
theorem w_room : about1.hasRoom e0.platform room_1 = true :=
  launch0.hasRoom_least _ room_1 (by decide +kernel) (by decide +kernel) (by decide +kernel) (by decide +kernel) (by decide +kernel) (by decide +kernel)
theorem allAtoms_all (ts : List Jvm.Cond) (a : Array Jvm.Value) (st : Jvm.State) : (allAtoms ts).before a st = ts.all (fun c => c.before a st) := by
  induction ts with
  | nil => rfl
  | cons c t ih =>
    show (Jvm.Cond.and c (allAtoms t)).before a st = _
    rw [Jvm.Cond.before_and, ih, List.all_cons]
def words1 : List Jvm.Cond := Jvm.Cond.code x code maxLocals ret :: tables_1
/-- a 'code' word, met by the world's own term for the bytes: nothing is compared byte by byte -/
theorem code_word {y : MethodName} {bytes : ByteArray} {mx : Nat} {rt : Option FieldType} {a : Array Value} {s : State} {m : MethodId} {meth : Method} {c : Code} (h1 : s.methodNamed? y = some m) (h2 : s.vm.method? m = some meth) (h3 : meth.code = some c) (h4 : c.code = bytes)
    (h5 : (c.maxLocals == mx && c.exceptionTable.isEmpty && decide (c.maxStack ≤ mostOperands) && decide (meth.sig.returnType = rt) && !meth.locks && decide (parseMethodDescriptor y.desc = some meth.sig)) = true) : (Jvm.Cond.code y bytes mx rt).before a s = true := by
  simp only [Bool.and_eq_true, beq_iff_eq, Bool.not_eq_true', decide_eq_true_eq] at h5
  obtain ⟨⟨⟨⟨⟨g1, g2⟩, g3⟩, g4⟩, g5⟩, g6⟩ := h5
  simp [Cond.before, Cond.holds, Cond.value, h1, h2, h3, h4, g1, g2, g3, g4, g5, g6]
def isCode : Jvm.Cond → Bool
  | .code _ _ _ _ => true
  | _ => false
theorem all_split {L : List Jvm.Cond} {P : Jvm.Cond → Bool} (h1 : L.all (fun c => isCode c || P c) = true) (h2 : ∀ c ∈ L.filter isCode, P c = true) : L.all P = true := by
  refine List.all_eq_true.mpr fun c hc => ?_
  have h := List.all_eq_true.mp h1 c hc
  rcases Bool.eq_false_or_eq_true (isCode c) with hi | hi
  · exact h2 c (List.mem_filter.mpr ⟨hc, hi⟩)
  · simpa [hi] using h
set_option maxRecDepth 65536 in
theorem w_c0 : (Jvm.Cond.code x code maxLocals ret).before args0 about1 = true := code_word (m := ⟨1, 1⟩) (meth := k1m1) (c := k1c1) (by decide +kernel) rfl rfl rfl (by decide +kernel)
set_option maxRecDepth 65536 in
theorem w_c1 : (Jvm.Cond.code ({ cls := "com/example/sambre/sambre/engine/Rows", name := "<init>", desc := "()V" } : Jvm.MethodName) prog_87_method_1_code (1 : Nat) (Option.none : Option Jvm.ClassFile.FieldType)).before args0 about1 = true := code_word (m := ⟨2, 0⟩) (meth := k2m0) (c := k2c0) (by decide +kernel) rfl rfl rfl (by decide +kernel)
set_option maxRecDepth 65536 in
theorem w_c2 : (Jvm.Cond.code ({ cls := "java/lang/Object", name := "<init>", desc := "()V" } : Jvm.MethodName) object_method_1_code (1 : Nat) (Option.none : Option Jvm.ClassFile.FieldType)).before args0 about1 = true := code_word (m := ⟨0, 0⟩) (meth := k0m0) (c := k0c0) (by decide +kernel) rfl rfl rfl (by decide +kernel)
set_option maxRecDepth 65536 in
theorem w_c3 : (Jvm.Cond.code ({ cls := "com/example/sambre/sambre/engine/Rows$Builder", name := "<init>", desc := "()V" } : Jvm.MethodName) prog_88_method_1_code (1 : Nat) (Option.none : Option Jvm.ClassFile.FieldType)).before args0 about1 = true := code_word (m := ⟨3, 0⟩) (meth := k3m0) (c := k3c0) (by decide +kernel) rfl rfl rfl (by decide +kernel)
set_option maxRecDepth 65536 in
theorem w_c4 : (Jvm.Cond.code ({ cls := "com/example/sambre/sambre/engine/Rows$Builder", name := "start", desc := "([II[DI)V" } : Jvm.MethodName) prog_88_method_2_code (5 : Nat) (Option.none : Option Jvm.ClassFile.FieldType)).before args0 about1 = true := code_word (m := ⟨3, 1⟩) (meth := k3m1) (c := k3c1) (by decide +kernel) rfl rfl rfl (by decide +kernel)
set_option maxRecDepth 65536 in
theorem w_c5 : (Jvm.Cond.code ({ cls := "com/example/sambre/sambre/engine/Rows$Builder", name := "startChoice", desc := "()V" } : Jvm.MethodName) prog_88_method_3_code (1 : Nat) (Option.none : Option Jvm.ClassFile.FieldType)).before args0 about1 = true := code_word (m := ⟨3, 2⟩) (meth := k3m2) (c := k3c2) (by decide +kernel) rfl rfl rfl (by decide +kernel)
set_option maxRecDepth 65536 in
theorem w_c6 : (Jvm.Cond.code ({ cls := "com/example/sambre/sambre/engine/Rows$Builder", name := "addMove", desc := "(ID)I" } : Jvm.MethodName) prog_88_method_6_code (7 : Nat) (Option.some Jvm.ClassFile.FieldType.int)).before args0 about1 = true := code_word (m := ⟨3, 3⟩) (meth := k3m3) (c := k3c3) (by decide +kernel) rfl rfl rfl (by decide +kernel)
set_option maxRecDepth 65536 in
theorem w_c7 : (Jvm.Cond.code ({ cls := "com/example/sambre/sambre/engine/Rows", name := "add", desc := "(Lcom/example/sambre/sambre/engine/Rows$Builder;[II)I" } : Jvm.MethodName) prog_87_method_2_code (15 : Nat) (Option.some Jvm.ClassFile.FieldType.int)).before args0 about1 = true := code_word (m := ⟨2, 1⟩) (meth := k2m1) (c := k2c1) (by decide +kernel) rfl rfl rfl (by decide +kernel)
set_option maxRecDepth 65536 in
theorem w_c8 : (Jvm.Cond.code ({ cls := "com/example/sambre/sambre/engine/Rows", name := "value", desc := "(II[D)D" } : Jvm.MethodName) prog_87_method_32_code (9 : Nat) (Option.some Jvm.ClassFile.FieldType.double)).before args0 about1 = true := code_word (m := ⟨2, 6⟩) (meth := k2m6) (c := k2c6) (by decide +kernel) rfl rfl rfl (by decide +kernel)
set_option maxRecDepth 65536 in
theorem w_c9 : (Jvm.Cond.code ({ cls := "com/example/sambre/sambre/engine/Rows", name := "separateRows", desc := "()V" } : Jvm.MethodName) prog_87_method_4_code (3 : Nat) (Option.none : Option Jvm.ClassFile.FieldType)).before args0 about1 = true := code_word (m := ⟨2, 3⟩) (meth := k2m3) (c := k2c3) (by decide +kernel) rfl rfl rfl (by decide +kernel)
set_option maxRecDepth 65536 in
theorem w_c10 : (Jvm.Cond.code ({ cls := "com/example/sambre/sambre/engine/ArrayLengths", name := "atLeast", desc := "(II)I" } : Jvm.MethodName) prog_6_method_3_code (4 : Nat) (Option.some Jvm.ClassFile.FieldType.int)).before args0 about1 = true := code_word (m := ⟨5, 2⟩) (meth := k5m2) (c := k5c2) (by decide +kernel) rfl rfl rfl (by decide +kernel)
set_option maxRecDepth 65536 in
theorem w_c11 : (Jvm.Cond.code ({ cls := "java/lang/Long", name := "highestOneBit", desc := "(J)J" } : Jvm.MethodName) jdk_35_method_46_code (2 : Nat) (Option.some Jvm.ClassFile.FieldType.long)).before args0 about1 = true := code_word (m := ⟨11, 0⟩) (meth := k11m0) (c := k11c0) (by decide +kernel) rfl rfl rfl (by decide +kernel)
set_option maxRecDepth 65536 in
theorem w_c12 : (Jvm.Cond.code ({ cls := "java/lang/Long", name := "numberOfLeadingZeros", desc := "(J)I" } : Jvm.MethodName) jdk_35_method_48_code (3 : Nat) (Option.some Jvm.ClassFile.FieldType.int)).before args0 about1 = true := code_word (m := ⟨11, 1⟩) (meth := k11m1) (c := k11c1) (by decide +kernel) rfl rfl rfl (by decide +kernel)
set_option maxRecDepth 65536 in
theorem w_c13 : (Jvm.Cond.code ({ cls := "java/lang/Integer", name := "numberOfLeadingZeros", desc := "(I)I" } : Jvm.MethodName) jdk_33_method_47_code (2 : Nat) (Option.some Jvm.ClassFile.FieldType.int)).before args0 about1 = true := code_word (m := ⟨12, 0⟩) (meth := k12m0) (c := k12c0) (by decide +kernel) rfl rfl rfl (by decide +kernel)
set_option maxRecDepth 65536 in
theorem w_c14 : (Jvm.Cond.code ({ cls := "com/example/sambre/sambre/engine/ArrayLengths", name := "filling", desc := "(JI)I" } : Jvm.MethodName) prog_6_method_2_code (3 : Nat) (Option.some Jvm.ClassFile.FieldType.int)).before args0 about1 = true := code_word (m := ⟨5, 1⟩) (meth := k5m1) (c := k5c1) (by decide +kernel) rfl rfl rfl (by decide +kernel)
set_option maxRecDepth 65536 in
theorem w_c15 : (Jvm.Cond.code ({ cls := "java/lang/Math", name := "min", desc := "(JJ)J" } : Jvm.MethodName) jdk_29_method_70_code (4 : Nat) (Option.some Jvm.ClassFile.FieldType.long)).before args0 about1 = true := code_word (m := ⟨13, 1⟩) (meth := k13m1) (c := k13c1) (by decide +kernel) rfl rfl rfl (by decide +kernel)
set_option maxRecDepth 65536 in
theorem w_c16 : (Jvm.Cond.code ({ cls := "com/example/sambre/sambre/engine/Rows", name := "room", desc := "([II)[I" } : Jvm.MethodName) prog_87_method_7_code (2 : Nat) (Option.some (Jvm.ClassFile.FieldType.array Jvm.ClassFile.FieldType.int))).before args0 about1 = true := code_word (m := ⟨2, 5⟩) (meth := k2m5) (c := k2c5) (by decide +kernel) rfl rfl rfl (by decide +kernel)
set_option maxRecDepth 65536 in
theorem w_c17 : (Jvm.Cond.code ({ cls := "com/example/sambre/sambre/engine/Rows", name := "place", desc := "(I[DI[D)I" } : Jvm.MethodName) prog_87_method_5_code (10 : Nat) (Option.some Jvm.ClassFile.FieldType.int)).before args0 about1 = true := code_word (m := ⟨2, 4⟩) (meth := k2m4) (c := k2c4) (by decide +kernel) rfl rfl rfl (by decide +kernel)
set_option maxRecDepth 65536 in
theorem w_c18 : (Jvm.Cond.code ({ cls := "com/example/sambre/sambre/engine/Rows", name := "addToShape", desc := "(I[D[DI)I" } : Jvm.MethodName) prog_87_method_3_code (5 : Nat) (Option.some Jvm.ClassFile.FieldType.int)).before args0 about1 = true := code_word (m := ⟨2, 2⟩) (meth := k2m2) (c := k2c2) (by decide +kernel) rfl rfl rfl (by decide +kernel)
def codes1 : List Jvm.Cond := [Jvm.Cond.code x code maxLocals ret, Jvm.Cond.code ({ cls := "com/example/sambre/sambre/engine/Rows", name := "<init>", desc := "()V" } : Jvm.MethodName) prog_87_method_1_code (1 : Nat) (Option.none : Option Jvm.ClassFile.FieldType), Jvm.Cond.code ({ cls := "java/lang/Object", name := "<init>", desc := "()V" } : Jvm.MethodName) object_method_1_code (1 : Nat) (Option.none : Option Jvm.ClassFile.FieldType), Jvm.Cond.code ({ cls := "com/example/sambre/sambre/engine/Rows$Builder", name := "<init>", desc := "()V" } : Jvm.MethodName) prog_88_method_1_code (1 : Nat) (Option.none : Option Jvm.ClassFile.FieldType), Jvm.Cond.code ({ cls := "com/example/sambre/sambre/engine/Rows$Builder", name := "start", desc := "([II[DI)V" } : Jvm.MethodName) prog_88_method_2_code (5 : Nat) (Option.none : Option Jvm.ClassFile.FieldType), Jvm.Cond.code ({ cls := "com/example/sambre/sambre/engine/Rows$Builder", name := "startChoice", desc := "()V" } : Jvm.MethodName) prog_88_method_3_code (1 : Nat) (Option.none : Option Jvm.ClassFile.FieldType), Jvm.Cond.code ({ cls := "com/example/sambre/sambre/engine/Rows$Builder", name := "addMove", desc := "(ID)I" } : Jvm.MethodName) prog_88_method_6_code (7 : Nat) (Option.some Jvm.ClassFile.FieldType.int), Jvm.Cond.code ({ cls := "com/example/sambre/sambre/engine/Rows", name := "add", desc := "(Lcom/example/sambre/sambre/engine/Rows$Builder;[II)I" } : Jvm.MethodName) prog_87_method_2_code (15 : Nat) (Option.some Jvm.ClassFile.FieldType.int), Jvm.Cond.code ({ cls := "com/example/sambre/sambre/engine/Rows", name := "value", desc := "(II[D)D" } : Jvm.MethodName) prog_87_method_32_code (9 : Nat) (Option.some Jvm.ClassFile.FieldType.double), Jvm.Cond.code ({ cls := "com/example/sambre/sambre/engine/Rows", name := "separateRows", desc := "()V" } : Jvm.MethodName) prog_87_method_4_code (3 : Nat) (Option.none : Option Jvm.ClassFile.FieldType), Jvm.Cond.code ({ cls := "com/example/sambre/sambre/engine/ArrayLengths", name := "atLeast", desc := "(II)I" } : Jvm.MethodName) prog_6_method_3_code (4 : Nat) (Option.some Jvm.ClassFile.FieldType.int), Jvm.Cond.code ({ cls := "java/lang/Long", name := "highestOneBit", desc := "(J)J" } : Jvm.MethodName) jdk_35_method_46_code (2 : Nat) (Option.some Jvm.ClassFile.FieldType.long), Jvm.Cond.code ({ cls := "java/lang/Long", name := "numberOfLeadingZeros", desc := "(J)I" } : Jvm.MethodName) jdk_35_method_48_code (3 : Nat) (Option.some Jvm.ClassFile.FieldType.int), Jvm.Cond.code ({ cls := "java/lang/Integer", name := "numberOfLeadingZeros", desc := "(I)I" } : Jvm.MethodName) jdk_33_method_47_code (2 : Nat) (Option.some Jvm.ClassFile.FieldType.int), Jvm.Cond.code ({ cls := "com/example/sambre/sambre/engine/ArrayLengths", name := "filling", desc := "(JI)I" } : Jvm.MethodName) prog_6_method_2_code (3 : Nat) (Option.some Jvm.ClassFile.FieldType.int), Jvm.Cond.code ({ cls := "java/lang/Math", name := "min", desc := "(JJ)J" } : Jvm.MethodName) jdk_29_method_70_code (4 : Nat) (Option.some Jvm.ClassFile.FieldType.long), Jvm.Cond.code ({ cls := "com/example/sambre/sambre/engine/Rows", name := "room", desc := "([II)[I" } : Jvm.MethodName) prog_87_method_7_code (2 : Nat) (Option.some (Jvm.ClassFile.FieldType.array Jvm.ClassFile.FieldType.int)), Jvm.Cond.code ({ cls := "com/example/sambre/sambre/engine/Rows", name := "place", desc := "(I[DI[D)I" } : Jvm.MethodName) prog_87_method_5_code (10 : Nat) (Option.some Jvm.ClassFile.FieldType.int), Jvm.Cond.code ({ cls := "com/example/sambre/sambre/engine/Rows", name := "addToShape", desc := "(I[D[DI)I" } : Jvm.MethodName) prog_87_method_3_code (5 : Nat) (Option.some Jvm.ClassFile.FieldType.int)]
set_option maxRecDepth 65536 in
theorem codes_eq : words1.filter isCode = codes1 := rfl
theorem w_codes : ∀ c ∈ words1.filter isCode, c.before args0 about1 = true := by
  rw [codes_eq]
  intro c hc
  simp only [codes1, List.mem_cons, List.not_mem_nil, or_false] at hc
  rcases hc with rfl | rfl | rfl | rfl | rfl | rfl | rfl | rfl | rfl | rfl | rfl | rfl | rfl | rfl | rfl | rfl | rfl | rfl | rfl
  · exact w_c0
  · exact w_c1
  · exact w_c2
  · exact w_c3
  · exact w_c4
  · exact w_c5
  · exact w_c6
  · exact w_c7
  · exact w_c8
  · exact w_c9
  · exact w_c10
  · exact w_c11
  · exact w_c12
  · exact w_c13
  · exact w_c14
  · exact w_c15
  · exact w_c16
  · exact w_c17
  · exact w_c18
set_option maxRecDepth 65536 in
theorem w_t1 : (words1.take 24).all (fun c => isCode c || c.before args0 about1) = true := by decide +kernel
set_option maxRecDepth 65536 in
theorem w_t2 : ((words1.drop 24).take 24).all (fun c => isCode c || c.before args0 about1) = true := by decide +kernel
set_option maxRecDepth 65536 in
theorem w_t3 : (((words1.drop 24).drop 24).take 24).all (fun c => isCode c || c.before args0 about1) = true := by decide +kernel
set_option maxRecDepth 65536 in
theorem w_t4 : ((((words1.drop 24).drop 24).drop 24).take 24).all (fun c => isCode c || c.before args0 about1) = true := by decide +kernel
set_option maxRecDepth 65536 in
theorem w_t5 : (((((words1.drop 24).drop 24).drop 24).drop 24).take 24).all (fun c => isCode c || c.before args0 about1) = true := by decide +kernel
set_option maxRecDepth 65536 in
theorem w_t6 : ((((((words1.drop 24).drop 24).drop 24).drop 24).drop 24).take 24).all (fun c => isCode c || c.before args0 about1) = true := by decide +kernel
set_option maxRecDepth 65536 in
theorem w_t7 : (((((((words1.drop 24).drop 24).drop 24).drop 24).drop 24).drop 24).take 24).all (fun c => isCode c || c.before args0 about1) = true := by decide +kernel
set_option maxRecDepth 65536 in
theorem w_t8 : ((((((((words1.drop 24).drop 24).drop 24).drop 24).drop 24).drop 24).drop 24).take 24).all (fun c => isCode c || c.before args0 about1) = true := by decide +kernel
set_option maxRecDepth 65536 in
theorem w_t9 : ((((((((words1.drop 24).drop 24).drop 24).drop 24).drop 24).drop 24).drop 24).drop 24).all (fun c => isCode c || c.before args0 about1) = true := by decide +kernel
theorem w_tables : (allAtoms (Jvm.Cond.code x code maxLocals ret :: tables_1)).before args0 about1 = true := by
  rw [allAtoms_all]
  show words1.all (fun c => c.before args0 about1) = true
  refine all_split ?_ w_codes
  rw [← List.take_append_drop 24 words1, List.all_append, w_t1, ← List.take_append_drop 24 (words1.drop 24), List.all_append, w_t2, ← List.take_append_drop 24 ((words1.drop 24).drop 24), List.all_append, w_t3, ← List.take_append_drop 24 (((words1.drop 24).drop 24).drop 24), List.all_append, w_t4, ← List.take_append_drop 24 ((((words1.drop 24).drop 24).drop 24).drop 24), List.all_append, w_t5, ← List.take_append_drop 24 (((((words1.drop 24).drop 24).drop 24).drop 24).drop 24), List.all_append, w_t6, ← List.take_append_drop 24 ((((((words1.drop 24).drop 24).drop 24).drop 24).drop 24).drop 24), List.all_append, w_t7, ← List.take_append_drop 24 (((((((words1.drop 24).drop 24).drop 24).drop 24).drop 24).drop 24).drop 24), List.all_append, w_t8, w_t9]
  rfl
set_option maxRecDepth 65536 in
theorem w_case : (Jvm.Cond.and given_1 narrow_1).before args0 about1 = true := by decide +kernel
theorem w_applies : (headSpec (Jvm.Cond.code x code maxLocals ret :: tables_1) room_1).applies x e0.platform about1 = true :=
  (Spec.applies_iff w_frames).mpr ⟨w_running, w_runnable, w_alone, w_named, w_hears, w_ripe, w_room, w_tables⟩
theorem atStart : AtStart classFile x code maxLocals ret World_1 tables_1 room_1 Calls_1 rest_1 Pre_1 launch0 p0 e0 about1 theMethod args0 below0 :=
  ⟨lists_1, trivial, launch0.admits_env _ _ _, launch0.least_env, fairChoices_fair.cas, fairChoices_fair.clock, w_frames, w_args, w_heap, w_applies, trivial, trivial, w_case⟩
end start1
theorem witness_1 : WitnessClaimed_1 := ⟨start1.p0, start1.e0, start1.about1, start1.theMethod, start1.args0, start1.below0, start1.atStart⟩
end Jvm.Pilot.@@N@@
