import JvmDerived
import JvmDerived.Pilot.@@N@@Statement
import JvmDerived.Pilot.@@N@@Code
set_option linter.unusedVariables false
set_option linter.unusedSimpArgs false
namespace Jvm.RoadKit
open Sem ClassFile Op Lib Jvm.Stand Jvm.Free Jvm.LawKit
section New
variable {p : Program} {l : Launch} {e : Env} {R : Room} {s : State} {m : MethodId} {args : Array Value} {below : List Frame} {meth : Method} {c : Code} {T : State} {locs : List Loc} {cells slots : Nat}
theorem retI (X : Stand p l e R s m args below meth c T locs cells slots) (hx : p.tables.exec = Jvm.exec) {pc : Nat} {Ls : Array Slot} {z : Int32} {rest : List Value} (hret : meth.sig.returnType = some .int) (hd : decode c.code pc = .ok (.ireturn, 1)) {fs : List Frame}
    (hl : ∀ (f : JFrame) (acts : List Action), f.method = m → f.locked = none → f.entered = [] → (doReturn e (T.setTop f) acts (some (.int z))).1 = T.setFrames fs) : Steps p.tables e below (T.setTop (mkF m pc Ls (.int z :: rest))) (T.setFrames fs) := by
  have hm' : T.vm.method? m = some meth := X.method'
  have hn : narrow .int (.int z) = .int z := rfl
  show Steps p.tables e below (T.setTop { method := m, pc := pc, locals := Ls, stack := _ :: rest, locked := none }) _
  jvm_step X.here [X.here.top, hx, hd, hm', hret, hn]
  first | (intro acts; rw [hl _ acts rfl rfl rfl]) | rw [hl _ _ rfl rfl rfl]
  exact Steps.refl _
end New
end Jvm.RoadKit
namespace Jvm.OwnKit
open Sem ClassFile Op Lib Jvm.Stand Jvm.Free Jvm.LawKit Jvm.RoadKit
section Kit
variable {p : Program} {l : Launch} {e : Env} {R : Room} {s : State} {m : MethodId} {args : Array Value} {below : List Frame} {meth : Method} {c : Code} {T : State} {locs : List Loc} {cells slots : Nat} {Z : State} {a0 : Array Value} {h h' : Heap} {a b : Addr} {n0 : Nat} {E E' : List (Addr × (Cell → Prop))} {P P' : Cell → Prop} {i : Nat} {sl : Nat} {v : Value}
/-- what is known of the heap: entries at different addresses, all made since the law began -/
def Wo (n0 : Nat) (h : Heap) (E : List (Addr × (Cell → Prop))) : Prop := n0 ≤ h.size ∧ (E.map Prod.fst).Nodup ∧ ∀ x ∈ E, n0 ≤ x.1 ∧ ∃ c : Cell, h[x.1]? = some c ∧ x.2 c
theorem Wo.nil (q : n0 ≤ h.size) : Wo n0 h [] := ⟨q, List.nodup_nil, fun _ q => nomatch q⟩
theorem Wo.at (W : Wo n0 h E) (hi : E[i]? = some (a, P)) : n0 ≤ a ∧ ∃ c : Cell, h[a]? = some c ∧ P c := W.2.2 (a, P) (List.mem_of_getElem? hi)
theorem Wo.lt (W : Wo n0 h E) {x : Addr × (Cell → Prop)} (hx : x ∈ E) : x.1 < h.size := by
  obtain ⟨-, c, hc, -⟩ := W.2.2 x hx
  exact (Array.getElem?_eq_some_iff.mp hc).1
theorem Wo.ext (W : Wo n0 h E) (X : Ext h h') : Wo n0 h' E := ⟨Nat.le_trans W.1 X.1, W.2.1, fun x hx => by
  obtain ⟨q, c, hc, hp⟩ := W.2.2 x hx
  exact ⟨q, c, X.2 _ _ hc, hp⟩⟩
theorem Wo.push (W : Wo n0 h E) (X : Ext h h') {c : Cell} (hc : h'[h.size]? = some c) (hp : P c) : Wo n0 h' ((h.size, P) :: E) := by
  have W' := W.ext X
  refine ⟨W'.1, ?_, fun x hx => ?_⟩
  · rw [List.map_cons, List.nodup_cons]
    refine ⟨fun q => ?_, W.2.1⟩
    obtain ⟨y, hy, ey⟩ := List.mem_map.mp q
    have h1 := W.lt hy
    rw [ey] at h1
    exact Nat.lt_irrefl _ h1
  · rcases List.mem_cons.mp hx with rfl | hx
    · exact ⟨W.1, c, hc, hp⟩
    · exact W'.2.2 x hx
theorem perm_front {α : Type} {x : α} : ∀ {L : List α} {i : Nat}, L[i]? = some x → (x :: L.eraseIdx i).Perm L
  | [], _, q => by simp at q
  | y :: L, 0, q => by
    have q' : y = x := by simpa using q
    subst q'
    exact List.Perm.refl _
  | y :: L, i + 1, q => (List.Perm.swap y x _).trans (List.Perm.cons y (perm_front (L := L) (i := i) (by simpa using q)))
theorem perm_set {α : Type} {L : List α} {i : Nat} (hl : i < L.length) (x : α) : (L.set i x).Perm (x :: L.eraseIdx i) := by
  rw [List.set_eq_take_append_cons_drop, if_pos hl, List.eraseIdx_eq_take_drop_succ]
  exact List.perm_middle
theorem Wo.perm (W : Wo n0 h E) (q : E'.Perm E) : Wo n0 h E' := ⟨W.1, (q.map _).nodup_iff.mpr W.2.1, fun x hx => W.2.2 x (q.mem_iff.mp hx)⟩
theorem Wo.front (W : Wo n0 h E) {x : Addr × (Cell → Prop)} (hi : E[i]? = some x) : Wo n0 h (x :: E.eraseIdx i) := by
  exact W.perm (perm_front hi)
theorem Wo.tail {x : Addr × (Cell → Prop)} (W : Wo n0 h (x :: E)) : Wo n0 h E := by
  have hn := W.2.1
  rw [List.map_cons, List.nodup_cons] at hn
  exact ⟨W.1, hn.2, fun y hy => W.2.2 y (List.mem_cons_of_mem _ hy)⟩
theorem Wo.weak (W : Wo n0 h ((a, P) :: E)) (q : ∀ c, P c → P' c) : Wo n0 h ((a, P') :: E) := by
  refine ⟨W.1, W.2.1, fun x hx => ?_⟩
  rcases List.mem_cons.mp hx with rfl | hx
  · obtain ⟨g, c, hc, hP⟩ := W.2.2 (a, P) List.mem_cons_self
    exact ⟨g, c, hc, q c hP⟩
  · exact W.2.2 x (List.mem_cons_of_mem _ hx)
theorem Wo.wr0 (W : Wo n0 h ((a, P) :: E)) (w : Wr h h' a sl v) (hp : ∀ c, P c → P' (c.setSlot sl v)) : Wo n0 h' ((a, P') :: E) := by
  have hn := W.2.1
  rw [List.map_cons, List.nodup_cons] at hn
  refine ⟨by rw [w.size]; exact W.1, by rw [List.map_cons, List.nodup_cons]; exact hn, fun x hx => ?_⟩
  rcases List.mem_cons.mp hx with rfl | hx
  · obtain ⟨q, c, hc, hP⟩ := W.2.2 (a, P) List.mem_cons_self
    obtain ⟨c', e1, -, -, -, -, -, e7⟩ := wr_at w hc
    exact ⟨q, c', e1, by rw [(e7 rfl).1]; exact hp c hP⟩
  · obtain ⟨q, c, hc, hP⟩ := W.2.2 x (List.mem_cons_of_mem _ hx)
    obtain ⟨c', e1, -, -, -, e5, -⟩ := wr_at w hc
    have ne : x.1 ≠ a := fun z => hn.1 (by have q := List.mem_map_of_mem (f := Prod.fst) hx; rw [z] at q; exact q)
    exact ⟨q, c', e1, by rw [e5 ne]; exact hP⟩
theorem Wo.wr (W : Wo n0 h E) (hi : E[i]? = some (a, P)) (w : Wr h h' a sl v) (hp : ∀ c, P c → P' (c.setSlot sl v)) : Wo n0 h' (E.set i (a, P')) := by
  have W1 := (W.front hi).wr0 w hp
  obtain ⟨hl, -⟩ := List.getElem?_eq_some_iff.mp hi
  exact W1.perm (perm_set hl _)
theorem Wo.kp (W : Wo n0 h E) (hi : E[i]? = some (a, P)) (K : Keep h h' [a]) {c : Cell} (hc : h'[a]? = some c) (hp : P' c) : Wo n0 h' (E.set i (a, P')) := by
  have W0 := W.front hi
  have hn := W0.2.1
  rw [List.map_cons, List.nodup_cons] at hn
  have W1 : Wo n0 h' ((a, P') :: E.eraseIdx i) := by
    refine ⟨Nat.le_trans W.1 K.1, by rw [List.map_cons, List.nodup_cons]; exact hn, fun x hx => ?_⟩
    rcases List.mem_cons.mp hx with rfl | hx
    · exact ⟨(W.at hi).1, c, hc, hp⟩
    · obtain ⟨q, c1, hc1, hP⟩ := W0.2.2 x (List.mem_cons_of_mem _ hx)
      have ne : x.1 ∉ [a] := fun z => hn.1 (by have q := List.mem_map_of_mem (f := Prod.fst) hx; rw [List.mem_singleton.mp z] at q; exact q)
      exact ⟨q, c1, K.2.1 _ _ hc1 ne, hP⟩
  obtain ⟨hl, -⟩ := List.getElem?_eq_some_iff.mp hi
  exact W1.perm (perm_set hl _)
/-- an object: her class, and what her fields hold -/
def Ob (Z : State) (C : String) (NS : List (String × String)) (vs : List Value) (c : Cell) : Prop :=
  (∃ k : Class, Z.vm.findClass C = some c.cls ∧ Z.vm.classes[c.cls]? = some k ∧ c.vm.isStatics = false ∧ (k.kind = .ordinary → c.slots.size = k.instanceTypes.size)) ∧
  ∀ (i : Nat) (x : String × String) (v : Value), NS[i]? = some x → vs[i]? = some v → ∃ (cf : ClassId) (k : Class) (j : Nat) (f : Field), Z.fieldFound? C x.1 x.2 = some (cf, k, j, f) ∧ f.isStatic = false ∧ c.vm ≠ .unknown ∧ c.vm.isStatics = false ∧ Z.vm.assignable c.cls cf = true ∧ c.slots[f.slot]? = some v
variable {C : String} {NS : List (String × String)} {vs : List Value}
theorem Wo.exa (W : Wo n0 h E) (hi : E[i]? = some (a, Ob Z C NS vs)) : Exa Z h a C := by
  obtain ⟨-, c, hc, ⟨k, h1, h2, h3, h4⟩, -⟩ := W.at hi
  exact ⟨c, k, hc, h1, h2, h3, h4⟩
theorem Wo.fld (W : Wo n0 h E) (hi : E[i]? = some (a, Ob Z C NS vs)) {j : Nat} {n d : String} (hn : NS[j]? = some (n, d)) (hv : vs[j]? = some v) : Fld Z h a C n d v := by
  obtain ⟨-, c, hc, -, hf⟩ := W.at hi
  obtain ⟨cf, k, q, f, r⟩ := hf j (n, d) v hn hv
  exact ⟨c, cf, k, q, f, hc, r⟩
def Dist (Z : State) (C : String) (NS : List (String × String)) : Prop := ∀ (i j : Nat) (x y : String × String), i ≠ j → NS[i]? = some x → NS[j]? = some y → Jvm.RoadKit.slotOf Z C x.1 x.2 ≠ Jvm.RoadKit.slotOf Z C y.1 y.2
theorem Dist.of (HL : ∀ x ∈ NS, Laid Z a0 C C x.1 x.2) (hn : (NS.map Prod.fst).Nodup) (ht : ∀ x ∈ NS, (parseFieldDescriptor x.2).isSome = true) : Dist Z C NS := by
  intro i j x y ne hx hy
  obtain ⟨t, et⟩ := Option.isSome_iff_exists.mp (ht x (List.mem_of_getElem? hx))
  obtain ⟨t', et'⟩ := Option.isSome_iff_exists.mp (ht y (List.mem_of_getElem? hy))
  refine slot_ne (HL x (List.mem_of_getElem? hx)) (HL y (List.mem_of_getElem? hy)) (fun q => ne ?_) et et'
  have h1 : (NS.map Prod.fst)[i]? = some x.1 := by rw [List.getElem?_map, hx]; rfl
  have h2 : (NS.map Prod.fst)[j]? = some y.1 := by rw [List.getElem?_map, hy]; rfl
  exact (List.getElem?_inj (List.getElem?_eq_some_iff.mp h1).1 hn).mp (h1.trans (q ▸ h2.symm))
theorem Ob.put {c : Cell} (D : Dist Z C NS) (O : Ob Z C NS vs c) {j : Nat} {n d : String} (hn : NS[j]? = some (n, d)) (v : Value) {old : Value} (hv : vs[j]? = some old) : Ob Z C NS (vs.set j v) (c.setSlot (Jvm.RoadKit.slotOf Z C n d) v) := by
  obtain ⟨⟨k, h1, h2, h3, h4⟩, hf⟩ := O
  refine ⟨⟨k, h1, h2, h3, fun q => by rw [sz_set]; exact h4 q⟩, fun i x w hx hw => ?_⟩
  by_cases ij : i = j
  · subst ij
    obtain rfl : x = (n, d) := Option.some.inj (hx.symm.trans hn)
    obtain ⟨cf, kk, q, f, r1, r2, r3, r4, r5, r6⟩ := hf i (n, d) old hx hv
    have hl := (List.getElem?_eq_some_iff.mp hv).1
    have hw' : w = v := by rw [List.getElem?_set_self hl] at hw; exact (Option.some.inj hw).symm
    have es : Jvm.RoadKit.slotOf Z C n d = f.slot := by simp [Jvm.RoadKit.slotOf, r1]
    refine ⟨cf, kk, q, f, r1, r2, r3, r4, r5, ?_⟩
    rw [es, hw']
    show (c.slots.setIfInBounds f.slot v)[f.slot]? = some v
    rw [Array.getElem?_setIfInBounds_self_of_lt (Array.getElem?_eq_some_iff.mp r6).1]
  · rw [List.getElem?_set_ne (Ne.symm ij)] at hw
    obtain ⟨cf, kk, q, f, r1, r2, r3, r4, r5, r6⟩ := hf i x w hx hw
    have es : Jvm.RoadKit.slotOf Z C x.1 x.2 = f.slot := by simp [Jvm.RoadKit.slotOf, r1]
    have hD := D i j x (n, d) ij hx hn
    rw [es] at hD
    refine ⟨cf, kk, q, f, r1, r2, r3, r4, r5, ?_⟩
    show (c.slots.setIfInBounds (Jvm.RoadKit.slotOf Z C n d) v)[f.slot]? = some w
    rw [Array.getElem?_setIfInBounds_ne (Ne.symm hD)]
    exact r6
theorem putW (X : Stand p l e R s m args below meth c T locs cells slots) (hx : p.tables.exec = Jvm.exec) (hZ : Z.Warmed39 s.vm) {own n d host : String} {index kk : Nat} {ty : FieldType} (hown : s.vm.findClass own = some m.cls) (w : (Cond.fieldLink own index C n d).before a0 Z = true ∨ (Cond.fieldLinkNest own index C n d host).before a0 Z = true)
    (eT : T.heap = h) (W : Wo n0 h E) (N : Fr n0 locs) (D : Dist Z C NS) (L : (Cond.lays C C n d).before a0 Z = true ∨ ((Cond.laysFinal C C n d).before a0 Z = true ∧ own = C ∧ meth.name = "<init>")) (wi : (Cond.instantiable C kk).before a0 Z = true) (hty : parseFieldDescriptor d = some ty)
    (hi : E[i]? = some (a, Ob Z C NS vs)) {j : Nat} (hn : NS[j]? = some (n, d)) {old : Value} (hv : vs[j]? = some old) (hnar : narrow ty v = v) (hfit : fits ty v = true) {g : JFrame} (hg : g.method = m) {rest : List Value} (hs : g.stack = v :: .ref a :: rest) (hd : decode c.code g.pc = .ok (.putfield index, 3)) :
    ∃ T' h' L', Stand p l e R s m args below meth c T' L' cells slots ∧ T'.heap = h' ∧ Fr n0 L' ∧ Wo n0 h' (E.set i (a, Ob Z C NS (vs.set j v))) ∧ ∀ target, Steps p.tables e below (T'.setTop { g with pc := g.pc + 3, stack := rest }) target → Steps p.tables e below (T.setTop g) target := by
  obtain ⟨T', h', X', e', w', st⟩ := putF X hx hZ hown (host := host) w Via.refl eT (W.fld hi hn hv) (W.exa hi) L wi hty hnar hfit hg hs hd
  exact ⟨T', h', _, X', e', Fr.snoc X' N (W.at hi).1, W.wr hi w' (fun c q => q.put D hn v hv), st⟩
theorem getR (X : Stand p l e R s m args below meth c T locs cells slots) (hx : p.tables.exec = Jvm.exec) (hZ : Z.Warmed39 s.vm) {own O n d : String} {index : Nat} (hown : s.vm.findClass own = some m.cls) (w : (Cond.fieldRef own index O n d).before a0 Z = true)
    (eT : T.heap = h) (F : Fld Z h a O n d v) {g : JFrame} (hg : g.method = m) {rest : List Value} (hs : g.stack = .ref a :: rest) (hd : decode c.code g.pc = .ok (.getfield index, 3)) : ∃ T', Stand p l e R s m args below meth c T' locs cells slots ∧ T'.heap = h ∧ ∀ target, Steps p.tables e below (T'.setTop { g with pc := g.pc + 3, stack := v :: rest }) target → Steps p.tables e below (T.setTop g) target := by
  obtain ⟨cell, cf, k, i, f, h1, h2, h3, h4, -, -, h7⟩ := F
  have hU : Z.Warmed39 T.vm := wtrans hZ X.warmed
  have w' := Cond.fieldRef_warmed39 hU w
  have hcur : (Z.setVm T.vm).vm.findClass own = some m.cls := by
    show T.vm.findClass own = _
    rw [X.warmed.alike.findClass]; exact hown
  obtain ⟨c', k', i', f', g1, g2⟩ := Cond.fieldRef_spec hcur w'
  obtain ⟨k2, q1, -⟩ := State.fieldFound?_setVm (s := Z) hU.alike h2
  cases g1.symm.trans q1
  refine ⟨T, X, eT, fun target hr => ?_⟩
  subst hg
  have hc : T.heap[a]? = some cell := by rw [eT]; exact h1
  jvm_step X.here [hx, hd, getfield.wp_ready (e := e) (s := T) (index := index) (c := cf) (a := a) (field := f) (rest := rest) (cell := cell) (v := v) (f := g) X.here.top g2 h3 hs hc h4 h7]
  exact hr
theorem newWO (X : Stand p l e R s m args below meth c T locs cells slots) (hx : p.tables.exec = Jvm.exec) (hZ : Z.Warmed39 s.vm) {own : String} {index n : Nat} (hown : s.vm.findClass own = some m.cls) (w : (Cond.classLink own index C).before a0 Z = true) (wi : (Cond.instantiable C n).before a0 Z = true) (wz : (Cond.initialized C).before a0 Z = true) (eT : T.heap = h) (W : Wo n0 h E)
    (HL : ∀ x ∈ NS, Laid Z a0 C C x.1 x.2) (hvs : NS.map (fun x => (parseFieldDescriptor x.2).map defaultValue) = vs.map some) {g : JFrame} (hg : g.method = m) (hd : decode c.code g.pc = .ok (.new index, 3)) (hc : cells + 1 ≤ R.cells) (hl : slots + n ≤ R.slots) :
    ∃ T' h' b, Stand p l e R s m args below meth c T' locs (cells + 1) (slots + n) ∧ T'.heap = h' ∧ Wo n0 h' ((b, Ob Z C NS vs) :: E) ∧ ∀ target, Steps p.tables e below (T'.setTop { g with pc := g.pc + 3, stack := .ref b :: g.stack }) target → Steps p.tables e below (T.setTop g) target := by
  obtain ⟨T', h', X', e', E', A, D, -, st⟩ := newO X hx hZ hown w wi wz eT hg hd hc hl
  obtain ⟨cell, k, h1, h2, h3, h4, h5⟩ := A
  refine ⟨T', h', h.size, X', e', W.push E' h1 ⟨⟨k, h2, h3, h4, h5⟩, fun i x v hx hv => ?_⟩, st⟩
  have q : (NS.map (fun x => (parseFieldDescriptor x.2).map defaultValue))[i]? = (vs.map some)[i]? := by rw [hvs]
  rw [List.getElem?_map, List.getElem?_map, hx, hv] at q
  have q' := Option.some.inj q
  obtain ⟨ty, t1, t2⟩ := Option.map_eq_some_iff.mp q'
  subst t2
  obtain ⟨c2, cf, kk, j, f, r1, r⟩ := D (HL x (List.mem_of_getElem? hx)) t1
  cases h1.symm.trans r1
  exact ⟨cf, kk, j, f, r⟩
/-- an array of n components: component k holds f k -/
def Ar (Z : State) (ty : FieldType) (n : Nat) (f : Nat → Value) (c : Cell) : Prop := Z.isArrayOf c ty ∧ c.vm ≠ .unknown ∧ c.slots.size = n ∧ n < 2 ^ 31 ∧ Z.vm.findClass ("[" ++ ty.toString) = some c.cls ∧ ∀ k, k < n → c.slots[k]? = some (f k) ∧ fits ty (f k) = true
def upd (f : Nat → Value) (j : Nat) (v : Value) : Nat → Value := fun k => if k = j then v else f k
theorem upd_same (f : Nat → Value) (j : Nat) (v : Value) : upd f j v j = v := if_pos rfl
theorem upd_other (f : Nat → Value) {j k : Nat} (v : Value) (q : k ≠ j) : upd f j v k = f k := if_neg q
variable {ty : FieldType} {n n' : Nat} {f f' : Nat → Value}
theorem Ar.set {c : Cell} (A : Ar Z ty n f c) (hv : fits ty v = true) (j : Nat) : Ar Z ty n (upd f j v) (c.setSlot j v) := by
  obtain ⟨h1, h2, h3, h4, h6, h5⟩ := A
  refine ⟨h1, h2, by rw [sz_set]; exact h3, h4, h6, fun k hk => ?_⟩
  by_cases q : k = j
  · subst q
    rw [upd_same]
    refine ⟨?_, hv⟩
    show (c.slots.setIfInBounds k v)[k]? = some v
    rw [Array.getElem?_setIfInBounds_self_of_lt (by rw [h3]; exact hk)]
  · rw [upd_other f v q]
    refine ⟨?_, (h5 k hk).2⟩
    show (c.slots.setIfInBounds j v)[k]? = some (f k)
    rw [Array.getElem?_setIfInBounds_ne (Ne.symm q)]
    exact (h5 k hk).1
theorem Ar.same {c : Cell} (A : Ar Z ty n f c) (q : ∀ k, k < n → f k = f' k) : Ar Z ty n f' c := by
  obtain ⟨h1, h2, h3, h4, h6, h5⟩ := A
  exact ⟨h1, h2, h3, h4, h6, fun k hk => by rw [← q k hk]; exact h5 k hk⟩
theorem Ar.new {k : ClassId} {z : Int32} (A : Arr Z h a (newA k ty z) ty) (hz : ¬ z < 0) (hn : z.toNatClampNeg = n) (hC : Exa Z h a ("[" ++ ty.toString)) : Ar Z ty n (fun _ => defaultValue ty) (newA k ty z) := by
  subst hn
  obtain ⟨c1, k1, q1, q2, -⟩ := hC
  cases A.1.symm.trans q1
  exact ⟨A.2.1, A.2.2, sz_new _ _ _, (back32 hz).2, q2, fun i hi => ⟨by simp [newA, hi], by cases ty <;> rfl⟩⟩
theorem out_of {c : Cell} {j : Int32} {k : Nat} (A3 : c.slots.size = n) (hj : ¬ j < 0) (hk : j.toNatClampNeg = k) (hl : k < n) : ¬ (j < 0 ∨ c.slots.size ≤ j.toNatClampNeg) := by
  rw [A3, hk]
  exact fun q => q.elim hj (fun q => absurd hl (Nat.not_lt.mpr q))
theorem ialW (X : Stand p l e R s m args below meth c T locs cells slots) (hx : p.tables.exec = Jvm.exec) (hZ : Z.Warmed39 s.vm) (eT : T.heap = h) (W : Wo n0 h E) (hi : E[i]? = some (a, Ar Z .int n f)) {j : Int32} {k : Nat} (hj : ¬ j < 0) (hk : j.toNatClampNeg = k) (hl : k < n) (hv : f k = v)
    {g : JFrame} (hg : g.method = m) {rest : List Value} (hs : g.stack = .int j :: .ref a :: rest) (hd : decode c.code g.pc = .ok (.iaload, 1)) (target : State)
    (hr : Steps p.tables e below (T.setTop { g with pc := g.pc + 1, stack := v :: rest }) target) : Steps p.tables e below (T.setTop g) target := by
  obtain ⟨-, c', hc, A1, A2, A3, A4, A6, A5⟩ := W.at hi
  exact X.iaload hx (by rw [eT]; exact hc) (State.isArrayOf_alike hZ.alike A1) A2 (out_of A3 hj hk hl) (by rw [hk, (A5 k hl).1, hv]) hg hs hd target hr
theorem dalW (X : Stand p l e R s m args below meth c T locs cells slots) (hx : p.tables.exec = Jvm.exec) (hZ : Z.Warmed39 s.vm) (eT : T.heap = h) (W : Wo n0 h E) (hi : E[i]? = some (a, Ar Z .double n f)) {j : Int32} {k : Nat} (hj : ¬ j < 0) (hk : j.toNatClampNeg = k) (hl : k < n) (hv : f k = v)
    {g : JFrame} (hg : g.method = m) {rest : List Value} (hs : g.stack = .int j :: .ref a :: rest) (hd : decode c.code g.pc = .ok (.daload, 1)) (target : State)
    (hr : Steps p.tables e below (T.setTop { g with pc := g.pc + 1, stack := v :: rest }) target) : Steps p.tables e below (T.setTop g) target := by
  obtain ⟨-, c', hc, A1, A2, A3, A4, A6, A5⟩ := W.at hi
  exact X.daload hx (by rw [eT]; exact hc) (State.isArrayOf_alike hZ.alike A1) A2 (out_of A3 hj hk hl) (by rw [hk, (A5 k hl).1, hv]) hg hs hd target hr
theorem balW (X : Stand p l e R s m args below meth c T locs cells slots) (hx : p.tables.exec = Jvm.exec) (hZ : Z.Warmed39 s.vm) (eT : T.heap = h) (W : Wo n0 h E) (hi : E[i]? = some (a, Ar Z .byte n f)) {j : Int32} {k : Nat} (hj : ¬ j < 0) (hk : j.toNatClampNeg = k) (hl : k < n) (hv : f k = v)
    {g : JFrame} (hg : g.method = m) {rest : List Value} (hs : g.stack = .int j :: .ref a :: rest) (hd : decode c.code g.pc = .ok (.baload, 1)) (target : State)
    (hr : Steps p.tables e below (T.setTop { g with pc := g.pc + 1, stack := v :: rest }) target) : Steps p.tables e below (T.setTop g) target := by
  obtain ⟨-, c', hc, A1, A2, A3, A4, A6, A5⟩ := W.at hi
  exact X.baloadBytes hx (by rw [eT]; exact hc) (State.isArrayOf_alike hZ.alike A1) A2 (out_of A3 hj hk hl) (by rw [hk, (A5 k hl).1, hv]) hg hs hd target hr
theorem aalW (X : Stand p l e R s m args below meth c T locs cells slots) (hx : p.tables.exec = Jvm.exec) (hZ : Z.Warmed39 s.vm) (eT : T.heap = h) (W : Wo n0 h E) (hi : E[i]? = some (a, P)) (hP : ∀ c, P c → Ar Z ty n f c) (hty : ty.isReference = true) {j : Int32} {k : Nat} (hj : ¬ j < 0) (hk : j.toNatClampNeg = k) (hl : k < n) (hv : f k = v)
    {g : JFrame} (hg : g.method = m) {rest : List Value} (hs : g.stack = .int j :: .ref a :: rest) (hd : decode c.code g.pc = .ok (.aaload, 1)) (target : State)
    (hr : Steps p.tables e below (T.setTop { g with pc := g.pc + 1, stack := v :: rest }) target) : Steps p.tables e below (T.setTop g) target := by
  obtain ⟨-, c', hc, hp⟩ := W.at hi
  obtain ⟨A1, A2, A3, A4, A6, A5⟩ := hP c' hp
  exact X.aaload hx (by rw [eT]; exact hc) (State.isArrayOf_alike hZ.alike A1) hty A2 (out_of A3 hj hk hl) (by rw [hk, (A5 k hl).1, hv]) hg hs hd target hr
theorem lenW (X : Stand p l e R s m args below meth c T locs cells slots) (hx : p.tables.exec = Jvm.exec) (hZ : Z.Warmed39 s.vm) (eT : T.heap = h) (W : Wo n0 h E) (hi : E[i]? = some (a, P)) (hP : ∀ c, P c → Ar Z ty n f c) {z : Int32} (hz : n.toInt32 = z)
    {g : JFrame} (hg : g.method = m) {rest : List Value} (hs : g.stack = .ref a :: rest) (hd : decode c.code g.pc = .ok (.arraylength, 1)) (target : State)
    (hr : Steps p.tables e below (T.setTop { g with pc := g.pc + 1, stack := .int z :: rest }) target) : Steps p.tables e below (T.setTop g) target := by
  obtain ⟨-, c', hc, hp⟩ := W.at hi
  obtain ⟨A1, A2, A3, A4, A6, A5⟩ := hP c' hp
  exact X.arraylength hx (cell := c') (by rw [eT]; exact hc) (State.isArrayOf_alike hZ.alike A1) hg hs hd target (by rw [A3, hz]; exact hr)
theorem iasW (X : Stand p l e R s m args below meth c T locs cells slots) (hx : p.tables.exec = Jvm.exec) (hZ : Z.Warmed39 s.vm) (eT : T.heap = h) (W : Wo n0 h E) (N : Fr n0 locs) (hi : E[i]? = some (a, Ar Z .int n f)) {j x : Int32} {k : Nat} (hj : ¬ j < 0) (hk : j.toNatClampNeg = k) (hl : k < n)
    {g : JFrame} (hg : g.method = m) {rest : List Value} (hs : g.stack = .int x :: .int j :: .ref a :: rest) (hd : decode c.code g.pc = .ok (.iastore, 1)) :
    ∃ T' h' L', Stand p l e R s m args below meth c T' L' cells slots ∧ T'.heap = h' ∧ Fr n0 L' ∧ Wo n0 h' (E.set i (a, Ar Z .int n (upd f k (.int x)))) ∧ ∀ target, Steps p.tables e below (T'.setTop { g with pc := g.pc + 1, stack := rest }) target → Steps p.tables e below (T.setTop g) target := by
  obtain ⟨hge, c', hc, A⟩ := W.at hi
  obtain ⟨T', h', X', e', w', st⟩ := stI X hx hZ eT (a := a) (cl := c') ⟨hc, A.1, A.2.1⟩ (out_of A.2.2.1 hj hk hl) hg hs hd
  rw [hk] at w'
  exact ⟨T', h', _, X', e', Fr.snoc X' N hge, W.wr hi w' (fun c q => q.set rfl k), st⟩
theorem dasW (X : Stand p l e R s m args below meth c T locs cells slots) (hx : p.tables.exec = Jvm.exec) (hZ : Z.Warmed39 s.vm) (eT : T.heap = h) (W : Wo n0 h E) (N : Fr n0 locs) (hi : E[i]? = some (a, Ar Z .double n f)) {j : Int32} {x : UInt64} {k : Nat} (hj : ¬ j < 0) (hk : j.toNatClampNeg = k) (hl : k < n)
    {g : JFrame} (hg : g.method = m) {rest : List Value} (hs : g.stack = .double x :: .int j :: .ref a :: rest) (hd : decode c.code g.pc = .ok (.dastore, 1)) :
    ∃ T' h' L', Stand p l e R s m args below meth c T' L' cells slots ∧ T'.heap = h' ∧ Fr n0 L' ∧ Wo n0 h' (E.set i (a, Ar Z .double n (upd f k (.double x)))) ∧ ∀ target, Steps p.tables e below (T'.setTop { g with pc := g.pc + 1, stack := rest }) target → Steps p.tables e below (T.setTop g) target := by
  obtain ⟨hge, c', hc, A⟩ := W.at hi
  obtain ⟨T', h', X', e', w', st⟩ := stD X hx hZ eT (a := a) (cl := c') ⟨hc, A.1, A.2.1⟩ (out_of A.2.2.1 hj hk hl) hg hs hd
  rw [hk] at w'
  exact ⟨T', h', _, X', e', Fr.snoc X' N hge, W.wr hi w' (fun c q => q.set rfl k), st⟩
theorem basW (X : Stand p l e R s m args below meth c T locs cells slots) (hx : p.tables.exec = Jvm.exec) (hZ : Z.Warmed39 s.vm) (eT : T.heap = h) (W : Wo n0 h E) (N : Fr n0 locs) (hi : E[i]? = some (a, Ar Z .byte n f)) {j x : Int32} {k : Nat} (hj : ¬ j < 0) (hk : j.toNatClampNeg = k) (hl : k < n)
    {g : JFrame} (hg : g.method = m) {rest : List Value} (hs : g.stack = .int x :: .int j :: .ref a :: rest) (hd : decode c.code g.pc = .ok (.bastore, 1)) :
    ∃ T' h' L', Stand p l e R s m args below meth c T' L' cells slots ∧ T'.heap = h' ∧ Fr n0 L' ∧ Wo n0 h' (E.set i (a, Ar Z .byte n (upd f k (.int x.toInt8.toInt32)))) ∧ ∀ target, Steps p.tables e below (T'.setTop { g with pc := g.pc + 1, stack := rest }) target → Steps p.tables e below (T.setTop g) target := by
  obtain ⟨hge, c', hc, A⟩ := W.at hi
  obtain ⟨T', h', X', e', w', st⟩ := stB X hx hZ eT (a := a) (cl := c') ⟨hc, A.1, A.2.1⟩ (out_of A.2.2.1 hj hk hl) hg hs hd
  rw [hk] at w'
  exact ⟨T', h', _, X', e', Fr.snoc X' N hge, W.wr hi w' (fun c q => q.set (fits_nar_byte x) k), st⟩
theorem newWA (X : Stand p l e R s m args below meth c T locs cells slots) (hx : p.tables.exec = Jvm.exec) (hZ : Z.Warmed39 s.vm) {aty : ArrayType} (hty : newarray.typeOf aty = ty) (w : (Cond.arrayClass ty).before a0 Z = true) (eT : T.heap = h) (W : Wo n0 h E) {g : JFrame} (hg : g.method = m) (hd : decode c.code g.pc = .ok (.newarray aty, 2)) {z : Int32} {rest : List Value} (hs : g.stack = .int z :: rest)
    (hz : ¬ z < 0) (hn : z.toNatClampNeg = n) {cap : Nat} (hcap : n ≤ cap) (hb : cap * 8 ≤ 536870912) (hc : cells + 1 ≤ R.cells) (hl : slots + cap ≤ R.slots) :
    ∃ T' h' b, Stand p l e R s m args below meth c T' locs (cells + 1) (slots + cap) ∧ T'.heap = h' ∧ Wo n0 h' ((b, Ar Z ty n (fun _ => defaultValue ty)) :: E) ∧ ∀ target, Steps p.tables e below (T'.setTop { g with pc := g.pc + 2, stack := .ref b :: rest }) target → Steps p.tables e below (T.setTop g) target := by
  subst hty
  obtain ⟨T', h', cA, X', e', E', A, B, st⟩ := newPE X hx hZ w eT hg hd hs hz (by rw [hn]; exact hcap) hb hc hl rfl
  exact ⟨T', h', h.size, X', e', W.push E' A.1 (Ar.new A hz hn B), st⟩
/-- what an array's copy leaves -/
def cpy (f g : Nat → Value) (sp dp nn : Nat) : Nat → Value := fun k => if dp ≤ k ∧ k < dp + nn then f (sp + (k - dp)) else g k
theorem toNat_of (hn : n < 2 ^ 31) : n.toInt32.toNatClampNeg = n ∧ ¬ n.toInt32 < 0 := by
  have q : n.toInt32.toInt = n := len_toInt hn
  refine ⟨by simp only [Int32.toNatClampNeg, q]; rfl, ?_⟩
  rw [Int32.lt_iff_toInt_lt, q]
  show ¬ (n : Int) < 0
  omega
theorem getD_range (f : Nat → Value) (n k : Nat) (d : Value) (hk : k < n) : ((List.range n).map f).getD k d = f k := by
  rw [List.getD_eq_getElem?_getD, List.getElem?_map, List.getElem?_range hk]; rfl
theorem Ar.arv {c : Cell} (A : Ar Z ty n f c) (hc : h[a]? = some c) (d : Value) : Arv Z h a c.cls ty n.toInt32 ((List.range n).map f) d := by
  obtain ⟨A1, A2, A3, A4, A6, A5⟩ := A
  obtain ⟨q1, q2⟩ := toNat_of A4
  exact ⟨c, ⟨hc, A1, A2⟩, rfl, by rw [q1]; exact A3, q2, fun k hk => by rw [A3] at hk; rw [getD_range f n k d hk]; exact (A5 k hk).1, fun k hk => by rw [A3] at hk; rw [getD_range f n k d hk]; exact (A5 k hk).2⟩
theorem Ar.of_arv {k : ClassId} {d : Value} {vs : List Value} (B : Arv Z h a k ty n.toInt32 vs d) (hn : n < 2 ^ 31) (hk : Z.vm.findClass ("[" ++ ty.toString) = some k) (hf : ∀ k, k < n → vs.getD k d = f k) : ∃ c : Cell, h[a]? = some c ∧ Ar Z ty n f c := by
  obtain ⟨c, A, rfl, S, -, H, G⟩ := B
  rw [(toNat_of hn).1] at S
  exact ⟨c, A.1, A.2.1, A.2.2, S, hn, hk, fun k hk => by rw [← hf k hk]; exact ⟨H k (by rw [S]; exact hk), G k (by rw [S]; exact hk)⟩⟩
theorem cpW (X : Stand p l e R s m args below meth c T locs cells slots) (hx : p.tables.exec = Jvm.exec) (hZ : Z.Warmed39 s.vm) {own : String} {index : Nat} (hown : s.vm.findClass own = some m.cls)
    (w1 : (Cond.methodLink own index Jvm.Stand.acN).before a0 Z = true) (w2 : (Cond.native Jvm.Stand.acN).before a0 Z = true) (w3 : (Cond.static Jvm.Stand.acN).before a0 Z = true) (w4 : (Cond.initialized "java/lang/System").before a0 Z = true) (eT : T.heap = h) (W : Wo n0 h E) (N : Fr n0 locs)
    {j : Nat} (hi : E[i]? = some (a, Ar Z ty n f)) (hj : E[j]? = some (b, Ar Z ty n' f')) (hty : refKind ty = false) {sp dp nn : Int32} {s' d' k' : Nat} (h1 : ¬ sp < 0) (h2 : ¬ dp < 0) (h3 : ¬ nn < 0) (es : sp.toNatClampNeg = s') (ed : dp.toNatClampNeg = d') (ek : nn.toNatClampNeg = k') (h4 : s' + k' ≤ n) (h5 : d' + k' ≤ n')
    {g : JFrame} (hg : g.method = m) (hsize : g.locals.size = c.maxLocals) {rest : List Value} (hs : g.stack = .int nn :: .int dp :: .ref b :: .int sp :: .ref a :: rest) (hd : decode c.code g.pc = .ok (.invokestatic index, 3))
    (hf : 1 ≤ R.frames) {W0 : Nat} (hW : 2 * g.monitorRoom + (rest.map fun v => v.category).sum ≤ W0) (hlo : W0 + (nativeFrameWords "java/lang/System" "arraycopy" 5 + 11) ≤ R.locals) :
    ∃ T' h' L', Stand p l e R s m args below meth c T' L' cells slots ∧ T'.heap = h' ∧ Fr n0 L' ∧ Wo n0 h' (E.set j (b, Ar Z ty n' (cpy f f' s' d' k'))) ∧ ∀ target, Steps p.tables e below (T'.setTop { g with pc := g.pc + 3, stack := rest }) target → Steps p.tables e below (T.setTop g) target := by
  obtain ⟨-, c1, hc1, A⟩ := W.at hi
  obtain ⟨ge, c2, hc2, B⟩ := W.at hj
  have nA := A.2.2.2.1
  have nB := B.2.2.2.1
  obtain ⟨T', h', L, X', e', N', K, V, st⟩ := cpA X hx hZ hown w1 w2 w3 w4 eT (A.arv hc1 .null) (B.arv hc2 .null) (us := (List.range nn.toNatClampNeg).map fun i => ((List.range n).map f).getD (sp.toNatClampNeg + i) .null) (Or.inl ⟨rfl, hty⟩) h1 h2 h3
    (by rw [(toNat_of nA).1, es, ek]; exact h4) (by rw [(toNat_of nB).1, ed, ek]; exact h5) rfl (by rw [List.length_map, List.length_range, ed, ek]; exact h5) N ge hg hsize hs hd hf hW hlo
  subst es ed ek
  obtain ⟨c', hc', A'⟩ := Ar.of_arv (f := cpy f f' sp.toNatClampNeg dp.toNatClampNeg nn.toNatClampNeg) V nB B.2.2.2.2.1 (fun k hk => by
    simp only [List.getD_eq_getElem?_getD, cpy]
    by_cases q1 : k < dp.toNatClampNeg
    · rw [if_neg (fun z => absurd z.1 (Nat.not_le.mpr q1))]
      rw [List.append_assoc, List.getElem?_append_left (by rw [List.length_take, List.length_map, List.length_range]; omega)]
      rw [List.getElem?_take_of_lt q1, List.getElem?_map, List.getElem?_range hk]; rfl
    · by_cases q2 : k < dp.toNatClampNeg + nn.toNatClampNeg
      · rw [if_pos ⟨Nat.le_of_not_lt q1, q2⟩]
        have l1 : (((List.range n').map f').take dp.toNatClampNeg).length = dp.toNatClampNeg := by rw [List.length_take, List.length_map, List.length_range]; omega
        rw [List.append_assoc, List.getElem?_append_right (by rw [l1]; omega), l1, List.getElem?_append_left (by rw [List.length_map, List.length_range]; omega)]
        rw [List.getElem?_map, List.getElem?_range (by omega)]
        show (((List.range n).map f)[sp.toNatClampNeg + (k - dp.toNatClampNeg)]?).getD .null = _
        rw [List.getElem?_map, List.getElem?_range (by omega)]; rfl
      · rw [if_neg (fun z => q2 z.2)]
        have l1 : (((List.range n').map f').take dp.toNatClampNeg).length = dp.toNatClampNeg := by rw [List.length_take, List.length_map, List.length_range]; omega
        rw [List.append_assoc, List.getElem?_append_right (by rw [l1]; omega), l1, List.getElem?_append_right (by rw [List.length_map, List.length_range]; omega), List.length_map, List.length_range, List.getElem?_drop]
        rw [show dp.toNatClampNeg + nn.toNatClampNeg + (k - dp.toNatClampNeg - nn.toNatClampNeg) = k by omega, List.getElem?_map, List.getElem?_range hk]; rfl)
  exact ⟨T', h', L, X', e', N', W.kp hj K hc' A', st⟩
/-- an array of arrays -/
def Pg (Z : State) (t : FieldType) (n : Nat) (f : Nat → Value) (c : Cell) : Prop := Ar Z (.array t) n f c ∧ OvrA Z c.cls t (FieldType.array t).toString
theorem Pg.set {c : Cell} {t : FieldType} (A : Pg Z t n f c) (hv : fits (.array t) v = true) (j : Nat) : Pg Z t n (upd f j v) (c.setSlot j v) := ⟨A.1.set hv j, A.2⟩
theorem Wo.sto {t : FieldType} {j : Nat} (W : Wo n0 h E) (hi : E[i]? = some (a, Pg Z t n f)) (hj : E[j]? = some (b, Ar Z t n' f')) : Sto Z h a (.ref b) := by
  obtain ⟨-, c1, hc1, A, O⟩ := W.at hi
  obtain ⟨-, c2, hc2, B⟩ := W.at hj
  have hB : Arr Z h b c2 t := ⟨hc2, B.1, B.2.1⟩
  refine Sto.ofVA (cl := c1) ⟨hc1, A.1, A.2.1⟩ rfl O ⟨c2, c2.cls, hc2, B.2.2.2.2.1, ?_⟩
  simp [hB.plain, Vm.assignable_self]
theorem aasW (X : Stand p l e R s m args below meth c T locs cells slots) (hx : p.tables.exec = Jvm.exec) (hZ : Z.Warmed39 s.vm) (eT : T.heap = h) (W : Wo n0 h E) (N : Fr n0 locs) {t : FieldType} (hi : E[i]? = some (a, Pg Z t n f)) {j : Int32} {k : Nat} (hj : ¬ j < 0) (hk : j.toNatClampNeg = k) (hl : k < n) (hf : fits (.array t) v = true) (F : Sto Z h a v)
    {g : JFrame} (hg : g.method = m) {rest : List Value} (hs : g.stack = v :: .int j :: .ref a :: rest) (hd : decode c.code g.pc = .ok (.aastore, 1)) :
    ∃ T' h' L', Stand p l e R s m args below meth c T' L' cells slots ∧ T'.heap = h' ∧ Fr n0 L' ∧ Wo n0 h' (E.set i (a, Pg Z t n (upd f k v))) ∧ ∀ target, Steps p.tables e below (T'.setTop { g with pc := g.pc + 1, stack := rest }) target → Steps p.tables e below (T.setTop g) target := by
  obtain ⟨hge, c', hc, A, O⟩ := W.at hi
  obtain ⟨T', h', X', e', w', st⟩ := stR X hx hZ eT (a := a) (cl := c') (ty := .array t) ⟨hc, A.1, A.2.1⟩ (out_of A.2.2.1 hj hk hl) rfl F hg hs hd
  rw [hk] at w'
  exact ⟨T', h', _, X', e', Fr.snoc X' N hge, W.wr hi w' (fun c q => q.set hf k), st⟩
theorem newWR (X : Stand p l e R s m args below meth c T locs cells slots) (hx : p.tables.exec = Jvm.exec) (hZ : Z.Warmed39 s.vm) {own C : String} {t : FieldType} {index : Nat} (hown : s.vm.findClass own = some m.cls) (hC : (FieldType.array t).toString = C) (w1 : (Cond.classLink own index C).before a0 Z = true) (w2 : (Cond.arrayOver (.array t)).before a0 Z = true)
    (eT : T.heap = h) (W : Wo n0 h E) {g : JFrame} (hg : g.method = m) (hd : decode c.code g.pc = .ok (.anewarray index, 3)) {z : Int32} {rest : List Value} (hs : g.stack = .int z :: rest) (hz : ¬ z < 0) (hn : z.toNatClampNeg = n) {cap : Nat} (hcap : n ≤ cap) (hb : cap * 8 ≤ 536870912) (hc : cells + 1 ≤ R.cells) (hl : slots + cap ≤ R.slots) :
    ∃ T' h' b, Stand p l e R s m args below meth c T' locs (cells + 1) (slots + cap) ∧ T'.heap = h' ∧ Wo n0 h' ((b, Pg Z t n (fun _ => .null)) :: E) ∧ ∀ target, Steps p.tables e below (T'.setTop { g with pc := g.pc + 3, stack := .ref b :: rest }) target → Steps p.tables e below (T.setTop g) target := by
  subst hC
  obtain ⟨T', h', cA, X', e', E', A, B, O, st⟩ := newRA X hx hZ hown rfl w1 w2 eT hg hd hs hz (by rw [hn]; exact hcap) hb hc hl rfl
  exact ⟨T', h', h.size, X', e', W.push E' A.1 ⟨Ar.new A hz hn B, O⟩, st⟩
/-- the run comes from the frame F0 at S to the frame F at T -/
def Rch (p : Program) (e : Env) (below : List Frame) (S : State) (F0 : JFrame) (T : State) (F : JFrame) : Prop := ∀ t, Steps p.tables e below (T.setTop F) t → Steps p.tables e below (S.setTop F0) t
abbrev Rch.g {p : Program} {e : Env} {below : List Frame} {S : State} {F0 : JFrame} {T : State} {F : JFrame} (_ : Rch p e below S F0 T F) : JFrame := F
abbrev kI (z : Int32) : Value := .int z
abbrev kJ (z : Int64) : Value := .long z
abbrev kD (z : UInt64) : Value := .double z
abbrev kR (a : Addr) : Value := .ref a
abbrev sI (z : Int32) : Slot := .val (.int z)
abbrev sJ (z : Int64) : Slot := .val (.long z)
abbrev sD (z : UInt64) : Slot := .val (.double z)
abbrev sR (a : Addr) : Slot := .val (.ref a)
abbrev sU : Slot := .unset
abbrev sV : Slot := .second
def zI : Nat → Value := fun _ => .int 0
def zD : Nat → Value := fun _ => .double 0
def zN : Nat → Value := fun _ => .null
theorem mi {α : Type} {L : List α} {d : α} (i : Nat) (h : L[i]? = some d) : d ∈ L := List.mem_of_getElem? h
theorem all0 {α : Type} {Q : α → Prop} : ∀ x ∈ ([] : List α), Q x := fun _ q => nomatch q
theorem allS {α : Type} {Q : α → Prop} {y : α} {L : List α} (q : Q y) (r : ∀ x ∈ L, Q x) : ∀ x ∈ y :: L, Q x := fun x z => (List.mem_cons.mp z).elim (fun u => u ▸ q) (r x)
theorem retA (X : Stand p l e R s m args below meth c T locs cells slots) (hx : p.tables.exec = Jvm.exec) {pc : Nat} {Ls : Array Slot} {t : FieldType} {rest : List Value} (hret : meth.sig.returnType = some t) (ht : t.isReference = true) (hd : decode c.code pc = .ok (.areturn, 1)) {fs : List Frame}
    (hl : ∀ (f : JFrame) (acts : List Action), f.method = m → f.locked = none → f.entered = [] → (doReturn e (T.setTop f) acts (some (.ref a))).1 = T.setFrames fs) : Steps p.tables e below (T.setTop (mkF m pc Ls (.ref a :: rest))) (T.setFrames fs) := by
  have hm' : T.vm.method? m = some meth := X.method'
  show Steps p.tables e below (T.setTop { method := m, pc := pc, locals := Ls, stack := _ :: rest, locked := none }) _
  jvm_step X.here [X.here.top, hx, hd, hm', hret, Value.isRef, ht]
  first | (intro acts; rw [hl _ acts rfl rfl rfl]) | rw [hl _ _ rfl rfl rfl]
  exact Steps.refl _
theorem retD (X : Stand p l e R s m args below meth c T locs cells slots) (hx : p.tables.exec = Jvm.exec) {pc : Nat} {Ls : Array Slot} {z : UInt64} {rest : List Value} (hret : meth.sig.returnType = some .double) (hd : decode c.code pc = .ok (.dreturn, 1)) {fs : List Frame}
    (hl : ∀ (f : JFrame) (acts : List Action), f.method = m → f.locked = none → f.entered = [] → (doReturn e (T.setTop f) acts (some (.double z))).1 = T.setFrames fs) : Steps p.tables e below (T.setTop (mkF m pc Ls (.double z :: rest))) (T.setFrames fs) := by
  have hm' : T.vm.method? m = some meth := X.method'
  have hn : narrow .double (.double z) = .double z := rfl
  show Steps p.tables e below (T.setTop { method := m, pc := pc, locals := Ls, stack := _ :: rest, locked := none }) _
  jvm_step X.here [X.here.top, hx, hd, hm', hret, hn]
  first | (intro acts; rw [hl _ acts rfl rfl rfl]) | rw [hl _ _ rfl rfl rfl]
  exact Steps.refl _
theorem retL (X : Stand p l e R s m args below meth c T locs cells slots) (hx : p.tables.exec = Jvm.exec) {pc : Nat} {Ls : Array Slot} {z : Int64} {rest : List Value} (hret : meth.sig.returnType = some .long) (hd : decode c.code pc = .ok (.lreturn, 1)) {fs : List Frame}
    (hl : ∀ (f : JFrame) (acts : List Action), f.method = m → f.locked = none → f.entered = [] → (doReturn e (T.setTop f) acts (some (.long z))).1 = T.setFrames fs) : Steps p.tables e below (T.setTop (mkF m pc Ls (.long z :: rest))) (T.setFrames fs) := by
  have hm' : T.vm.method? m = some meth := X.method'
  have hn : narrow .long (.long z) = .long z := rfl
  show Steps p.tables e below (T.setTop { method := m, pc := pc, locals := Ls, stack := _ :: rest, locked := none }) _
  jvm_step X.here [X.here.top, hx, hd, hm', hret, hn]
  first | (intro acts; rw [hl _ acts rfl rfl rfl]) | rw [hl _ _ rfl rfl rfl]
  exact Steps.refl _
theorem privB (X : Stand p l e R s m args below meth c T locs cells slots) (hx : p.tables.exec = Jvm.exec) {own : String} {index kk : Nat} {y : MethodName} {bytes : ByteArray} {maxL : Nat} {ret : Option FieldType}
    (hown : s.vm.findClass own = some m.cls) (hlink : (Cond.methodLink own index y).before args s = true) (hinst : (Cond.instanceMethod y).before args s = true) (hplain : (Cond.instantiable y.cls kk).before args s = true)
    (hpriv : s.PrivateAt y) (hcode : (Cond.code y bytes maxL ret).before args s = true) (hy : y.cls ≠ "java/lang/invoke/MethodHandle" ∧ y.cls ≠ "java/lang/invoke/VarHandle")
    {W : Nat} {Pre : Free.Pt → Array Value → Prop} {Post : Free.Pt → Array Value → Option Value → Free.Pt → Prop} (hK : Free.Back l R p e below s args y 3 W Pre Post)
    {g : JFrame} (hg : g.method = m) (hsize : g.locals.size = c.maxLocals) {s₀ : State} (hcome : Steps p.tables e below s₀ (T.setTop g)) {cell : Cell} (hcell : T.heap[a]? = some cell) (hobj : ∀ q, cell.vm ≠ .statics q)
    {argsL rest : List Value} (hlen : ∀ sig, parseMethodDescriptor y.desc = some sig → argsL.length = sig.parameters.length)
    (hstack : g.stack = argsL.reverse ++ .ref a :: rest) (hW : 2 * g.monitorRoom + (rest.map fun v => v.category).sum ≤ W) (hdg : decode c.code g.pc = .ok (.invokevirtual index, 3))
    (hpre : ∀ vm₁, s.WarmedH vm₁ → Pre ⟨T.setVm vm₁, locs, cells, slots⟩ (.ref a :: argsL).toArray) :
    ∃ (v : Option Value) (vm₁ : Vm) (B : Free.Pt), s.WarmedH vm₁ ∧ Stand p l e R s m args below meth c B.U B.locs B.cells B.slots ∧ Post ⟨T.setVm vm₁, locs, cells, slots⟩ (.ref a :: argsL).toArray v B ∧
      Steps p.tables e below s₀ (B.U.setTop { g with pc := g.pc + 3, stack := v.toList ++ rest }) := by
  obtain ⟨mk, methM, hnamed, hmethM, hstM, habM⟩ := Cond.instanceMethod_spec hinst
  obtain ⟨methM', cM, hmethM', -, -, -, -, -, -, hsigM⟩ := Cond.code_spec hnamed hcode
  cases hmethM.symm.trans hmethM'
  obtain ⟨c2, kP, q1, q2, -, q4, -⟩ := Cond.instantiable_spec hplain
  have q5 := findClass_of_methodNamed hnamed
  cases q1.symm.trans q5
  have hkPi : kP.isInterface = false := by cases hq : kP.isInterface <;> simp [hq] at q4 ⊢
  have hselP : selectMethod e.platform s.vm cell.cls mk = .method mk := selectMethod_private hmethM (hpriv mk methM hnamed hmethM)
  obtain ⟨vm₁, X₁, hstep₁⟩ := X.invokevirtual hx hown hlink hnamed hmethM hstM q2 hkPi hy (a := a) (cell := cell) hcell hobj hselP hmethM habM q2 hkPi (g := g) hg (argsL := argsL) (rest := rest) (hlen _ hsigM) hstack hdg
  have hW₁ : s.WarmedH vm₁ := X₁.warmed
  obtain ⟨v, B, X', hpost, hsteps⟩ := hK m meth c ⟨T.setVm vm₁, locs, cells, slots⟩ { g with stack := rest } (.invokevirtual index) mk (.ref a :: argsL).toArray X₁ hg hsize hdg hW (X₁.named hnamed) (hpre vm₁ hW₁)
  exact ⟨v, vm₁, B, hW₁, X', hpost, (hcome.trans (hstep₁ _ fun acts => by rw [doInvoke_state]; exact Steps.refl _)).trans hsteps⟩
end Kit
end Jvm.OwnKit
namespace Jvm.Pilot.@@N@@
open Jvm Jvm.ClassFile Sem Op Lib Jvm.Free Jvm.Stand Jvm.LawKit Jvm.RoadKit Bundle Jvm.Pilot.@@N@@.Jvm.D
open Jvm.OwnKit (Wo Ob Ar Pg Dist upd upd_same upd_other cpy getR putW newWO newWA newWR ialW dalW balW aalW lenW iasW dasW basW aasW cpW Rch zI zD zN mi kI kJ kD kR sI sJ sD sR sU sV)
def nsPB : List (String × String) := [("pages", "[[B"), ("size", "I")]
theorem own_lPB {Z : State} {a0 : Array Value} (hw : ∀ d ∈ tables_1, d.before a0 Z = true) : ∀ x ∈ nsPB, Laid Z a0 "com/example/attribute_checker/attributechecker/checker/PagedBytes" "com/example/attribute_checker/attributechecker/checker/PagedBytes" x.1 x.2 := Jvm.OwnKit.allS (Or.inl (hw _ (mi 13 rfl))) (Jvm.OwnKit.allS (Or.inl (hw _ (mi 20 rfl))) (Jvm.OwnKit.all0))
theorem own_dPB {Z : State} {a0 : Array Value} (hw : ∀ d ∈ tables_1, d.before a0 Z = true) : Dist Z "com/example/attribute_checker/attributechecker/checker/PagedBytes" nsPB := Dist.of (own_lPB hw) (by decide +kernel) (by decide +kernel)
theorem own_vPB : nsPB.map (fun x => (parseFieldDescriptor x.2).map defaultValue) = ([.null, (.int (0 : Int32))] : List Value).map some := by first | rfl | decide +kernel
abbrev oPB (Z : State) (vs : List Value) : Cell → Prop := Ob Z "com/example/attribute_checker/attributechecker/checker/PagedBytes" nsPB vs
theorem pd_init : parseMethodDescriptor "()V" = some ⟨[], none⟩ := by decide +kernel
theorem pn_PagedBytes : plainName "com/example/attribute_checker/attributechecker/checker/PagedBytes" = true := by first | (simp [plainName, overriddenIn]; done) | decide +kernel
theorem d_init_0 : decode prog_13_method_1_code 0 = .ok (.aload_n 0, 1) := by decide +kernel
theorem d_init_1 : decode prog_13_method_1_code 1 = .ok (.invokespecial 3, 3) := by decide +kernel
theorem d_init_4 : decode prog_13_method_1_code 4 = .ok (.aload_n 0, 1) := by decide +kernel
theorem d_init_5 : decode prog_13_method_1_code 5 = .ok (.bipush 8, 2) := by decide +kernel
theorem d_init_7 : decode prog_13_method_1_code 7 = .ok (.anewarray 9, 3) := by decide +kernel
theorem d_init_10 : decode prog_13_method_1_code 10 = .ok (.putfield 11, 3) := by decide +kernel
theorem d_init_13 : decode prog_13_method_1_code 13 = .ok (.return_, 1) := by decide +kernel
theorem ef_rmI (m : MethodId) (o : Addr) : entryFrame m #[(.ref o)] 1 = mkF m 0 #[.val (.ref o)] [] := by first | (simp [entryFrame, mkF, argsToLocals, Value.category]; done) | rfl
def QrmI (Z : State) (o : Addr) (Rr : List (Addr × (Cell → Prop))) (n0 : Nat) (v : Option Value) (h : Heap) (L : List Loc) : Prop := v = none ∧ Fr n0 L ∧ ∃ pa, Wo n0 h ((pa, Pg Z .byte 8 zN) :: (o, Ob Z "com/example/attribute_checker/attributechecker/checker/PagedBytes" nsPB [.ref pa, .int 0]) :: Rr)
set_option maxRecDepth 65536 in
set_option maxHeartbeats 40000000 in
theorem rmI (l : Launch) (Z : State) (a0 : Array Value) (hw : ∀ d ∈ tables_1, d.before a0 Z = true) (ws : List Jvm.Cond) (o : Addr) (Rr : List (Addr × (Cell → Prop))) (h0 : Heap) (n0 : Nat) (W0 : Wo n0 h0 ((o, oPB Z [.null, (kI 0)]) :: Rr)) :
    MetFree l (⟨"com/example/attribute_checker/attributechecker/checker/PagedBytes", "<init>", "()V"⟩ : MethodName) (head1 (Jvm.Cond.code (⟨"com/example/attribute_checker/attributechecker/checker/PagedBytes", "<init>", "()V"⟩ : MethodName) prog_13_method_1_code 1 none :: ws) ({ frames := 1, cells := 1, slots := 8, locals := 12 } : Room)) (fun a U => a = #[(.ref o)] ∧ Z.Warmed39 U.vm ∧ U.heap = h0) (fun _ _ _ _ _ => True) (fun _ U ou U' => ∃ v L, ou = .returned v ∧ QrmI Z o Rr n0 v U'.heap L ∧ FrameEnd U ou U' L ({ frames := 1, cells := 1, slots := 8, locals := 12 } : Room).cells ({ frames := 1, cells := 1, slots := 8, locals := 12 } : Room).slots) := by
  refine MetFree.of_bodySF (plainFor_of_name pn_PagedBytes) hisR ?_
  intro p e s m args below meth c s₁ Bd hml0 hP hK
  obtain ⟨rfl, hZ, hh⟩ := hP
  have hx := Bd.exec
  have hby := Bd.bytes
  have hml : c.maxLocals = 1 := hml0
  have hown : s.vm.findClass "com/example/attribute_checker/attributechecker/checker/PagedBytes" = some m.cls := findClass_of_methodNamed Bd.named
  have hnm := (name_of_methodNamed Bd.named Bd.method).1
  have X0 : Stand p l e ({ frames := 1, cells := 1, slots := 8, locals := 12 } : Room) s m #[(.ref o)] below meth c s₁ [] 0 0 := Stand.of_body Bd
  have e0 : s₁.heap = h0 := by rw [← hh, Bd.state]; rfl
  have N0 := Fr.nil n0
  obtain ⟨F0, hF0⟩ : ∃ F, F = mkF m 0 #[.val (.ref o)] [] := ⟨_, rfl⟩
  have pre0 : ∀ t, Steps p.tables e below (s₁.setTop F0) t → Steps p.tables e below (s₁.setTop (entryFrame m #[(.ref o)] 1)) t := fun t k => castTop ((ef_rmI m o).trans hF0.symm) k
  have K0 : Rch p e below s₁ F0 s₁ (mkF m 0 #[.val (.ref o)] []) := fun t k => castTop hF0 k
  have K1 : Rch p e below s₁ F0 s₁ (mkF m 1 #[sR o] [(kR o)]) := fun t k => K0 t (XS.aloadN X0.here hx rfl (hb hby d_init_0) rfl rfl k)
  obtain ⟨T2, X2, e2, st2⟩ := initO X0 hx hZ hown (hw _ (mi 7 rfl)) (hw _ (mi 8 rfl)) (hw _ (mi 9 rfl)) e0 (g := K1.g) rfl (by rw [hml]; rfl) rfl (hb hby d_init_1) (by decide) (W := 0) (by show 2 * 0 + _ ≤ _; exact Nat.le_of_eq rfl) (by decide)
  have K3 : Rch p e below s₁ F0 T2 (mkF m 7 #[sR o] [(kI 8), (kR o)]) := fun t k => K1 t (st2 t (by
    refine XS.aloadN X2.here hx rfl (hb hby d_init_4) rfl rfl ?_
    refine XS.bipush X2.here hx rfl (hb hby d_init_5) ?_
    exact k))
  obtain ⟨T4, h4, a4, X4, e4, W4q, st4⟩ := newWR X2 hx hZ (t := .byte) hown rfl (hw _ (mi 10 rfl)) (hw _ (mi 11 rfl)) e2 W0 (g := K3.g) rfl (hb hby d_init_7) (z := (8 : Int32)) (n := 8) rfl (by decide) (by decide) (cap := 8) (by decide) (by decide) (by decide : 0 + 1 ≤ _) (by decide : 0 + 8 ≤ _)
  have W4 : Wo n0 h4 ((a4, Pg Z .byte 8 zN) :: (o, oPB Z [.null, (kI 0)]) :: Rr) := W4q
  obtain ⟨T5, h5, L5, X5, e5, N5, W5q, st5⟩ := putW X4 hx hZ hown (host := "") (Or.inl (hw _ (mi 12 rfl))) e4 W4 N0 (own_dPB hw) (Or.inl (hw _ (mi 13 rfl))) (hw _ (mi 2 rfl)) (ty := (.array (.array .byte))) (by decide +kernel) (i := 1) (a := o) rfl (j := 0) rfl rfl (v := (.ref a4)) rfl rfl (g := (mkF m 10 #[sR o] [(kR a4), (kR o)])) rfl rfl (hb hby d_init_10)
  have W5 : Wo n0 h5 ((a4, Pg Z .byte 8 zN) :: (o, oPB Z [(kR a4), (kI 0)]) :: Rr) := W5q
  have K6 : Rch p e below s₁ F0 T5 (mkF m 13 #[sR o] []) := fun t k => K3 t (st4 t (st5 t (k)))
  obtain ⟨fs, hr, hrun, hended, hWm, hsame⟩ := X5.leave (v := none) (fun _ => rfl)
  refine ⟨_, _, pre0 _ (K6 _ (X5.returnOut hx Bd.returns (hb hby d_init_13) hr)), hrun, hended, _, _, rfl, ?_, ⟨_, rfl⟩, hWm, hsame.mono (by decide) (by decide)⟩
  show QrmI Z o Rr n0 _ T5.heap _
  rw [e5]
  exact ⟨rfl, N5, a4, W5⟩
theorem pd_add : parseMethodDescriptor "(B)V" = some ⟨[.byte], none⟩ := by decide +kernel
theorem d_add_0 : decode prog_13_method_6_code 0 = .ok (.aload_n 0, 1) := by decide +kernel
theorem d_add_1 : decode prog_13_method_6_code 1 = .ok (.getfield 15, 3) := by decide +kernel
theorem d_add_4 : decode prog_13_method_6_code 4 = .ok (.ldc 35, 2) := by decide +kernel
theorem d_add_6 : decode prog_13_method_6_code 6 = .ok (.if_icmp .ne 13, 3) := by decide +kernel
theorem d_add_19 : decode prog_13_method_6_code 19 = .ok (.aload_n 0, 1) := by decide +kernel
theorem d_add_20 : decode prog_13_method_6_code 20 = .ok (.getfield 15, 3) := by decide +kernel
theorem d_add_23 : decode prog_13_method_6_code 23 = .ok (.bipush 16, 2) := by decide +kernel
theorem d_add_25 : decode prog_13_method_6_code 25 = .ok (.iushr, 1) := by decide +kernel
theorem d_add_26 : decode prog_13_method_6_code 26 = .ok (.istore_n 2, 1) := by decide +kernel
theorem d_add_27 : decode prog_13_method_6_code 27 = .ok (.aload_n 0, 1) := by decide +kernel
theorem d_add_28 : decode prog_13_method_6_code 28 = .ok (.getfield 15, 3) := by decide +kernel
theorem d_add_31 : decode prog_13_method_6_code 31 = .ok (.ldc 19, 2) := by decide +kernel
theorem d_add_33 : decode prog_13_method_6_code 33 = .ok (.iand, 1) := by decide +kernel
theorem d_add_34 : decode prog_13_method_6_code 34 = .ok (.istore_n 3, 1) := by decide +kernel
theorem d_add_35 : decode prog_13_method_6_code 35 = .ok (.iload_n 2, 1) := by decide +kernel
theorem d_add_36 : decode prog_13_method_6_code 36 = .ok (.aload_n 0, 1) := by decide +kernel
theorem d_add_37 : decode prog_13_method_6_code 37 = .ok (.getfield 11, 3) := by decide +kernel
theorem d_add_40 : decode prog_13_method_6_code 40 = .ok (.arraylength, 1) := by decide +kernel
theorem d_add_41 : decode prog_13_method_6_code 41 = .ok (.if_icmp .ne 24, 3) := by decide +kernel
theorem d_add_65 : decode prog_13_method_6_code 65 = .ok (.aload_n 0, 1) := by decide +kernel
theorem d_add_66 : decode prog_13_method_6_code 66 = .ok (.getfield 11, 3) := by decide +kernel
theorem d_add_69 : decode prog_13_method_6_code 69 = .ok (.iload_n 2, 1) := by decide +kernel
theorem d_add_70 : decode prog_13_method_6_code 70 = .ok (.aaload, 1) := by decide +kernel
theorem d_add_71 : decode prog_13_method_6_code 71 = .ok (.ifnonnull 26, 3) := by decide +kernel
theorem d_add_74 : decode prog_13_method_6_code 74 = .ok (.aload_n 0, 1) := by decide +kernel
theorem d_add_75 : decode prog_13_method_6_code 75 = .ok (.getfield 11, 3) := by decide +kernel
theorem d_add_78 : decode prog_13_method_6_code 78 = .ok (.iload_n 2, 1) := by decide +kernel
theorem d_add_79 : decode prog_13_method_6_code 79 = .ok (.iload_n 2, 1) := by decide +kernel
theorem d_add_80 : decode prog_13_method_6_code 80 = .ok (.ifCond .ne 9, 3) := by decide +kernel
theorem d_add_83 : decode prog_13_method_6_code 83 = .ok (.sipush 256, 3) := by decide +kernel
theorem d_add_86 : decode prog_13_method_6_code 86 = .ok (.goto 5, 3) := by decide +kernel
theorem d_add_91 : decode prog_13_method_6_code 91 = .ok (.newarray .byte, 2) := by decide +kernel
theorem d_add_93 : decode prog_13_method_6_code 93 = .ok (.aastore, 1) := by decide +kernel
theorem d_add_94 : decode prog_13_method_6_code 94 = .ok (.goto 32, 3) := by decide +kernel
theorem d_add_126 : decode prog_13_method_6_code 126 = .ok (.aload_n 0, 1) := by decide +kernel
theorem d_add_127 : decode prog_13_method_6_code 127 = .ok (.getfield 11, 3) := by decide +kernel
theorem d_add_130 : decode prog_13_method_6_code 130 = .ok (.iload_n 2, 1) := by decide +kernel
theorem d_add_131 : decode prog_13_method_6_code 131 = .ok (.aaload, 1) := by decide +kernel
theorem d_add_132 : decode prog_13_method_6_code 132 = .ok (.iload_n 3, 1) := by decide +kernel
theorem d_add_133 : decode prog_13_method_6_code 133 = .ok (.iload_n 1, 1) := by decide +kernel
theorem d_add_134 : decode prog_13_method_6_code 134 = .ok (.bastore, 1) := by decide +kernel
theorem d_add_135 : decode prog_13_method_6_code 135 = .ok (.aload_n 0, 1) := by decide +kernel
theorem d_add_136 : decode prog_13_method_6_code 136 = .ok (.dup, 1) := by decide +kernel
theorem d_add_137 : decode prog_13_method_6_code 137 = .ok (.getfield 15, 3) := by decide +kernel
theorem d_add_140 : decode prog_13_method_6_code 140 = .ok (.iconst 1, 1) := by decide +kernel
theorem d_add_141 : decode prog_13_method_6_code 141 = .ok (.iadd, 1) := by decide +kernel
theorem d_add_142 : decode prog_13_method_6_code 142 = .ok (.putfield 15, 3) := by decide +kernel
theorem d_add_145 : decode prog_13_method_6_code 145 = .ok (.return_, 1) := by decide +kernel
theorem ef_rmA (m : MethodId) (o pa : Addr) (x : Int32) (f : Nat → Value) : entryFrame m #[(.ref o), (.int x)] 4 = mkF m 0 #[.val (.ref o), .val (.int x), .unset, .unset] [] := by first | (simp [entryFrame, mkF, argsToLocals, Value.category]; done) | rfl
def QrmA (Z : State) (o pa : Addr) (x : Int32) (f : Nat → Value) (Rr : List (Addr × (Cell → Prop))) (n0 : Nat) (v : Option Value) (h : Heap) (L : List Loc) : Prop := v = none ∧ Fr n0 L ∧ ∃ b, Wo n0 h ((b, Ar Z .byte 256 (upd zI 0 (.int x.toInt8.toInt32))) :: (o, Ob Z "com/example/attribute_checker/attributechecker/checker/PagedBytes" nsPB [.ref pa, .int 1]) :: (pa, Pg Z .byte 8 (upd f 0 (.ref b))) :: Rr)
set_option maxRecDepth 65536 in
set_option maxHeartbeats 40000000 in
theorem rmA (l : Launch) (Z : State) (a0 : Array Value) (hw : ∀ d ∈ tables_1, d.before a0 Z = true) (ws : List Jvm.Cond) (o pa : Addr) (x : Int32) (f : Nat → Value) (Rr : List (Addr × (Cell → Prop))) (h0 : Heap) (n0 : Nat) (W0 : Wo n0 h0 ((o, oPB Z [(kR pa), (kI 0)]) :: (pa, Pg Z .byte 8 f) :: Rr)) (hf : f 0 = .null) :
    MetFree l (⟨"com/example/attribute_checker/attributechecker/checker/PagedBytes", "add", "(B)V"⟩ : MethodName) (head1 (Jvm.Cond.code (⟨"com/example/attribute_checker/attributechecker/checker/PagedBytes", "add", "(B)V"⟩ : MethodName) prog_13_method_6_code 4 none :: ws) ({ frames := 0, cells := 1, slots := 256, locals := 0 } : Room)) (fun a U => a = #[(.ref o), (.int x)] ∧ Z.Warmed39 U.vm ∧ U.heap = h0) (fun _ _ _ _ _ => True) (fun _ U ou U' => ∃ v L, ou = .returned v ∧ QrmA Z o pa x f Rr n0 v U'.heap L ∧ FrameEnd U ou U' L ({ frames := 0, cells := 1, slots := 256, locals := 0 } : Room).cells ({ frames := 0, cells := 1, slots := 256, locals := 0 } : Room).slots) := by
  refine MetFree.of_bodySF (plainFor_of_name pn_PagedBytes) hisR ?_
  intro p e s m args below meth c s₁ Bd hml0 hP hK
  obtain ⟨rfl, hZ, hh⟩ := hP
  have hx := Bd.exec
  have hby := Bd.bytes
  have hml : c.maxLocals = 4 := hml0
  have hown : s.vm.findClass "com/example/attribute_checker/attributechecker/checker/PagedBytes" = some m.cls := findClass_of_methodNamed Bd.named
  have hnm := (name_of_methodNamed Bd.named Bd.method).1
  have X0 : Stand p l e ({ frames := 0, cells := 1, slots := 256, locals := 0 } : Room) s m #[(.ref o), (.int x)] below meth c s₁ [] 0 0 := Stand.of_body Bd
  have e0 : s₁.heap = h0 := by rw [← hh, Bd.state]; rfl
  have N0 := Fr.nil n0
  obtain ⟨F0, hF0⟩ : ∃ F, F = mkF m 0 #[.val (.ref o), .val (.int x), .unset, .unset] [] := ⟨_, rfl⟩
  have pre0 : ∀ t, Steps p.tables e below (s₁.setTop F0) t → Steps p.tables e below (s₁.setTop (entryFrame m #[(.ref o), (.int x)] 4)) t := fun t k => castTop ((ef_rmA m o pa x f).trans hF0.symm) k
  have K0 : Rch p e below s₁ F0 s₁ (mkF m 0 #[.val (.ref o), .val (.int x), .unset, .unset] []) := fun t k => castTop hF0 k
  have K1 : Rch p e below s₁ F0 s₁ (mkF m 1 #[sR o, sI x, sU, sU] [(kR o)]) := fun t k => K0 t (XS.aloadN X0.here hx rfl (hb hby d_add_0) rfl rfl k)
  obtain ⟨T2, X2, e2, st2⟩ := getF X0 hx hZ hown (host := "") (Or.inl (hw _ (mi 19 rfl))) Via.refl e0 (W0.fld (i := 0) rfl (j := 1) rfl rfl) (g := K1.g) rfl rfl (hb hby d_add_1)
  have K3 : Rch p e below s₁ F0 T2 (mkF m 20 #[sR o, sI x, sU, sU] [(kR o)]) := fun t k => K1 t (st2 t (by
    refine X2.ldcInt hx hown (mvT hZ (hw _ (mi 21 rfl))) (g := (mkF m 4 #[sR o, sI x, sU, sU] [(kI 0)])) rfl (hb hby d_add_4) _ ?_
    refine XS.icmpYes X2.here hx rfl (pc0 := 6) (pc' := 19) rfl (hb hby d_add_6) rfl (by decide) (by decide) (by decide) ?_
    refine XS.aloadN X2.here hx rfl (hb hby d_add_19) rfl rfl ?_
    exact k))
  obtain ⟨T4, X4, e4, st4⟩ := getF X2 hx hZ hown (host := "") (Or.inl (hw _ (mi 19 rfl))) Via.refl e2 (W0.fld (i := 0) rfl (j := 1) rfl rfl) (g := K3.g) rfl rfl (hb hby d_add_20)
  have K5 : Rch p e below s₁ F0 T4 (mkF m 28 #[sR o, sI x, sI 0, sU] [(kR o)]) := fun t k => K3 t (st4 t (by
    refine XS.bipush X4.here hx rfl (hb hby d_add_23) ?_
    refine XS.iushr X4.here hx rfl (hb hby d_add_25) rfl ?_
    refine XS.istoreN X4.here hx rfl (hb hby d_add_26) rfl (l' := #[sR o, sI x, sI 0, sU]) rfl ?_
    refine XS.aloadN X4.here hx rfl (hb hby d_add_27) rfl rfl ?_
    exact k))
  obtain ⟨T6, X6, e6, st6⟩ := getF X4 hx hZ hown (host := "") (Or.inl (hw _ (mi 19 rfl))) Via.refl e4 (W0.fld (i := 0) rfl (j := 1) rfl rfl) (g := K5.g) rfl rfl (hb hby d_add_28)
  have K7 : Rch p e below s₁ F0 T6 (mkF m 37 #[sR o, sI x, sI 0, sI 0] [(kR o), (kI 0)]) := fun t k => K5 t (st6 t (by
    refine X6.ldcInt hx hown (mvT hZ (hw _ (mi 22 rfl))) (g := (mkF m 31 #[sR o, sI x, sI 0, sU] [(kI 0)])) rfl (hb hby d_add_31) _ ?_
    refine XS.iand X6.here hx rfl (hb hby d_add_33) rfl ?_
    refine XS.istoreN X6.here hx rfl (hb hby d_add_34) rfl (l' := #[sR o, sI x, sI 0, sI 0]) rfl ?_
    refine XS.iloadN X6.here hx rfl (hb hby d_add_35) rfl ?_
    refine XS.aloadN X6.here hx rfl (hb hby d_add_36) rfl rfl ?_
    exact k))
  obtain ⟨T8, X8, e8, st8⟩ := getF X6 hx hZ hown (host := "") (Or.inl (hw _ (mi 12 rfl))) Via.refl e6 (W0.fld (i := 0) rfl (j := 0) rfl rfl) (g := K7.g) rfl rfl (hb hby d_add_37)
  have K9 : Rch p e below s₁ F0 T8 (mkF m 66 #[sR o, sI x, sI 0, sI 0] [(kR o)]) := fun t k => K7 t (st8 t (by
    refine lenW X8 hx hZ e8 W0 (i := 1) rfl (fun _ q => q.1) (z := (8 : Int32)) (by decide) (g := (mkF m 40 #[sR o, sI x, sI 0, sI 0] [(kR pa), (kI 0)])) rfl rfl (hb hby d_add_40) _ ?_
    refine XS.icmpYes X8.here hx rfl (pc0 := 41) (pc' := 65) rfl (hb hby d_add_41) rfl (by decide) (by decide) (by decide) ?_
    refine XS.aloadN X8.here hx rfl (hb hby d_add_65) rfl rfl ?_
    exact k))
  obtain ⟨T10, X10, e10, st10⟩ := getF X8 hx hZ hown (host := "") (Or.inl (hw _ (mi 12 rfl))) Via.refl e8 (W0.fld (i := 0) rfl (j := 0) rfl rfl) (g := K9.g) rfl rfl (hb hby d_add_66)
  have K11 : Rch p e below s₁ F0 T10 (mkF m 75 #[sR o, sI x, sI 0, sI 0] [(kR o)]) := fun t k => K9 t (st10 t (by
    refine XS.iloadN X10.here hx rfl (hb hby d_add_69) rfl ?_
    refine aalW X10 hx hZ e10 W0 (i := 1) rfl (fun _ q => q.1) rfl (j := (0 : Int32)) (k := 0) (by decide) (by decide) (by decide) (v := .null) hf (g := (mkF m 70 #[sR o, sI x, sI 0, sI 0] [(kI 0), (kR pa)])) rfl rfl (hb hby d_add_70) _ ?_
    refine XS.ifnonnullNo X10.here hx rfl (hb hby d_add_71) rfl ?_
    refine XS.aloadN X10.here hx rfl (hb hby d_add_74) rfl rfl ?_
    exact k))
  obtain ⟨T12, X12, e12, st12⟩ := getF X10 hx hZ hown (host := "") (Or.inl (hw _ (mi 12 rfl))) Via.refl e10 (W0.fld (i := 0) rfl (j := 0) rfl rfl) (g := K11.g) rfl rfl (hb hby d_add_75)
  have K13 : Rch p e below s₁ F0 T12 (mkF m 91 #[sR o, sI x, sI 0, sI 0] [(kI 256), (kI 0), (kR pa)]) := fun t k => K11 t (st12 t (by
    refine XS.iloadN X12.here hx rfl (hb hby d_add_78) rfl ?_
    refine XS.iloadN X12.here hx rfl (hb hby d_add_79) rfl ?_
    refine XS.ifNo X12.here hx rfl (hb hby d_add_80) rfl (by decide) ?_
    refine XS.sipush X12.here hx rfl (hb hby d_add_83) ?_
    refine XS.goto X12.here hx rfl (pc0 := 86) (pc' := 91) rfl (hb hby d_add_86) (by decide) (by decide) ?_
    exact k))
  obtain ⟨T14, h14, a14, X14, e14, W14q, st14⟩ := newWA X12 hx hZ (aty := .byte) (ty := .byte) rfl (hw _ (mi 23 rfl)) e12 W0 (g := K13.g) rfl (hb hby d_add_91) (z := (256 : Int32)) (n := 256) rfl (by decide) (by decide) (cap := 256) (by decide) (by decide) (by decide : 0 + 1 ≤ _) (by decide : 0 + 256 ≤ _)
  have W14 : Wo n0 h14 ((a14, Ar Z .byte 256 zI) :: (o, oPB Z [(kR pa), (kI 0)]) :: (pa, Pg Z .byte 8 f) :: Rr) := W14q
  obtain ⟨T15, h15, L15, X15, e15, N15, W15q, st15⟩ := aasW X14 hx hZ e14 W14 N0 (i := 2) (a := pa) rfl (j := (0 : Int32)) (k := 0) (by decide) (by decide) (by decide) (v := (.ref a14)) rfl (W14.sto (i := 2) (j := 0) rfl rfl) (g := (mkF m 93 #[sR o, sI x, sI 0, sI 0] [(kR a14), (kI 0), (kR pa)])) rfl rfl (hb hby d_add_93)
  have W15 : Wo n0 h15 ((a14, Ar Z .byte 256 zI) :: (o, oPB Z [(kR pa), (kI 0)]) :: (pa, Pg Z .byte 8 (upd f 0 (kR a14))) :: Rr) := W15q
  have K16 : Rch p e below s₁ F0 T15 (mkF m 127 #[sR o, sI x, sI 0, sI 0] [(kR o)]) := fun t k => K13 t (st14 t (st15 t (by
    refine XS.goto X15.here hx rfl (pc0 := 94) (pc' := 126) rfl (hb hby d_add_94) (by decide) (by decide) ?_
    refine XS.aloadN X15.here hx rfl (hb hby d_add_126) rfl rfl ?_
    exact k)))
  obtain ⟨T17, X17, e17, st17⟩ := getF X15 hx hZ hown (host := "") (Or.inl (hw _ (mi 12 rfl))) Via.refl e15 (W15.fld (i := 1) rfl (j := 0) rfl rfl) (g := K16.g) rfl rfl (hb hby d_add_127)
  have K18 : Rch p e below s₁ F0 T17 (mkF m 134 #[sR o, sI x, sI 0, sI 0] [(kI x), (kI 0), (kR a14)]) := fun t k => K16 t (st17 t (by
    refine XS.iloadN X17.here hx rfl (hb hby d_add_130) rfl ?_
    refine aalW X17 hx hZ e17 W15 (i := 2) rfl (fun _ q => q.1) rfl (j := (0 : Int32)) (k := 0) (by decide) (by decide) (by decide) (v := (.ref a14)) rfl (g := (mkF m 131 #[sR o, sI x, sI 0, sI 0] [(kI 0), (kR pa)])) rfl rfl (hb hby d_add_131) _ ?_
    refine XS.iloadN X17.here hx rfl (hb hby d_add_132) rfl ?_
    refine XS.iloadN X17.here hx rfl (hb hby d_add_133) rfl ?_
    exact k))
  obtain ⟨T19, h19, L19, X19, e19, N19, W19q, st19⟩ := basW X17 hx hZ e17 W15 N15 (i := 0) (a := a14) rfl (j := (0 : Int32)) (x := x) (k := 0) (by decide) (by decide) (by decide) (g := K18.g) rfl rfl (hb hby d_add_134)
  have W19 : Wo n0 h19 ((a14, Ar Z .byte 256 (upd zI 0 (kI (x).toInt8.toInt32))) :: (o, oPB Z [(kR pa), (kI 0)]) :: (pa, Pg Z .byte 8 (upd f 0 (kR a14))) :: Rr) := W19q
  have K20 : Rch p e below s₁ F0 T19 (mkF m 137 #[sR o, sI x, sI 0, sI 0] [(kR o), (kR o)]) := fun t k => K18 t (st19 t (by
    refine XS.aloadN X19.here hx rfl (hb hby d_add_135) rfl rfl ?_
    refine XS.dup X19.here hx rfl (hb hby d_add_136) rfl rfl ?_
    exact k))
  obtain ⟨T21, X21, e21, st21⟩ := getF X19 hx hZ hown (host := "") (Or.inl (hw _ (mi 19 rfl))) Via.refl e19 (W19.fld (i := 1) rfl (j := 1) rfl rfl) (g := K20.g) rfl rfl (hb hby d_add_137)
  have K22 : Rch p e below s₁ F0 T21 (mkF m 142 #[sR o, sI x, sI 0, sI 0] [(kI 1), (kR o)]) := fun t k => K20 t (st21 t (by
    refine XS.iconst X21.here hx rfl (hb hby d_add_140) ?_
    refine XS.iadd X21.here hx rfl (hb hby d_add_141) rfl ?_
    exact k))
  obtain ⟨T23, h23, L23, X23, e23, N23, W23q, st23⟩ := putW X21 hx hZ hown (host := "") (Or.inl (hw _ (mi 19 rfl))) e21 W19 N19 (own_dPB hw) (Or.inl (hw _ (mi 20 rfl))) (hw _ (mi 2 rfl)) (ty := .int) (by decide +kernel) (i := 1) (a := o) rfl (j := 1) rfl rfl (v := (.int (1 : Int32))) rfl rfl (g := K22.g) rfl rfl (hb hby d_add_142)
  have W23 : Wo n0 h23 ((a14, Ar Z .byte 256 (upd zI 0 (kI (x).toInt8.toInt32))) :: (o, oPB Z [(kR pa), (kI 1)]) :: (pa, Pg Z .byte 8 (upd f 0 (kR a14))) :: Rr) := W23q
  have K24 : Rch p e below s₁ F0 T23 (mkF m 145 #[sR o, sI x, sI 0, sI 0] []) := fun t k => K22 t (st23 t (k))
  obtain ⟨fs, hr, hrun, hended, hWm, hsame⟩ := X23.leave (v := none) (fun _ => rfl)
  refine ⟨_, _, pre0 _ (K24 _ (X23.returnOut hx Bd.returns (hb hby d_add_145) hr)), hrun, hended, _, _, rfl, ?_, ⟨_, rfl⟩, hWm, hsame.mono (by decide) (by decide)⟩
  show QrmA Z o pa x f Rr n0 _ T23.heap _
  rw [e23]
  exact ⟨rfl, N23, a14, W23⟩
theorem d_add_97 : decode prog_13_method_6_code 97 = .ok (.iload_n 3, 1) := by decide +kernel
theorem d_add_98 : decode prog_13_method_6_code 98 = .ok (.aload_n 0, 1) := by decide +kernel
theorem d_add_99 : decode prog_13_method_6_code 99 = .ok (.getfield 11, 3) := by decide +kernel
theorem d_add_102 : decode prog_13_method_6_code 102 = .ok (.iload_n 2, 1) := by decide +kernel
theorem d_add_103 : decode prog_13_method_6_code 103 = .ok (.aaload, 1) := by decide +kernel
theorem d_add_104 : decode prog_13_method_6_code 104 = .ok (.arraylength, 1) := by decide +kernel
theorem d_add_105 : decode prog_13_method_6_code 105 = .ok (.if_icmp .ne 21, 3) := by decide +kernel
theorem ef_rmA1 (m : MethodId) (o pa b : Addr) (x : Int32) (f fb : Nat → Value) : entryFrame m #[(.ref o), (.int x)] 4 = mkF m 0 #[.val (.ref o), .val (.int x), .unset, .unset] [] := by first | (simp [entryFrame, mkF, argsToLocals, Value.category]; done) | rfl
def QrmA1 (Z : State) (o pa b : Addr) (x : Int32) (f fb : Nat → Value) (Rr : List (Addr × (Cell → Prop))) (n0 : Nat) (v : Option Value) (h : Heap) (L : List Loc) : Prop := v = none ∧ Fr n0 L ∧ Wo n0 h ((o, Ob Z "com/example/attribute_checker/attributechecker/checker/PagedBytes" nsPB [.ref pa, .int 2]) :: (pa, Pg Z .byte 8 f) :: (b, Ar Z .byte 256 (upd fb 1 (.int x.toInt8.toInt32))) :: Rr)
set_option maxRecDepth 65536 in
set_option maxHeartbeats 40000000 in
theorem rmA1 (l : Launch) (Z : State) (a0 : Array Value) (hw : ∀ d ∈ tables_1, d.before a0 Z = true) (ws : List Jvm.Cond) (o pa b : Addr) (x : Int32) (f fb : Nat → Value) (Rr : List (Addr × (Cell → Prop))) (h0 : Heap) (n0 : Nat) (W0 : Wo n0 h0 ((o, oPB Z [(kR pa), (kI 1)]) :: (pa, Pg Z .byte 8 f) :: (b, Ar Z .byte 256 fb) :: Rr)) (hf : f 0 = .ref b) :
    MetFree l (⟨"com/example/attribute_checker/attributechecker/checker/PagedBytes", "add", "(B)V"⟩ : MethodName) (head1 (Jvm.Cond.code (⟨"com/example/attribute_checker/attributechecker/checker/PagedBytes", "add", "(B)V"⟩ : MethodName) prog_13_method_6_code 4 none :: ws) ({ frames := 0, cells := 0, slots := 0, locals := 0 } : Room)) (fun a U => a = #[(.ref o), (.int x)] ∧ Z.Warmed39 U.vm ∧ U.heap = h0) (fun _ _ _ _ _ => True) (fun _ U ou U' => ∃ v L, ou = .returned v ∧ QrmA1 Z o pa b x f fb Rr n0 v U'.heap L ∧ FrameEnd U ou U' L ({ frames := 0, cells := 0, slots := 0, locals := 0 } : Room).cells ({ frames := 0, cells := 0, slots := 0, locals := 0 } : Room).slots) := by
  refine MetFree.of_bodySF (plainFor_of_name pn_PagedBytes) hisR ?_
  intro p e s m args below meth c s₁ Bd hml0 hP hK
  obtain ⟨rfl, hZ, hh⟩ := hP
  have hx := Bd.exec
  have hby := Bd.bytes
  have hml : c.maxLocals = 4 := hml0
  have hown : s.vm.findClass "com/example/attribute_checker/attributechecker/checker/PagedBytes" = some m.cls := findClass_of_methodNamed Bd.named
  have hnm := (name_of_methodNamed Bd.named Bd.method).1
  have X0 : Stand p l e ({ frames := 0, cells := 0, slots := 0, locals := 0 } : Room) s m #[(.ref o), (.int x)] below meth c s₁ [] 0 0 := Stand.of_body Bd
  have e0 : s₁.heap = h0 := by rw [← hh, Bd.state]; rfl
  have N0 := Fr.nil n0
  obtain ⟨F0, hF0⟩ : ∃ F, F = mkF m 0 #[.val (.ref o), .val (.int x), .unset, .unset] [] := ⟨_, rfl⟩
  have pre0 : ∀ t, Steps p.tables e below (s₁.setTop F0) t → Steps p.tables e below (s₁.setTop (entryFrame m #[(.ref o), (.int x)] 4)) t := fun t k => castTop ((ef_rmA1 m o pa b x f fb).trans hF0.symm) k
  have K0 : Rch p e below s₁ F0 s₁ (mkF m 0 #[.val (.ref o), .val (.int x), .unset, .unset] []) := fun t k => castTop hF0 k
  have K1 : Rch p e below s₁ F0 s₁ (mkF m 1 #[sR o, sI x, sU, sU] [(kR o)]) := fun t k => K0 t (XS.aloadN X0.here hx rfl (hb hby d_add_0) rfl rfl k)
  obtain ⟨T2, X2, e2, st2⟩ := getF X0 hx hZ hown (host := "") (Or.inl (hw _ (mi 19 rfl))) Via.refl e0 (W0.fld (i := 0) rfl (j := 1) rfl rfl) (g := K1.g) rfl rfl (hb hby d_add_1)
  have K3 : Rch p e below s₁ F0 T2 (mkF m 20 #[sR o, sI x, sU, sU] [(kR o)]) := fun t k => K1 t (st2 t (by
    refine X2.ldcInt hx hown (mvT hZ (hw _ (mi 21 rfl))) (g := (mkF m 4 #[sR o, sI x, sU, sU] [(kI 1)])) rfl (hb hby d_add_4) _ ?_
    refine XS.icmpYes X2.here hx rfl (pc0 := 6) (pc' := 19) rfl (hb hby d_add_6) rfl (by decide) (by decide) (by decide) ?_
    refine XS.aloadN X2.here hx rfl (hb hby d_add_19) rfl rfl ?_
    exact k))
  obtain ⟨T4, X4, e4, st4⟩ := getF X2 hx hZ hown (host := "") (Or.inl (hw _ (mi 19 rfl))) Via.refl e2 (W0.fld (i := 0) rfl (j := 1) rfl rfl) (g := K3.g) rfl rfl (hb hby d_add_20)
  have K5 : Rch p e below s₁ F0 T4 (mkF m 28 #[sR o, sI x, sI 0, sU] [(kR o)]) := fun t k => K3 t (st4 t (by
    refine XS.bipush X4.here hx rfl (hb hby d_add_23) ?_
    refine XS.iushr X4.here hx rfl (hb hby d_add_25) rfl ?_
    refine XS.istoreN X4.here hx rfl (hb hby d_add_26) rfl (l' := #[sR o, sI x, sI 0, sU]) rfl ?_
    refine XS.aloadN X4.here hx rfl (hb hby d_add_27) rfl rfl ?_
    exact k))
  obtain ⟨T6, X6, e6, st6⟩ := getF X4 hx hZ hown (host := "") (Or.inl (hw _ (mi 19 rfl))) Via.refl e4 (W0.fld (i := 0) rfl (j := 1) rfl rfl) (g := K5.g) rfl rfl (hb hby d_add_28)
  have K7 : Rch p e below s₁ F0 T6 (mkF m 37 #[sR o, sI x, sI 0, sI 1] [(kR o), (kI 0)]) := fun t k => K5 t (st6 t (by
    refine X6.ldcInt hx hown (mvT hZ (hw _ (mi 22 rfl))) (g := (mkF m 31 #[sR o, sI x, sI 0, sU] [(kI 1)])) rfl (hb hby d_add_31) _ ?_
    refine XS.iand X6.here hx rfl (hb hby d_add_33) rfl ?_
    refine XS.istoreN X6.here hx rfl (hb hby d_add_34) rfl (l' := #[sR o, sI x, sI 0, sI 1]) rfl ?_
    refine XS.iloadN X6.here hx rfl (hb hby d_add_35) rfl ?_
    refine XS.aloadN X6.here hx rfl (hb hby d_add_36) rfl rfl ?_
    exact k))
  obtain ⟨T8, X8, e8, st8⟩ := getF X6 hx hZ hown (host := "") (Or.inl (hw _ (mi 12 rfl))) Via.refl e6 (W0.fld (i := 0) rfl (j := 0) rfl rfl) (g := K7.g) rfl rfl (hb hby d_add_37)
  have K9 : Rch p e below s₁ F0 T8 (mkF m 66 #[sR o, sI x, sI 0, sI 1] [(kR o)]) := fun t k => K7 t (st8 t (by
    refine lenW X8 hx hZ e8 W0 (i := 1) rfl (fun _ q => q.1) (z := (8 : Int32)) (by decide) (g := (mkF m 40 #[sR o, sI x, sI 0, sI 1] [(kR pa), (kI 0)])) rfl rfl (hb hby d_add_40) _ ?_
    refine XS.icmpYes X8.here hx rfl (pc0 := 41) (pc' := 65) rfl (hb hby d_add_41) rfl (by decide) (by decide) (by decide) ?_
    refine XS.aloadN X8.here hx rfl (hb hby d_add_65) rfl rfl ?_
    exact k))
  obtain ⟨T10, X10, e10, st10⟩ := getF X8 hx hZ hown (host := "") (Or.inl (hw _ (mi 12 rfl))) Via.refl e8 (W0.fld (i := 0) rfl (j := 0) rfl rfl) (g := K9.g) rfl rfl (hb hby d_add_66)
  have K11 : Rch p e below s₁ F0 T10 (mkF m 99 #[sR o, sI x, sI 0, sI 1] [(kR o), (kI 1)]) := fun t k => K9 t (st10 t (by
    refine XS.iloadN X10.here hx rfl (hb hby d_add_69) rfl ?_
    refine aalW X10 hx hZ e10 W0 (i := 1) rfl (fun _ q => q.1) rfl (j := (0 : Int32)) (k := 0) (by decide) (by decide) (by decide) (v := (.ref b)) hf (g := (mkF m 70 #[sR o, sI x, sI 0, sI 1] [(kI 0), (kR pa)])) rfl rfl (hb hby d_add_70) _ ?_
    refine XS.ifnonnullYes X10.here hx rfl (pc0 := 71) (pc' := 97) rfl (hb hby d_add_71) rfl (by decide) (by decide) ?_
    refine XS.iloadN X10.here hx rfl (hb hby d_add_97) rfl ?_
    refine XS.aloadN X10.here hx rfl (hb hby d_add_98) rfl rfl ?_
    exact k))
  obtain ⟨T12, X12, e12, st12⟩ := getF X10 hx hZ hown (host := "") (Or.inl (hw _ (mi 12 rfl))) Via.refl e10 (W0.fld (i := 0) rfl (j := 0) rfl rfl) (g := K11.g) rfl rfl (hb hby d_add_99)
  have K13 : Rch p e below s₁ F0 T12 (mkF m 127 #[sR o, sI x, sI 0, sI 1] [(kR o)]) := fun t k => K11 t (st12 t (by
    refine XS.iloadN X12.here hx rfl (hb hby d_add_102) rfl ?_
    refine aalW X12 hx hZ e12 W0 (i := 1) rfl (fun _ q => q.1) rfl (j := (0 : Int32)) (k := 0) (by decide) (by decide) (by decide) (v := (.ref b)) hf (g := (mkF m 103 #[sR o, sI x, sI 0, sI 1] [(kI 0), (kR pa), (kI 1)])) rfl rfl (hb hby d_add_103) _ ?_
    refine lenW X12 hx hZ e12 W0 (i := 2) rfl (fun _ q => q) (z := (256 : Int32)) (by decide) (g := (mkF m 104 #[sR o, sI x, sI 0, sI 1] [(kR b), (kI 1)])) rfl rfl (hb hby d_add_104) _ ?_
    refine XS.icmpYes X12.here hx rfl (pc0 := 105) (pc' := 126) rfl (hb hby d_add_105) rfl (by decide) (by decide) (by decide) ?_
    refine XS.aloadN X12.here hx rfl (hb hby d_add_126) rfl rfl ?_
    exact k))
  obtain ⟨T14, X14, e14, st14⟩ := getF X12 hx hZ hown (host := "") (Or.inl (hw _ (mi 12 rfl))) Via.refl e12 (W0.fld (i := 0) rfl (j := 0) rfl rfl) (g := K13.g) rfl rfl (hb hby d_add_127)
  have K15 : Rch p e below s₁ F0 T14 (mkF m 134 #[sR o, sI x, sI 0, sI 1] [(kI x), (kI 1), (kR b)]) := fun t k => K13 t (st14 t (by
    refine XS.iloadN X14.here hx rfl (hb hby d_add_130) rfl ?_
    refine aalW X14 hx hZ e14 W0 (i := 1) rfl (fun _ q => q.1) rfl (j := (0 : Int32)) (k := 0) (by decide) (by decide) (by decide) (v := (.ref b)) hf (g := (mkF m 131 #[sR o, sI x, sI 0, sI 1] [(kI 0), (kR pa)])) rfl rfl (hb hby d_add_131) _ ?_
    refine XS.iloadN X14.here hx rfl (hb hby d_add_132) rfl ?_
    refine XS.iloadN X14.here hx rfl (hb hby d_add_133) rfl ?_
    exact k))
  obtain ⟨T16, h16, L16, X16, e16, N16, W16q, st16⟩ := basW X14 hx hZ e14 W0 N0 (i := 2) (a := b) rfl (j := (1 : Int32)) (x := x) (k := 1) (by decide) (by decide) (by decide) (g := K15.g) rfl rfl (hb hby d_add_134)
  have W16 : Wo n0 h16 ((o, oPB Z [(kR pa), (kI 1)]) :: (pa, Pg Z .byte 8 f) :: (b, Ar Z .byte 256 (upd fb 1 (kI (x).toInt8.toInt32))) :: Rr) := W16q
  have K17 : Rch p e below s₁ F0 T16 (mkF m 137 #[sR o, sI x, sI 0, sI 1] [(kR o), (kR o)]) := fun t k => K15 t (st16 t (by
    refine XS.aloadN X16.here hx rfl (hb hby d_add_135) rfl rfl ?_
    refine XS.dup X16.here hx rfl (hb hby d_add_136) rfl rfl ?_
    exact k))
  obtain ⟨T18, X18, e18, st18⟩ := getF X16 hx hZ hown (host := "") (Or.inl (hw _ (mi 19 rfl))) Via.refl e16 (W16.fld (i := 0) rfl (j := 1) rfl rfl) (g := K17.g) rfl rfl (hb hby d_add_137)
  have K19 : Rch p e below s₁ F0 T18 (mkF m 142 #[sR o, sI x, sI 0, sI 1] [(kI 2), (kR o)]) := fun t k => K17 t (st18 t (by
    refine XS.iconst X18.here hx rfl (hb hby d_add_140) ?_
    refine XS.iadd X18.here hx rfl (hb hby d_add_141) rfl ?_
    exact k))
  obtain ⟨T20, h20, L20, X20, e20, N20, W20q, st20⟩ := putW X18 hx hZ hown (host := "") (Or.inl (hw _ (mi 19 rfl))) e18 W16 N16 (own_dPB hw) (Or.inl (hw _ (mi 20 rfl))) (hw _ (mi 2 rfl)) (ty := .int) (by decide +kernel) (i := 0) (a := o) rfl (j := 1) rfl rfl (v := (.int (2 : Int32))) rfl rfl (g := K19.g) rfl rfl (hb hby d_add_142)
  have W20 : Wo n0 h20 ((o, oPB Z [(kR pa), (kI 2)]) :: (pa, Pg Z .byte 8 f) :: (b, Ar Z .byte 256 (upd fb 1 (kI (x).toInt8.toInt32))) :: Rr) := W20q
  have K21 : Rch p e below s₁ F0 T20 (mkF m 145 #[sR o, sI x, sI 0, sI 1] []) := fun t k => K19 t (st20 t (k))
  obtain ⟨fs, hr, hrun, hended, hWm, hsame⟩ := X20.leave (v := none) (fun _ => rfl)
  refine ⟨_, _, pre0 _ (K21 _ (X20.returnOut hx Bd.returns (hb hby d_add_145) hr)), hrun, hended, _, _, rfl, ?_, ⟨_, rfl⟩, hWm, hsame.mono (by decide) (by decide)⟩
  show QrmA1 Z o pa b x f fb Rr n0 _ T20.heap _
  rw [e20]
  exact ⟨rfl, N20, W20⟩
theorem ef_rmA2 (m : MethodId) (o pa b : Addr) (x : Int32) (f fb : Nat → Value) : entryFrame m #[(.ref o), (.int x)] 4 = mkF m 0 #[.val (.ref o), .val (.int x), .unset, .unset] [] := by first | (simp [entryFrame, mkF, argsToLocals, Value.category]; done) | rfl
def QrmA2 (Z : State) (o pa b : Addr) (x : Int32) (f fb : Nat → Value) (Rr : List (Addr × (Cell → Prop))) (n0 : Nat) (v : Option Value) (h : Heap) (L : List Loc) : Prop := v = none ∧ Fr n0 L ∧ Wo n0 h ((o, Ob Z "com/example/attribute_checker/attributechecker/checker/PagedBytes" nsPB [.ref pa, .int 3]) :: (pa, Pg Z .byte 8 f) :: (b, Ar Z .byte 256 (upd fb 2 (.int x.toInt8.toInt32))) :: Rr)
set_option maxRecDepth 65536 in
set_option maxHeartbeats 40000000 in
theorem rmA2 (l : Launch) (Z : State) (a0 : Array Value) (hw : ∀ d ∈ tables_1, d.before a0 Z = true) (ws : List Jvm.Cond) (o pa b : Addr) (x : Int32) (f fb : Nat → Value) (Rr : List (Addr × (Cell → Prop))) (h0 : Heap) (n0 : Nat) (W0 : Wo n0 h0 ((o, oPB Z [(kR pa), (kI 2)]) :: (pa, Pg Z .byte 8 f) :: (b, Ar Z .byte 256 fb) :: Rr)) (hf : f 0 = .ref b) :
    MetFree l (⟨"com/example/attribute_checker/attributechecker/checker/PagedBytes", "add", "(B)V"⟩ : MethodName) (head1 (Jvm.Cond.code (⟨"com/example/attribute_checker/attributechecker/checker/PagedBytes", "add", "(B)V"⟩ : MethodName) prog_13_method_6_code 4 none :: ws) ({ frames := 0, cells := 0, slots := 0, locals := 0 } : Room)) (fun a U => a = #[(.ref o), (.int x)] ∧ Z.Warmed39 U.vm ∧ U.heap = h0) (fun _ _ _ _ _ => True) (fun _ U ou U' => ∃ v L, ou = .returned v ∧ QrmA2 Z o pa b x f fb Rr n0 v U'.heap L ∧ FrameEnd U ou U' L ({ frames := 0, cells := 0, slots := 0, locals := 0 } : Room).cells ({ frames := 0, cells := 0, slots := 0, locals := 0 } : Room).slots) := by
  refine MetFree.of_bodySF (plainFor_of_name pn_PagedBytes) hisR ?_
  intro p e s m args below meth c s₁ Bd hml0 hP hK
  obtain ⟨rfl, hZ, hh⟩ := hP
  have hx := Bd.exec
  have hby := Bd.bytes
  have hml : c.maxLocals = 4 := hml0
  have hown : s.vm.findClass "com/example/attribute_checker/attributechecker/checker/PagedBytes" = some m.cls := findClass_of_methodNamed Bd.named
  have hnm := (name_of_methodNamed Bd.named Bd.method).1
  have X0 : Stand p l e ({ frames := 0, cells := 0, slots := 0, locals := 0 } : Room) s m #[(.ref o), (.int x)] below meth c s₁ [] 0 0 := Stand.of_body Bd
  have e0 : s₁.heap = h0 := by rw [← hh, Bd.state]; rfl
  have N0 := Fr.nil n0
  obtain ⟨F0, hF0⟩ : ∃ F, F = mkF m 0 #[.val (.ref o), .val (.int x), .unset, .unset] [] := ⟨_, rfl⟩
  have pre0 : ∀ t, Steps p.tables e below (s₁.setTop F0) t → Steps p.tables e below (s₁.setTop (entryFrame m #[(.ref o), (.int x)] 4)) t := fun t k => castTop ((ef_rmA2 m o pa b x f fb).trans hF0.symm) k
  have K0 : Rch p e below s₁ F0 s₁ (mkF m 0 #[.val (.ref o), .val (.int x), .unset, .unset] []) := fun t k => castTop hF0 k
  have K1 : Rch p e below s₁ F0 s₁ (mkF m 1 #[sR o, sI x, sU, sU] [(kR o)]) := fun t k => K0 t (XS.aloadN X0.here hx rfl (hb hby d_add_0) rfl rfl k)
  obtain ⟨T2, X2, e2, st2⟩ := getF X0 hx hZ hown (host := "") (Or.inl (hw _ (mi 19 rfl))) Via.refl e0 (W0.fld (i := 0) rfl (j := 1) rfl rfl) (g := K1.g) rfl rfl (hb hby d_add_1)
  have K3 : Rch p e below s₁ F0 T2 (mkF m 20 #[sR o, sI x, sU, sU] [(kR o)]) := fun t k => K1 t (st2 t (by
    refine X2.ldcInt hx hown (mvT hZ (hw _ (mi 21 rfl))) (g := (mkF m 4 #[sR o, sI x, sU, sU] [(kI 2)])) rfl (hb hby d_add_4) _ ?_
    refine XS.icmpYes X2.here hx rfl (pc0 := 6) (pc' := 19) rfl (hb hby d_add_6) rfl (by decide) (by decide) (by decide) ?_
    refine XS.aloadN X2.here hx rfl (hb hby d_add_19) rfl rfl ?_
    exact k))
  obtain ⟨T4, X4, e4, st4⟩ := getF X2 hx hZ hown (host := "") (Or.inl (hw _ (mi 19 rfl))) Via.refl e2 (W0.fld (i := 0) rfl (j := 1) rfl rfl) (g := K3.g) rfl rfl (hb hby d_add_20)
  have K5 : Rch p e below s₁ F0 T4 (mkF m 28 #[sR o, sI x, sI 0, sU] [(kR o)]) := fun t k => K3 t (st4 t (by
    refine XS.bipush X4.here hx rfl (hb hby d_add_23) ?_
    refine XS.iushr X4.here hx rfl (hb hby d_add_25) rfl ?_
    refine XS.istoreN X4.here hx rfl (hb hby d_add_26) rfl (l' := #[sR o, sI x, sI 0, sU]) rfl ?_
    refine XS.aloadN X4.here hx rfl (hb hby d_add_27) rfl rfl ?_
    exact k))
  obtain ⟨T6, X6, e6, st6⟩ := getF X4 hx hZ hown (host := "") (Or.inl (hw _ (mi 19 rfl))) Via.refl e4 (W0.fld (i := 0) rfl (j := 1) rfl rfl) (g := K5.g) rfl rfl (hb hby d_add_28)
  have K7 : Rch p e below s₁ F0 T6 (mkF m 37 #[sR o, sI x, sI 0, sI 2] [(kR o), (kI 0)]) := fun t k => K5 t (st6 t (by
    refine X6.ldcInt hx hown (mvT hZ (hw _ (mi 22 rfl))) (g := (mkF m 31 #[sR o, sI x, sI 0, sU] [(kI 2)])) rfl (hb hby d_add_31) _ ?_
    refine XS.iand X6.here hx rfl (hb hby d_add_33) rfl ?_
    refine XS.istoreN X6.here hx rfl (hb hby d_add_34) rfl (l' := #[sR o, sI x, sI 0, sI 2]) rfl ?_
    refine XS.iloadN X6.here hx rfl (hb hby d_add_35) rfl ?_
    refine XS.aloadN X6.here hx rfl (hb hby d_add_36) rfl rfl ?_
    exact k))
  obtain ⟨T8, X8, e8, st8⟩ := getF X6 hx hZ hown (host := "") (Or.inl (hw _ (mi 12 rfl))) Via.refl e6 (W0.fld (i := 0) rfl (j := 0) rfl rfl) (g := K7.g) rfl rfl (hb hby d_add_37)
  have K9 : Rch p e below s₁ F0 T8 (mkF m 66 #[sR o, sI x, sI 0, sI 2] [(kR o)]) := fun t k => K7 t (st8 t (by
    refine lenW X8 hx hZ e8 W0 (i := 1) rfl (fun _ q => q.1) (z := (8 : Int32)) (by decide) (g := (mkF m 40 #[sR o, sI x, sI 0, sI 2] [(kR pa), (kI 0)])) rfl rfl (hb hby d_add_40) _ ?_
    refine XS.icmpYes X8.here hx rfl (pc0 := 41) (pc' := 65) rfl (hb hby d_add_41) rfl (by decide) (by decide) (by decide) ?_
    refine XS.aloadN X8.here hx rfl (hb hby d_add_65) rfl rfl ?_
    exact k))
  obtain ⟨T10, X10, e10, st10⟩ := getF X8 hx hZ hown (host := "") (Or.inl (hw _ (mi 12 rfl))) Via.refl e8 (W0.fld (i := 0) rfl (j := 0) rfl rfl) (g := K9.g) rfl rfl (hb hby d_add_66)
  have K11 : Rch p e below s₁ F0 T10 (mkF m 99 #[sR o, sI x, sI 0, sI 2] [(kR o), (kI 2)]) := fun t k => K9 t (st10 t (by
    refine XS.iloadN X10.here hx rfl (hb hby d_add_69) rfl ?_
    refine aalW X10 hx hZ e10 W0 (i := 1) rfl (fun _ q => q.1) rfl (j := (0 : Int32)) (k := 0) (by decide) (by decide) (by decide) (v := (.ref b)) hf (g := (mkF m 70 #[sR o, sI x, sI 0, sI 2] [(kI 0), (kR pa)])) rfl rfl (hb hby d_add_70) _ ?_
    refine XS.ifnonnullYes X10.here hx rfl (pc0 := 71) (pc' := 97) rfl (hb hby d_add_71) rfl (by decide) (by decide) ?_
    refine XS.iloadN X10.here hx rfl (hb hby d_add_97) rfl ?_
    refine XS.aloadN X10.here hx rfl (hb hby d_add_98) rfl rfl ?_
    exact k))
  obtain ⟨T12, X12, e12, st12⟩ := getF X10 hx hZ hown (host := "") (Or.inl (hw _ (mi 12 rfl))) Via.refl e10 (W0.fld (i := 0) rfl (j := 0) rfl rfl) (g := K11.g) rfl rfl (hb hby d_add_99)
  have K13 : Rch p e below s₁ F0 T12 (mkF m 127 #[sR o, sI x, sI 0, sI 2] [(kR o)]) := fun t k => K11 t (st12 t (by
    refine XS.iloadN X12.here hx rfl (hb hby d_add_102) rfl ?_
    refine aalW X12 hx hZ e12 W0 (i := 1) rfl (fun _ q => q.1) rfl (j := (0 : Int32)) (k := 0) (by decide) (by decide) (by decide) (v := (.ref b)) hf (g := (mkF m 103 #[sR o, sI x, sI 0, sI 2] [(kI 0), (kR pa), (kI 2)])) rfl rfl (hb hby d_add_103) _ ?_
    refine lenW X12 hx hZ e12 W0 (i := 2) rfl (fun _ q => q) (z := (256 : Int32)) (by decide) (g := (mkF m 104 #[sR o, sI x, sI 0, sI 2] [(kR b), (kI 2)])) rfl rfl (hb hby d_add_104) _ ?_
    refine XS.icmpYes X12.here hx rfl (pc0 := 105) (pc' := 126) rfl (hb hby d_add_105) rfl (by decide) (by decide) (by decide) ?_
    refine XS.aloadN X12.here hx rfl (hb hby d_add_126) rfl rfl ?_
    exact k))
  obtain ⟨T14, X14, e14, st14⟩ := getF X12 hx hZ hown (host := "") (Or.inl (hw _ (mi 12 rfl))) Via.refl e12 (W0.fld (i := 0) rfl (j := 0) rfl rfl) (g := K13.g) rfl rfl (hb hby d_add_127)
  have K15 : Rch p e below s₁ F0 T14 (mkF m 134 #[sR o, sI x, sI 0, sI 2] [(kI x), (kI 2), (kR b)]) := fun t k => K13 t (st14 t (by
    refine XS.iloadN X14.here hx rfl (hb hby d_add_130) rfl ?_
    refine aalW X14 hx hZ e14 W0 (i := 1) rfl (fun _ q => q.1) rfl (j := (0 : Int32)) (k := 0) (by decide) (by decide) (by decide) (v := (.ref b)) hf (g := (mkF m 131 #[sR o, sI x, sI 0, sI 2] [(kI 0), (kR pa)])) rfl rfl (hb hby d_add_131) _ ?_
    refine XS.iloadN X14.here hx rfl (hb hby d_add_132) rfl ?_
    refine XS.iloadN X14.here hx rfl (hb hby d_add_133) rfl ?_
    exact k))
  obtain ⟨T16, h16, L16, X16, e16, N16, W16q, st16⟩ := basW X14 hx hZ e14 W0 N0 (i := 2) (a := b) rfl (j := (2 : Int32)) (x := x) (k := 2) (by decide) (by decide) (by decide) (g := K15.g) rfl rfl (hb hby d_add_134)
  have W16 : Wo n0 h16 ((o, oPB Z [(kR pa), (kI 2)]) :: (pa, Pg Z .byte 8 f) :: (b, Ar Z .byte 256 (upd fb 2 (kI (x).toInt8.toInt32))) :: Rr) := W16q
  have K17 : Rch p e below s₁ F0 T16 (mkF m 137 #[sR o, sI x, sI 0, sI 2] [(kR o), (kR o)]) := fun t k => K15 t (st16 t (by
    refine XS.aloadN X16.here hx rfl (hb hby d_add_135) rfl rfl ?_
    refine XS.dup X16.here hx rfl (hb hby d_add_136) rfl rfl ?_
    exact k))
  obtain ⟨T18, X18, e18, st18⟩ := getF X16 hx hZ hown (host := "") (Or.inl (hw _ (mi 19 rfl))) Via.refl e16 (W16.fld (i := 0) rfl (j := 1) rfl rfl) (g := K17.g) rfl rfl (hb hby d_add_137)
  have K19 : Rch p e below s₁ F0 T18 (mkF m 142 #[sR o, sI x, sI 0, sI 2] [(kI 3), (kR o)]) := fun t k => K17 t (st18 t (by
    refine XS.iconst X18.here hx rfl (hb hby d_add_140) ?_
    refine XS.iadd X18.here hx rfl (hb hby d_add_141) rfl ?_
    exact k))
  obtain ⟨T20, h20, L20, X20, e20, N20, W20q, st20⟩ := putW X18 hx hZ hown (host := "") (Or.inl (hw _ (mi 19 rfl))) e18 W16 N16 (own_dPB hw) (Or.inl (hw _ (mi 20 rfl))) (hw _ (mi 2 rfl)) (ty := .int) (by decide +kernel) (i := 0) (a := o) rfl (j := 1) rfl rfl (v := (.int (3 : Int32))) rfl rfl (g := K19.g) rfl rfl (hb hby d_add_142)
  have W20 : Wo n0 h20 ((o, oPB Z [(kR pa), (kI 3)]) :: (pa, Pg Z .byte 8 f) :: (b, Ar Z .byte 256 (upd fb 2 (kI (x).toInt8.toInt32))) :: Rr) := W20q
  have K21 : Rch p e below s₁ F0 T20 (mkF m 145 #[sR o, sI x, sI 0, sI 2] []) := fun t k => K19 t (st20 t (k))
  obtain ⟨fs, hr, hrun, hended, hWm, hsame⟩ := X20.leave (v := none) (fun _ => rfl)
  refine ⟨_, _, pre0 _ (K21 _ (X20.returnOut hx Bd.returns (hb hby d_add_145) hr)), hrun, hended, _, _, rfl, ?_, ⟨_, rfl⟩, hWm, hsame.mono (by decide) (by decide)⟩
  show QrmA2 Z o pa b x f fb Rr n0 _ T20.heap _
  rw [e20]
  exact ⟨rfl, N20, W20⟩
theorem ef_rmA3 (m : MethodId) (o pa b : Addr) (x : Int32) (f fb : Nat → Value) : entryFrame m #[(.ref o), (.int x)] 4 = mkF m 0 #[.val (.ref o), .val (.int x), .unset, .unset] [] := by first | (simp [entryFrame, mkF, argsToLocals, Value.category]; done) | rfl
def QrmA3 (Z : State) (o pa b : Addr) (x : Int32) (f fb : Nat → Value) (Rr : List (Addr × (Cell → Prop))) (n0 : Nat) (v : Option Value) (h : Heap) (L : List Loc) : Prop := v = none ∧ Fr n0 L ∧ Wo n0 h ((o, Ob Z "com/example/attribute_checker/attributechecker/checker/PagedBytes" nsPB [.ref pa, .int 4]) :: (pa, Pg Z .byte 8 f) :: (b, Ar Z .byte 256 (upd fb 3 (.int x.toInt8.toInt32))) :: Rr)
set_option maxRecDepth 65536 in
set_option maxHeartbeats 40000000 in
theorem rmA3 (l : Launch) (Z : State) (a0 : Array Value) (hw : ∀ d ∈ tables_1, d.before a0 Z = true) (ws : List Jvm.Cond) (o pa b : Addr) (x : Int32) (f fb : Nat → Value) (Rr : List (Addr × (Cell → Prop))) (h0 : Heap) (n0 : Nat) (W0 : Wo n0 h0 ((o, oPB Z [(kR pa), (kI 3)]) :: (pa, Pg Z .byte 8 f) :: (b, Ar Z .byte 256 fb) :: Rr)) (hf : f 0 = .ref b) :
    MetFree l (⟨"com/example/attribute_checker/attributechecker/checker/PagedBytes", "add", "(B)V"⟩ : MethodName) (head1 (Jvm.Cond.code (⟨"com/example/attribute_checker/attributechecker/checker/PagedBytes", "add", "(B)V"⟩ : MethodName) prog_13_method_6_code 4 none :: ws) ({ frames := 0, cells := 0, slots := 0, locals := 0 } : Room)) (fun a U => a = #[(.ref o), (.int x)] ∧ Z.Warmed39 U.vm ∧ U.heap = h0) (fun _ _ _ _ _ => True) (fun _ U ou U' => ∃ v L, ou = .returned v ∧ QrmA3 Z o pa b x f fb Rr n0 v U'.heap L ∧ FrameEnd U ou U' L ({ frames := 0, cells := 0, slots := 0, locals := 0 } : Room).cells ({ frames := 0, cells := 0, slots := 0, locals := 0 } : Room).slots) := by
  refine MetFree.of_bodySF (plainFor_of_name pn_PagedBytes) hisR ?_
  intro p e s m args below meth c s₁ Bd hml0 hP hK
  obtain ⟨rfl, hZ, hh⟩ := hP
  have hx := Bd.exec
  have hby := Bd.bytes
  have hml : c.maxLocals = 4 := hml0
  have hown : s.vm.findClass "com/example/attribute_checker/attributechecker/checker/PagedBytes" = some m.cls := findClass_of_methodNamed Bd.named
  have hnm := (name_of_methodNamed Bd.named Bd.method).1
  have X0 : Stand p l e ({ frames := 0, cells := 0, slots := 0, locals := 0 } : Room) s m #[(.ref o), (.int x)] below meth c s₁ [] 0 0 := Stand.of_body Bd
  have e0 : s₁.heap = h0 := by rw [← hh, Bd.state]; rfl
  have N0 := Fr.nil n0
  obtain ⟨F0, hF0⟩ : ∃ F, F = mkF m 0 #[.val (.ref o), .val (.int x), .unset, .unset] [] := ⟨_, rfl⟩
  have pre0 : ∀ t, Steps p.tables e below (s₁.setTop F0) t → Steps p.tables e below (s₁.setTop (entryFrame m #[(.ref o), (.int x)] 4)) t := fun t k => castTop ((ef_rmA3 m o pa b x f fb).trans hF0.symm) k
  have K0 : Rch p e below s₁ F0 s₁ (mkF m 0 #[.val (.ref o), .val (.int x), .unset, .unset] []) := fun t k => castTop hF0 k
  have K1 : Rch p e below s₁ F0 s₁ (mkF m 1 #[sR o, sI x, sU, sU] [(kR o)]) := fun t k => K0 t (XS.aloadN X0.here hx rfl (hb hby d_add_0) rfl rfl k)
  obtain ⟨T2, X2, e2, st2⟩ := getF X0 hx hZ hown (host := "") (Or.inl (hw _ (mi 19 rfl))) Via.refl e0 (W0.fld (i := 0) rfl (j := 1) rfl rfl) (g := K1.g) rfl rfl (hb hby d_add_1)
  have K3 : Rch p e below s₁ F0 T2 (mkF m 20 #[sR o, sI x, sU, sU] [(kR o)]) := fun t k => K1 t (st2 t (by
    refine X2.ldcInt hx hown (mvT hZ (hw _ (mi 21 rfl))) (g := (mkF m 4 #[sR o, sI x, sU, sU] [(kI 3)])) rfl (hb hby d_add_4) _ ?_
    refine XS.icmpYes X2.here hx rfl (pc0 := 6) (pc' := 19) rfl (hb hby d_add_6) rfl (by decide) (by decide) (by decide) ?_
    refine XS.aloadN X2.here hx rfl (hb hby d_add_19) rfl rfl ?_
    exact k))
  obtain ⟨T4, X4, e4, st4⟩ := getF X2 hx hZ hown (host := "") (Or.inl (hw _ (mi 19 rfl))) Via.refl e2 (W0.fld (i := 0) rfl (j := 1) rfl rfl) (g := K3.g) rfl rfl (hb hby d_add_20)
  have K5 : Rch p e below s₁ F0 T4 (mkF m 28 #[sR o, sI x, sI 0, sU] [(kR o)]) := fun t k => K3 t (st4 t (by
    refine XS.bipush X4.here hx rfl (hb hby d_add_23) ?_
    refine XS.iushr X4.here hx rfl (hb hby d_add_25) rfl ?_
    refine XS.istoreN X4.here hx rfl (hb hby d_add_26) rfl (l' := #[sR o, sI x, sI 0, sU]) rfl ?_
    refine XS.aloadN X4.here hx rfl (hb hby d_add_27) rfl rfl ?_
    exact k))
  obtain ⟨T6, X6, e6, st6⟩ := getF X4 hx hZ hown (host := "") (Or.inl (hw _ (mi 19 rfl))) Via.refl e4 (W0.fld (i := 0) rfl (j := 1) rfl rfl) (g := K5.g) rfl rfl (hb hby d_add_28)
  have K7 : Rch p e below s₁ F0 T6 (mkF m 37 #[sR o, sI x, sI 0, sI 3] [(kR o), (kI 0)]) := fun t k => K5 t (st6 t (by
    refine X6.ldcInt hx hown (mvT hZ (hw _ (mi 22 rfl))) (g := (mkF m 31 #[sR o, sI x, sI 0, sU] [(kI 3)])) rfl (hb hby d_add_31) _ ?_
    refine XS.iand X6.here hx rfl (hb hby d_add_33) rfl ?_
    refine XS.istoreN X6.here hx rfl (hb hby d_add_34) rfl (l' := #[sR o, sI x, sI 0, sI 3]) rfl ?_
    refine XS.iloadN X6.here hx rfl (hb hby d_add_35) rfl ?_
    refine XS.aloadN X6.here hx rfl (hb hby d_add_36) rfl rfl ?_
    exact k))
  obtain ⟨T8, X8, e8, st8⟩ := getF X6 hx hZ hown (host := "") (Or.inl (hw _ (mi 12 rfl))) Via.refl e6 (W0.fld (i := 0) rfl (j := 0) rfl rfl) (g := K7.g) rfl rfl (hb hby d_add_37)
  have K9 : Rch p e below s₁ F0 T8 (mkF m 66 #[sR o, sI x, sI 0, sI 3] [(kR o)]) := fun t k => K7 t (st8 t (by
    refine lenW X8 hx hZ e8 W0 (i := 1) rfl (fun _ q => q.1) (z := (8 : Int32)) (by decide) (g := (mkF m 40 #[sR o, sI x, sI 0, sI 3] [(kR pa), (kI 0)])) rfl rfl (hb hby d_add_40) _ ?_
    refine XS.icmpYes X8.here hx rfl (pc0 := 41) (pc' := 65) rfl (hb hby d_add_41) rfl (by decide) (by decide) (by decide) ?_
    refine XS.aloadN X8.here hx rfl (hb hby d_add_65) rfl rfl ?_
    exact k))
  obtain ⟨T10, X10, e10, st10⟩ := getF X8 hx hZ hown (host := "") (Or.inl (hw _ (mi 12 rfl))) Via.refl e8 (W0.fld (i := 0) rfl (j := 0) rfl rfl) (g := K9.g) rfl rfl (hb hby d_add_66)
  have K11 : Rch p e below s₁ F0 T10 (mkF m 99 #[sR o, sI x, sI 0, sI 3] [(kR o), (kI 3)]) := fun t k => K9 t (st10 t (by
    refine XS.iloadN X10.here hx rfl (hb hby d_add_69) rfl ?_
    refine aalW X10 hx hZ e10 W0 (i := 1) rfl (fun _ q => q.1) rfl (j := (0 : Int32)) (k := 0) (by decide) (by decide) (by decide) (v := (.ref b)) hf (g := (mkF m 70 #[sR o, sI x, sI 0, sI 3] [(kI 0), (kR pa)])) rfl rfl (hb hby d_add_70) _ ?_
    refine XS.ifnonnullYes X10.here hx rfl (pc0 := 71) (pc' := 97) rfl (hb hby d_add_71) rfl (by decide) (by decide) ?_
    refine XS.iloadN X10.here hx rfl (hb hby d_add_97) rfl ?_
    refine XS.aloadN X10.here hx rfl (hb hby d_add_98) rfl rfl ?_
    exact k))
  obtain ⟨T12, X12, e12, st12⟩ := getF X10 hx hZ hown (host := "") (Or.inl (hw _ (mi 12 rfl))) Via.refl e10 (W0.fld (i := 0) rfl (j := 0) rfl rfl) (g := K11.g) rfl rfl (hb hby d_add_99)
  have K13 : Rch p e below s₁ F0 T12 (mkF m 127 #[sR o, sI x, sI 0, sI 3] [(kR o)]) := fun t k => K11 t (st12 t (by
    refine XS.iloadN X12.here hx rfl (hb hby d_add_102) rfl ?_
    refine aalW X12 hx hZ e12 W0 (i := 1) rfl (fun _ q => q.1) rfl (j := (0 : Int32)) (k := 0) (by decide) (by decide) (by decide) (v := (.ref b)) hf (g := (mkF m 103 #[sR o, sI x, sI 0, sI 3] [(kI 0), (kR pa), (kI 3)])) rfl rfl (hb hby d_add_103) _ ?_
    refine lenW X12 hx hZ e12 W0 (i := 2) rfl (fun _ q => q) (z := (256 : Int32)) (by decide) (g := (mkF m 104 #[sR o, sI x, sI 0, sI 3] [(kR b), (kI 3)])) rfl rfl (hb hby d_add_104) _ ?_
    refine XS.icmpYes X12.here hx rfl (pc0 := 105) (pc' := 126) rfl (hb hby d_add_105) rfl (by decide) (by decide) (by decide) ?_
    refine XS.aloadN X12.here hx rfl (hb hby d_add_126) rfl rfl ?_
    exact k))
  obtain ⟨T14, X14, e14, st14⟩ := getF X12 hx hZ hown (host := "") (Or.inl (hw _ (mi 12 rfl))) Via.refl e12 (W0.fld (i := 0) rfl (j := 0) rfl rfl) (g := K13.g) rfl rfl (hb hby d_add_127)
  have K15 : Rch p e below s₁ F0 T14 (mkF m 134 #[sR o, sI x, sI 0, sI 3] [(kI x), (kI 3), (kR b)]) := fun t k => K13 t (st14 t (by
    refine XS.iloadN X14.here hx rfl (hb hby d_add_130) rfl ?_
    refine aalW X14 hx hZ e14 W0 (i := 1) rfl (fun _ q => q.1) rfl (j := (0 : Int32)) (k := 0) (by decide) (by decide) (by decide) (v := (.ref b)) hf (g := (mkF m 131 #[sR o, sI x, sI 0, sI 3] [(kI 0), (kR pa)])) rfl rfl (hb hby d_add_131) _ ?_
    refine XS.iloadN X14.here hx rfl (hb hby d_add_132) rfl ?_
    refine XS.iloadN X14.here hx rfl (hb hby d_add_133) rfl ?_
    exact k))
  obtain ⟨T16, h16, L16, X16, e16, N16, W16q, st16⟩ := basW X14 hx hZ e14 W0 N0 (i := 2) (a := b) rfl (j := (3 : Int32)) (x := x) (k := 3) (by decide) (by decide) (by decide) (g := K15.g) rfl rfl (hb hby d_add_134)
  have W16 : Wo n0 h16 ((o, oPB Z [(kR pa), (kI 3)]) :: (pa, Pg Z .byte 8 f) :: (b, Ar Z .byte 256 (upd fb 3 (kI (x).toInt8.toInt32))) :: Rr) := W16q
  have K17 : Rch p e below s₁ F0 T16 (mkF m 137 #[sR o, sI x, sI 0, sI 3] [(kR o), (kR o)]) := fun t k => K15 t (st16 t (by
    refine XS.aloadN X16.here hx rfl (hb hby d_add_135) rfl rfl ?_
    refine XS.dup X16.here hx rfl (hb hby d_add_136) rfl rfl ?_
    exact k))
  obtain ⟨T18, X18, e18, st18⟩ := getF X16 hx hZ hown (host := "") (Or.inl (hw _ (mi 19 rfl))) Via.refl e16 (W16.fld (i := 0) rfl (j := 1) rfl rfl) (g := K17.g) rfl rfl (hb hby d_add_137)
  have K19 : Rch p e below s₁ F0 T18 (mkF m 142 #[sR o, sI x, sI 0, sI 3] [(kI 4), (kR o)]) := fun t k => K17 t (st18 t (by
    refine XS.iconst X18.here hx rfl (hb hby d_add_140) ?_
    refine XS.iadd X18.here hx rfl (hb hby d_add_141) rfl ?_
    exact k))
  obtain ⟨T20, h20, L20, X20, e20, N20, W20q, st20⟩ := putW X18 hx hZ hown (host := "") (Or.inl (hw _ (mi 19 rfl))) e18 W16 N16 (own_dPB hw) (Or.inl (hw _ (mi 20 rfl))) (hw _ (mi 2 rfl)) (ty := .int) (by decide +kernel) (i := 0) (a := o) rfl (j := 1) rfl rfl (v := (.int (4 : Int32))) rfl rfl (g := K19.g) rfl rfl (hb hby d_add_142)
  have W20 : Wo n0 h20 ((o, oPB Z [(kR pa), (kI 4)]) :: (pa, Pg Z .byte 8 f) :: (b, Ar Z .byte 256 (upd fb 3 (kI (x).toInt8.toInt32))) :: Rr) := W20q
  have K21 : Rch p e below s₁ F0 T20 (mkF m 145 #[sR o, sI x, sI 0, sI 3] []) := fun t k => K19 t (st20 t (k))
  obtain ⟨fs, hr, hrun, hended, hWm, hsame⟩ := X20.leave (v := none) (fun _ => rfl)
  refine ⟨_, _, pre0 _ (K21 _ (X20.returnOut hx Bd.returns (hb hby d_add_145) hr)), hrun, hended, _, _, rfl, ?_, ⟨_, rfl⟩, hWm, hsame.mono (by decide) (by decide)⟩
  show QrmA3 Z o pa b x f fb Rr n0 _ T20.heap _
  rw [e20]
  exact ⟨rfl, N20, W20⟩
theorem pd_tr : parseMethodDescriptor "(I)V" = some ⟨[.int], none⟩ := by decide +kernel
theorem d_tr_0 : decode prog_13_method_10_code 0 = .ok (.iload_n 1, 1) := by decide +kernel
theorem d_tr_1 : decode prog_13_method_10_code 1 = .ok (.i2l, 1) := by decide +kernel
theorem d_tr_2 : decode prog_13_method_10_code 2 = .ok (.ldc2_w 65, 3) := by decide +kernel
theorem d_tr_5 : decode prog_13_method_10_code 5 = .ok (.ladd, 1) := by decide +kernel
theorem d_tr_6 : decode prog_13_method_10_code 6 = .ok (.bipush 16, 2) := by decide +kernel
theorem d_tr_8 : decode prog_13_method_10_code 8 = .ok (.lushr, 1) := by decide +kernel
theorem d_tr_9 : decode prog_13_method_10_code 9 = .ok (.l2i, 1) := by decide +kernel
theorem d_tr_10 : decode prog_13_method_10_code 10 = .ok (.istore_n 2, 1) := by decide +kernel
theorem d_tr_11 : decode prog_13_method_10_code 11 = .ok (.iload_n 2, 1) := by decide +kernel
theorem d_tr_12 : decode prog_13_method_10_code 12 = .ok (.istore_n 3, 1) := by decide +kernel
theorem d_tr_13 : decode prog_13_method_10_code 13 = .ok (.iload_n 3, 1) := by decide +kernel
theorem d_tr_14 : decode prog_13_method_10_code 14 = .ok (.aload_n 0, 1) := by decide +kernel
theorem d_tr_15 : decode prog_13_method_10_code 15 = .ok (.getfield 11, 3) := by decide +kernel
theorem d_tr_18 : decode prog_13_method_10_code 18 = .ok (.arraylength, 1) := by decide +kernel
theorem d_tr_19 : decode prog_13_method_10_code 19 = .ok (.if_icmp .ge 16, 3) := by decide +kernel
theorem d_tr_22 : decode prog_13_method_10_code 22 = .ok (.aload_n 0, 1) := by decide +kernel
theorem d_tr_23 : decode prog_13_method_10_code 23 = .ok (.getfield 11, 3) := by decide +kernel
theorem d_tr_26 : decode prog_13_method_10_code 26 = .ok (.iload_n 3, 1) := by decide +kernel
theorem d_tr_27 : decode prog_13_method_10_code 27 = .ok (.aconst_null, 1) := by decide +kernel
theorem d_tr_28 : decode prog_13_method_10_code 28 = .ok (.aastore, 1) := by decide +kernel
theorem d_tr_29 : decode prog_13_method_10_code 29 = .ok (.iinc 3 1, 3) := by decide +kernel
theorem d_tr_32 : decode prog_13_method_10_code 32 = .ok (.goto (-19), 3) := by decide +kernel
theorem d_tr_35 : decode prog_13_method_10_code 35 = .ok (.aload_n 0, 1) := by decide +kernel
theorem d_tr_36 : decode prog_13_method_10_code 36 = .ok (.iload_n 1, 1) := by decide +kernel
theorem d_tr_37 : decode prog_13_method_10_code 37 = .ok (.putfield 15, 3) := by decide +kernel
theorem d_tr_40 : decode prog_13_method_10_code 40 = .ok (.return_, 1) := by decide +kernel
theorem ef_rmT0 (m : MethodId) (o pa : Addr) (w : Int32) (f : Nat → Value) : entryFrame m #[(.ref o), (.int (0 : Int32))] 4 = mkF m 0 #[.val (.ref o), .val (.int (0 : Int32)), .unset, .unset] [] := by first | (simp [entryFrame, mkF, argsToLocals, Value.category]; done) | rfl
def QrmT0 (Z : State) (o pa : Addr) (w : Int32) (f : Nat → Value) (Rr : List (Addr × (Cell → Prop))) (n0 : Nat) (v : Option Value) (h : Heap) (L : List Loc) : Prop := v = none ∧ Fr n0 L ∧ Wo n0 h ((o, Ob Z "com/example/attribute_checker/attributechecker/checker/PagedBytes" nsPB [.ref pa, .int 0]) :: (pa, Pg Z .byte 8 (upd (upd (upd (upd (upd (upd (upd (upd f 0 .null) 1 .null) 2 .null) 3 .null) 4 .null) 5 .null) 6 .null) 7 .null)) :: Rr)
set_option maxRecDepth 65536 in
set_option maxHeartbeats 40000000 in
theorem rmT0 (l : Launch) (Z : State) (a0 : Array Value) (hw : ∀ d ∈ tables_1, d.before a0 Z = true) (ws : List Jvm.Cond) (o pa : Addr) (w : Int32) (f : Nat → Value) (Rr : List (Addr × (Cell → Prop))) (h0 : Heap) (n0 : Nat) (W0 : Wo n0 h0 ((o, oPB Z [(kR pa), (kI w)]) :: (pa, Pg Z .byte 8 f) :: Rr)) :
    MetFree l (⟨"com/example/attribute_checker/attributechecker/checker/PagedBytes", "truncate", "(I)V"⟩ : MethodName) (head1 (Jvm.Cond.code (⟨"com/example/attribute_checker/attributechecker/checker/PagedBytes", "truncate", "(I)V"⟩ : MethodName) prog_13_method_10_code 4 none :: ws) ({ frames := 0, cells := 0, slots := 0, locals := 0 } : Room)) (fun a U => a = #[(.ref o), (.int (0 : Int32))] ∧ Z.Warmed39 U.vm ∧ U.heap = h0) (fun _ _ _ _ _ => True) (fun _ U ou U' => ∃ v L, ou = .returned v ∧ QrmT0 Z o pa w f Rr n0 v U'.heap L ∧ FrameEnd U ou U' L ({ frames := 0, cells := 0, slots := 0, locals := 0 } : Room).cells ({ frames := 0, cells := 0, slots := 0, locals := 0 } : Room).slots) := by
  refine MetFree.of_bodySF (plainFor_of_name pn_PagedBytes) hisR ?_
  intro p e s m args below meth c s₁ Bd hml0 hP hK
  obtain ⟨rfl, hZ, hh⟩ := hP
  have hx := Bd.exec
  have hby := Bd.bytes
  have hml : c.maxLocals = 4 := hml0
  have hown : s.vm.findClass "com/example/attribute_checker/attributechecker/checker/PagedBytes" = some m.cls := findClass_of_methodNamed Bd.named
  have hnm := (name_of_methodNamed Bd.named Bd.method).1
  have X0 : Stand p l e ({ frames := 0, cells := 0, slots := 0, locals := 0 } : Room) s m #[(.ref o), (.int (0 : Int32))] below meth c s₁ [] 0 0 := Stand.of_body Bd
  have e0 : s₁.heap = h0 := by rw [← hh, Bd.state]; rfl
  have N0 := Fr.nil n0
  obtain ⟨F0, hF0⟩ : ∃ F, F = mkF m 0 #[.val (.ref o), .val (.int (0 : Int32)), .unset, .unset] [] := ⟨_, rfl⟩
  have pre0 : ∀ t, Steps p.tables e below (s₁.setTop F0) t → Steps p.tables e below (s₁.setTop (entryFrame m #[(.ref o), (.int (0 : Int32))] 4)) t := fun t k => castTop ((ef_rmT0 m o pa w f).trans hF0.symm) k
  have K0 : Rch p e below s₁ F0 s₁ (mkF m 0 #[.val (.ref o), .val (.int (0 : Int32)), .unset, .unset] []) := fun t k => castTop hF0 k
  have K1 : Rch p e below s₁ F0 s₁ (mkF m 15 #[sR o, sI 0, sI 0, sI 0] [(kR o), (kI 0)]) := fun t k => K0 t (by
    refine XS.iloadN X0.here hx rfl (hb hby d_tr_0) rfl ?_
    refine XS.i2l X0.here hx rfl (hb hby d_tr_1) rfl ?_
    refine X0.ldc2Long hx hown (mvT hZ (hw _ (mi 30 rfl))) (g := (mkF m 2 #[sR o, sI 0, sU, sU] [(kJ 0)])) rfl (hb hby d_tr_2) _ ?_
    refine XS.ladd X0.here hx rfl (hb hby d_tr_5) rfl ?_
    refine XS.bipush X0.here hx rfl (hb hby d_tr_6) ?_
    refine XS.lushr X0.here hx rfl (hb hby d_tr_8) rfl ?_
    show Steps p.tables e below (s₁.setTop (mkF m 9 #[sR o, sI 0, sU, sU] [(kJ 0)])) _
    refine XS.l2i X0.here hx rfl (hb hby d_tr_9) rfl ?_
    refine XS.istoreN X0.here hx rfl (hb hby d_tr_10) rfl (l' := #[sR o, sI 0, sI 0, sU]) rfl ?_
    refine XS.iloadN X0.here hx rfl (hb hby d_tr_11) rfl ?_
    refine XS.istoreN X0.here hx rfl (hb hby d_tr_12) rfl (l' := #[sR o, sI 0, sI 0, sI 0]) rfl ?_
    refine XS.iloadN X0.here hx rfl (hb hby d_tr_13) rfl ?_
    refine XS.aloadN X0.here hx rfl (hb hby d_tr_14) rfl rfl ?_
    exact k)
  obtain ⟨T2, X2, e2, st2⟩ := getF X0 hx hZ hown (host := "") (Or.inl (hw _ (mi 12 rfl))) Via.refl e0 (W0.fld (i := 0) rfl (j := 0) rfl rfl) (g := K1.g) rfl rfl (hb hby d_tr_15)
  have K3 : Rch p e below s₁ F0 T2 (mkF m 23 #[sR o, sI 0, sI 0, sI 0] [(kR o)]) := fun t k => K1 t (st2 t (by
    refine lenW X2 hx hZ e2 W0 (i := 1) rfl (fun _ q => q.1) (z := (8 : Int32)) (by decide) (g := (mkF m 18 #[sR o, sI 0, sI 0, sI 0] [(kR pa), (kI 0)])) rfl rfl (hb hby d_tr_18) _ ?_
    refine XS.icmpNo X2.here hx rfl (hb hby d_tr_19) rfl (by decide) ?_
    refine XS.aloadN X2.here hx rfl (hb hby d_tr_22) rfl rfl ?_
    exact k))
  obtain ⟨T4, X4, e4, st4⟩ := getF X2 hx hZ hown (host := "") (Or.inl (hw _ (mi 12 rfl))) Via.refl e2 (W0.fld (i := 0) rfl (j := 0) rfl rfl) (g := K3.g) rfl rfl (hb hby d_tr_23)
  have K5 : Rch p e below s₁ F0 T4 (mkF m 28 #[sR o, sI 0, sI 0, sI 0] [.null, (kI 0), (kR pa)]) := fun t k => K3 t (st4 t (by
    refine XS.iloadN X4.here hx rfl (hb hby d_tr_26) rfl ?_
    refine XS.aconstNull X4.here hx rfl (hb hby d_tr_27) ?_
    exact k))
  obtain ⟨T6, h6, L6, X6, e6, N6, W6q, st6⟩ := aasW X4 hx hZ e4 W0 N0 (i := 1) (a := pa) rfl (j := (0 : Int32)) (k := 0) (by decide) (by decide) (by decide) (v := .null) rfl (Or.inl rfl) (g := K5.g) rfl rfl (hb hby d_tr_28)
  have W6 : Wo n0 h6 ((o, oPB Z [(kR pa), (kI w)]) :: (pa, Pg Z .byte 8 (upd f 0 .null)) :: Rr) := W6q
  have K7 : Rch p e below s₁ F0 T6 (mkF m 15 #[sR o, sI 0, sI 0, sI 1] [(kR o), (kI 1)]) := fun t k => K5 t (st6 t (by
    refine XS.iinc X6.here hx rfl (hb hby d_tr_29) rfl (l' := #[sR o, sI 0, sI 0, sI 1]) rfl ?_
    refine XS.goto X6.here hx rfl (pc0 := 32) (pc' := 13) rfl (hb hby d_tr_32) (by decide) (by decide) ?_
    refine XS.iloadN X6.here hx rfl (hb hby d_tr_13) rfl ?_
    refine XS.aloadN X6.here hx rfl (hb hby d_tr_14) rfl rfl ?_
    exact k))
  obtain ⟨T8, X8, e8, st8⟩ := getF X6 hx hZ hown (host := "") (Or.inl (hw _ (mi 12 rfl))) Via.refl e6 (W6.fld (i := 0) rfl (j := 0) rfl rfl) (g := K7.g) rfl rfl (hb hby d_tr_15)
  have K9 : Rch p e below s₁ F0 T8 (mkF m 23 #[sR o, sI 0, sI 0, sI 1] [(kR o)]) := fun t k => K7 t (st8 t (by
    refine lenW X8 hx hZ e8 W6 (i := 1) rfl (fun _ q => q.1) (z := (8 : Int32)) (by decide) (g := (mkF m 18 #[sR o, sI 0, sI 0, sI 1] [(kR pa), (kI 1)])) rfl rfl (hb hby d_tr_18) _ ?_
    refine XS.icmpNo X8.here hx rfl (hb hby d_tr_19) rfl (by decide) ?_
    refine XS.aloadN X8.here hx rfl (hb hby d_tr_22) rfl rfl ?_
    exact k))
  obtain ⟨T10, X10, e10, st10⟩ := getF X8 hx hZ hown (host := "") (Or.inl (hw _ (mi 12 rfl))) Via.refl e8 (W6.fld (i := 0) rfl (j := 0) rfl rfl) (g := K9.g) rfl rfl (hb hby d_tr_23)
  have K11 : Rch p e below s₁ F0 T10 (mkF m 28 #[sR o, sI 0, sI 0, sI 1] [.null, (kI 1), (kR pa)]) := fun t k => K9 t (st10 t (by
    refine XS.iloadN X10.here hx rfl (hb hby d_tr_26) rfl ?_
    refine XS.aconstNull X10.here hx rfl (hb hby d_tr_27) ?_
    exact k))
  obtain ⟨T12, h12, L12, X12, e12, N12, W12q, st12⟩ := aasW X10 hx hZ e10 W6 N6 (i := 1) (a := pa) rfl (j := (1 : Int32)) (k := 1) (by decide) (by decide) (by decide) (v := .null) rfl (Or.inl rfl) (g := K11.g) rfl rfl (hb hby d_tr_28)
  have W12 : Wo n0 h12 ((o, oPB Z [(kR pa), (kI w)]) :: (pa, Pg Z .byte 8 (upd (upd f 0 .null) 1 .null)) :: Rr) := W12q
  have K13 : Rch p e below s₁ F0 T12 (mkF m 15 #[sR o, sI 0, sI 0, sI 2] [(kR o), (kI 2)]) := fun t k => K11 t (st12 t (by
    refine XS.iinc X12.here hx rfl (hb hby d_tr_29) rfl (l' := #[sR o, sI 0, sI 0, sI 2]) rfl ?_
    refine XS.goto X12.here hx rfl (pc0 := 32) (pc' := 13) rfl (hb hby d_tr_32) (by decide) (by decide) ?_
    refine XS.iloadN X12.here hx rfl (hb hby d_tr_13) rfl ?_
    refine XS.aloadN X12.here hx rfl (hb hby d_tr_14) rfl rfl ?_
    exact k))
  obtain ⟨T14, X14, e14, st14⟩ := getF X12 hx hZ hown (host := "") (Or.inl (hw _ (mi 12 rfl))) Via.refl e12 (W12.fld (i := 0) rfl (j := 0) rfl rfl) (g := K13.g) rfl rfl (hb hby d_tr_15)
  have K15 : Rch p e below s₁ F0 T14 (mkF m 23 #[sR o, sI 0, sI 0, sI 2] [(kR o)]) := fun t k => K13 t (st14 t (by
    refine lenW X14 hx hZ e14 W12 (i := 1) rfl (fun _ q => q.1) (z := (8 : Int32)) (by decide) (g := (mkF m 18 #[sR o, sI 0, sI 0, sI 2] [(kR pa), (kI 2)])) rfl rfl (hb hby d_tr_18) _ ?_
    refine XS.icmpNo X14.here hx rfl (hb hby d_tr_19) rfl (by decide) ?_
    refine XS.aloadN X14.here hx rfl (hb hby d_tr_22) rfl rfl ?_
    exact k))
  obtain ⟨T16, X16, e16, st16⟩ := getF X14 hx hZ hown (host := "") (Or.inl (hw _ (mi 12 rfl))) Via.refl e14 (W12.fld (i := 0) rfl (j := 0) rfl rfl) (g := K15.g) rfl rfl (hb hby d_tr_23)
  have K17 : Rch p e below s₁ F0 T16 (mkF m 28 #[sR o, sI 0, sI 0, sI 2] [.null, (kI 2), (kR pa)]) := fun t k => K15 t (st16 t (by
    refine XS.iloadN X16.here hx rfl (hb hby d_tr_26) rfl ?_
    refine XS.aconstNull X16.here hx rfl (hb hby d_tr_27) ?_
    exact k))
  obtain ⟨T18, h18, L18, X18, e18, N18, W18q, st18⟩ := aasW X16 hx hZ e16 W12 N12 (i := 1) (a := pa) rfl (j := (2 : Int32)) (k := 2) (by decide) (by decide) (by decide) (v := .null) rfl (Or.inl rfl) (g := K17.g) rfl rfl (hb hby d_tr_28)
  have W18 : Wo n0 h18 ((o, oPB Z [(kR pa), (kI w)]) :: (pa, Pg Z .byte 8 (upd (upd (upd f 0 .null) 1 .null) 2 .null)) :: Rr) := W18q
  have K19 : Rch p e below s₁ F0 T18 (mkF m 15 #[sR o, sI 0, sI 0, sI 3] [(kR o), (kI 3)]) := fun t k => K17 t (st18 t (by
    refine XS.iinc X18.here hx rfl (hb hby d_tr_29) rfl (l' := #[sR o, sI 0, sI 0, sI 3]) rfl ?_
    refine XS.goto X18.here hx rfl (pc0 := 32) (pc' := 13) rfl (hb hby d_tr_32) (by decide) (by decide) ?_
    refine XS.iloadN X18.here hx rfl (hb hby d_tr_13) rfl ?_
    refine XS.aloadN X18.here hx rfl (hb hby d_tr_14) rfl rfl ?_
    exact k))
  obtain ⟨T20, X20, e20, st20⟩ := getF X18 hx hZ hown (host := "") (Or.inl (hw _ (mi 12 rfl))) Via.refl e18 (W18.fld (i := 0) rfl (j := 0) rfl rfl) (g := K19.g) rfl rfl (hb hby d_tr_15)
  have K21 : Rch p e below s₁ F0 T20 (mkF m 23 #[sR o, sI 0, sI 0, sI 3] [(kR o)]) := fun t k => K19 t (st20 t (by
    refine lenW X20 hx hZ e20 W18 (i := 1) rfl (fun _ q => q.1) (z := (8 : Int32)) (by decide) (g := (mkF m 18 #[sR o, sI 0, sI 0, sI 3] [(kR pa), (kI 3)])) rfl rfl (hb hby d_tr_18) _ ?_
    refine XS.icmpNo X20.here hx rfl (hb hby d_tr_19) rfl (by decide) ?_
    refine XS.aloadN X20.here hx rfl (hb hby d_tr_22) rfl rfl ?_
    exact k))
  obtain ⟨T22, X22, e22, st22⟩ := getF X20 hx hZ hown (host := "") (Or.inl (hw _ (mi 12 rfl))) Via.refl e20 (W18.fld (i := 0) rfl (j := 0) rfl rfl) (g := K21.g) rfl rfl (hb hby d_tr_23)
  have K23 : Rch p e below s₁ F0 T22 (mkF m 28 #[sR o, sI 0, sI 0, sI 3] [.null, (kI 3), (kR pa)]) := fun t k => K21 t (st22 t (by
    refine XS.iloadN X22.here hx rfl (hb hby d_tr_26) rfl ?_
    refine XS.aconstNull X22.here hx rfl (hb hby d_tr_27) ?_
    exact k))
  obtain ⟨T24, h24, L24, X24, e24, N24, W24q, st24⟩ := aasW X22 hx hZ e22 W18 N18 (i := 1) (a := pa) rfl (j := (3 : Int32)) (k := 3) (by decide) (by decide) (by decide) (v := .null) rfl (Or.inl rfl) (g := K23.g) rfl rfl (hb hby d_tr_28)
  have W24 : Wo n0 h24 ((o, oPB Z [(kR pa), (kI w)]) :: (pa, Pg Z .byte 8 (upd (upd (upd (upd f 0 .null) 1 .null) 2 .null) 3 .null)) :: Rr) := W24q
  have K25 : Rch p e below s₁ F0 T24 (mkF m 15 #[sR o, sI 0, sI 0, sI 4] [(kR o), (kI 4)]) := fun t k => K23 t (st24 t (by
    refine XS.iinc X24.here hx rfl (hb hby d_tr_29) rfl (l' := #[sR o, sI 0, sI 0, sI 4]) rfl ?_
    refine XS.goto X24.here hx rfl (pc0 := 32) (pc' := 13) rfl (hb hby d_tr_32) (by decide) (by decide) ?_
    refine XS.iloadN X24.here hx rfl (hb hby d_tr_13) rfl ?_
    refine XS.aloadN X24.here hx rfl (hb hby d_tr_14) rfl rfl ?_
    exact k))
  obtain ⟨T26, X26, e26, st26⟩ := getF X24 hx hZ hown (host := "") (Or.inl (hw _ (mi 12 rfl))) Via.refl e24 (W24.fld (i := 0) rfl (j := 0) rfl rfl) (g := K25.g) rfl rfl (hb hby d_tr_15)
  have K27 : Rch p e below s₁ F0 T26 (mkF m 23 #[sR o, sI 0, sI 0, sI 4] [(kR o)]) := fun t k => K25 t (st26 t (by
    refine lenW X26 hx hZ e26 W24 (i := 1) rfl (fun _ q => q.1) (z := (8 : Int32)) (by decide) (g := (mkF m 18 #[sR o, sI 0, sI 0, sI 4] [(kR pa), (kI 4)])) rfl rfl (hb hby d_tr_18) _ ?_
    refine XS.icmpNo X26.here hx rfl (hb hby d_tr_19) rfl (by decide) ?_
    refine XS.aloadN X26.here hx rfl (hb hby d_tr_22) rfl rfl ?_
    exact k))
  obtain ⟨T28, X28, e28, st28⟩ := getF X26 hx hZ hown (host := "") (Or.inl (hw _ (mi 12 rfl))) Via.refl e26 (W24.fld (i := 0) rfl (j := 0) rfl rfl) (g := K27.g) rfl rfl (hb hby d_tr_23)
  have K29 : Rch p e below s₁ F0 T28 (mkF m 28 #[sR o, sI 0, sI 0, sI 4] [.null, (kI 4), (kR pa)]) := fun t k => K27 t (st28 t (by
    refine XS.iloadN X28.here hx rfl (hb hby d_tr_26) rfl ?_
    refine XS.aconstNull X28.here hx rfl (hb hby d_tr_27) ?_
    exact k))
  obtain ⟨T30, h30, L30, X30, e30, N30, W30q, st30⟩ := aasW X28 hx hZ e28 W24 N24 (i := 1) (a := pa) rfl (j := (4 : Int32)) (k := 4) (by decide) (by decide) (by decide) (v := .null) rfl (Or.inl rfl) (g := K29.g) rfl rfl (hb hby d_tr_28)
  have W30 : Wo n0 h30 ((o, oPB Z [(kR pa), (kI w)]) :: (pa, Pg Z .byte 8 (upd (upd (upd (upd (upd f 0 .null) 1 .null) 2 .null) 3 .null) 4 .null)) :: Rr) := W30q
  have K31 : Rch p e below s₁ F0 T30 (mkF m 15 #[sR o, sI 0, sI 0, sI 5] [(kR o), (kI 5)]) := fun t k => K29 t (st30 t (by
    refine XS.iinc X30.here hx rfl (hb hby d_tr_29) rfl (l' := #[sR o, sI 0, sI 0, sI 5]) rfl ?_
    refine XS.goto X30.here hx rfl (pc0 := 32) (pc' := 13) rfl (hb hby d_tr_32) (by decide) (by decide) ?_
    refine XS.iloadN X30.here hx rfl (hb hby d_tr_13) rfl ?_
    refine XS.aloadN X30.here hx rfl (hb hby d_tr_14) rfl rfl ?_
    exact k))
  obtain ⟨T32, X32, e32, st32⟩ := getF X30 hx hZ hown (host := "") (Or.inl (hw _ (mi 12 rfl))) Via.refl e30 (W30.fld (i := 0) rfl (j := 0) rfl rfl) (g := K31.g) rfl rfl (hb hby d_tr_15)
  have K33 : Rch p e below s₁ F0 T32 (mkF m 23 #[sR o, sI 0, sI 0, sI 5] [(kR o)]) := fun t k => K31 t (st32 t (by
    refine lenW X32 hx hZ e32 W30 (i := 1) rfl (fun _ q => q.1) (z := (8 : Int32)) (by decide) (g := (mkF m 18 #[sR o, sI 0, sI 0, sI 5] [(kR pa), (kI 5)])) rfl rfl (hb hby d_tr_18) _ ?_
    refine XS.icmpNo X32.here hx rfl (hb hby d_tr_19) rfl (by decide) ?_
    refine XS.aloadN X32.here hx rfl (hb hby d_tr_22) rfl rfl ?_
    exact k))
  obtain ⟨T34, X34, e34, st34⟩ := getF X32 hx hZ hown (host := "") (Or.inl (hw _ (mi 12 rfl))) Via.refl e32 (W30.fld (i := 0) rfl (j := 0) rfl rfl) (g := K33.g) rfl rfl (hb hby d_tr_23)
  have K35 : Rch p e below s₁ F0 T34 (mkF m 28 #[sR o, sI 0, sI 0, sI 5] [.null, (kI 5), (kR pa)]) := fun t k => K33 t (st34 t (by
    refine XS.iloadN X34.here hx rfl (hb hby d_tr_26) rfl ?_
    refine XS.aconstNull X34.here hx rfl (hb hby d_tr_27) ?_
    exact k))
  obtain ⟨T36, h36, L36, X36, e36, N36, W36q, st36⟩ := aasW X34 hx hZ e34 W30 N30 (i := 1) (a := pa) rfl (j := (5 : Int32)) (k := 5) (by decide) (by decide) (by decide) (v := .null) rfl (Or.inl rfl) (g := K35.g) rfl rfl (hb hby d_tr_28)
  have W36 : Wo n0 h36 ((o, oPB Z [(kR pa), (kI w)]) :: (pa, Pg Z .byte 8 (upd (upd (upd (upd (upd (upd f 0 .null) 1 .null) 2 .null) 3 .null) 4 .null) 5 .null)) :: Rr) := W36q
  have K37 : Rch p e below s₁ F0 T36 (mkF m 15 #[sR o, sI 0, sI 0, sI 6] [(kR o), (kI 6)]) := fun t k => K35 t (st36 t (by
    refine XS.iinc X36.here hx rfl (hb hby d_tr_29) rfl (l' := #[sR o, sI 0, sI 0, sI 6]) rfl ?_
    refine XS.goto X36.here hx rfl (pc0 := 32) (pc' := 13) rfl (hb hby d_tr_32) (by decide) (by decide) ?_
    refine XS.iloadN X36.here hx rfl (hb hby d_tr_13) rfl ?_
    refine XS.aloadN X36.here hx rfl (hb hby d_tr_14) rfl rfl ?_
    exact k))
  obtain ⟨T38, X38, e38, st38⟩ := getF X36 hx hZ hown (host := "") (Or.inl (hw _ (mi 12 rfl))) Via.refl e36 (W36.fld (i := 0) rfl (j := 0) rfl rfl) (g := K37.g) rfl rfl (hb hby d_tr_15)
  have K39 : Rch p e below s₁ F0 T38 (mkF m 23 #[sR o, sI 0, sI 0, sI 6] [(kR o)]) := fun t k => K37 t (st38 t (by
    refine lenW X38 hx hZ e38 W36 (i := 1) rfl (fun _ q => q.1) (z := (8 : Int32)) (by decide) (g := (mkF m 18 #[sR o, sI 0, sI 0, sI 6] [(kR pa), (kI 6)])) rfl rfl (hb hby d_tr_18) _ ?_
    refine XS.icmpNo X38.here hx rfl (hb hby d_tr_19) rfl (by decide) ?_
    refine XS.aloadN X38.here hx rfl (hb hby d_tr_22) rfl rfl ?_
    exact k))
  obtain ⟨T40, X40, e40, st40⟩ := getF X38 hx hZ hown (host := "") (Or.inl (hw _ (mi 12 rfl))) Via.refl e38 (W36.fld (i := 0) rfl (j := 0) rfl rfl) (g := K39.g) rfl rfl (hb hby d_tr_23)
  have K41 : Rch p e below s₁ F0 T40 (mkF m 28 #[sR o, sI 0, sI 0, sI 6] [.null, (kI 6), (kR pa)]) := fun t k => K39 t (st40 t (by
    refine XS.iloadN X40.here hx rfl (hb hby d_tr_26) rfl ?_
    refine XS.aconstNull X40.here hx rfl (hb hby d_tr_27) ?_
    exact k))
  obtain ⟨T42, h42, L42, X42, e42, N42, W42q, st42⟩ := aasW X40 hx hZ e40 W36 N36 (i := 1) (a := pa) rfl (j := (6 : Int32)) (k := 6) (by decide) (by decide) (by decide) (v := .null) rfl (Or.inl rfl) (g := K41.g) rfl rfl (hb hby d_tr_28)
  have W42 : Wo n0 h42 ((o, oPB Z [(kR pa), (kI w)]) :: (pa, Pg Z .byte 8 (upd (upd (upd (upd (upd (upd (upd f 0 .null) 1 .null) 2 .null) 3 .null) 4 .null) 5 .null) 6 .null)) :: Rr) := W42q
  have K43 : Rch p e below s₁ F0 T42 (mkF m 15 #[sR o, sI 0, sI 0, sI 7] [(kR o), (kI 7)]) := fun t k => K41 t (st42 t (by
    refine XS.iinc X42.here hx rfl (hb hby d_tr_29) rfl (l' := #[sR o, sI 0, sI 0, sI 7]) rfl ?_
    refine XS.goto X42.here hx rfl (pc0 := 32) (pc' := 13) rfl (hb hby d_tr_32) (by decide) (by decide) ?_
    refine XS.iloadN X42.here hx rfl (hb hby d_tr_13) rfl ?_
    refine XS.aloadN X42.here hx rfl (hb hby d_tr_14) rfl rfl ?_
    exact k))
  obtain ⟨T44, X44, e44, st44⟩ := getF X42 hx hZ hown (host := "") (Or.inl (hw _ (mi 12 rfl))) Via.refl e42 (W42.fld (i := 0) rfl (j := 0) rfl rfl) (g := K43.g) rfl rfl (hb hby d_tr_15)
  have K45 : Rch p e below s₁ F0 T44 (mkF m 23 #[sR o, sI 0, sI 0, sI 7] [(kR o)]) := fun t k => K43 t (st44 t (by
    refine lenW X44 hx hZ e44 W42 (i := 1) rfl (fun _ q => q.1) (z := (8 : Int32)) (by decide) (g := (mkF m 18 #[sR o, sI 0, sI 0, sI 7] [(kR pa), (kI 7)])) rfl rfl (hb hby d_tr_18) _ ?_
    refine XS.icmpNo X44.here hx rfl (hb hby d_tr_19) rfl (by decide) ?_
    refine XS.aloadN X44.here hx rfl (hb hby d_tr_22) rfl rfl ?_
    exact k))
  obtain ⟨T46, X46, e46, st46⟩ := getF X44 hx hZ hown (host := "") (Or.inl (hw _ (mi 12 rfl))) Via.refl e44 (W42.fld (i := 0) rfl (j := 0) rfl rfl) (g := K45.g) rfl rfl (hb hby d_tr_23)
  have K47 : Rch p e below s₁ F0 T46 (mkF m 28 #[sR o, sI 0, sI 0, sI 7] [.null, (kI 7), (kR pa)]) := fun t k => K45 t (st46 t (by
    refine XS.iloadN X46.here hx rfl (hb hby d_tr_26) rfl ?_
    refine XS.aconstNull X46.here hx rfl (hb hby d_tr_27) ?_
    exact k))
  obtain ⟨T48, h48, L48, X48, e48, N48, W48q, st48⟩ := aasW X46 hx hZ e46 W42 N42 (i := 1) (a := pa) rfl (j := (7 : Int32)) (k := 7) (by decide) (by decide) (by decide) (v := .null) rfl (Or.inl rfl) (g := K47.g) rfl rfl (hb hby d_tr_28)
  have W48 : Wo n0 h48 ((o, oPB Z [(kR pa), (kI w)]) :: (pa, Pg Z .byte 8 (upd (upd (upd (upd (upd (upd (upd (upd f 0 .null) 1 .null) 2 .null) 3 .null) 4 .null) 5 .null) 6 .null) 7 .null)) :: Rr) := W48q
  have K49 : Rch p e below s₁ F0 T48 (mkF m 15 #[sR o, sI 0, sI 0, sI 8] [(kR o), (kI 8)]) := fun t k => K47 t (st48 t (by
    refine XS.iinc X48.here hx rfl (hb hby d_tr_29) rfl (l' := #[sR o, sI 0, sI 0, sI 8]) rfl ?_
    refine XS.goto X48.here hx rfl (pc0 := 32) (pc' := 13) rfl (hb hby d_tr_32) (by decide) (by decide) ?_
    refine XS.iloadN X48.here hx rfl (hb hby d_tr_13) rfl ?_
    refine XS.aloadN X48.here hx rfl (hb hby d_tr_14) rfl rfl ?_
    exact k))
  obtain ⟨T50, X50, e50, st50⟩ := getF X48 hx hZ hown (host := "") (Or.inl (hw _ (mi 12 rfl))) Via.refl e48 (W48.fld (i := 0) rfl (j := 0) rfl rfl) (g := K49.g) rfl rfl (hb hby d_tr_15)
  have K51 : Rch p e below s₁ F0 T50 (mkF m 37 #[sR o, sI 0, sI 0, sI 8] [(kI 0), (kR o)]) := fun t k => K49 t (st50 t (by
    refine lenW X50 hx hZ e50 W48 (i := 1) rfl (fun _ q => q.1) (z := (8 : Int32)) (by decide) (g := (mkF m 18 #[sR o, sI 0, sI 0, sI 8] [(kR pa), (kI 8)])) rfl rfl (hb hby d_tr_18) _ ?_
    refine XS.icmpYes X50.here hx rfl (pc0 := 19) (pc' := 35) rfl (hb hby d_tr_19) rfl (by decide) (by decide) (by decide) ?_
    refine XS.aloadN X50.here hx rfl (hb hby d_tr_35) rfl rfl ?_
    refine XS.iloadN X50.here hx rfl (hb hby d_tr_36) rfl ?_
    exact k))
  obtain ⟨T52, h52, L52, X52, e52, N52, W52q, st52⟩ := putW X50 hx hZ hown (host := "") (Or.inl (hw _ (mi 19 rfl))) e50 W48 N48 (own_dPB hw) (Or.inl (hw _ (mi 20 rfl))) (hw _ (mi 2 rfl)) (ty := .int) (by decide +kernel) (i := 0) (a := o) rfl (j := 1) rfl rfl (v := (.int (0 : Int32))) rfl rfl (g := K51.g) rfl rfl (hb hby d_tr_37)
  have W52 : Wo n0 h52 ((o, oPB Z [(kR pa), (kI 0)]) :: (pa, Pg Z .byte 8 (upd (upd (upd (upd (upd (upd (upd (upd f 0 .null) 1 .null) 2 .null) 3 .null) 4 .null) 5 .null) 6 .null) 7 .null)) :: Rr) := W52q
  have K53 : Rch p e below s₁ F0 T52 (mkF m 40 #[sR o, sI 0, sI 0, sI 8] []) := fun t k => K51 t (st52 t (k))
  obtain ⟨fs, hr, hrun, hended, hWm, hsame⟩ := X52.leave (v := none) (fun _ => rfl)
  refine ⟨_, _, pre0 _ (K53 _ (X52.returnOut hx Bd.returns (hb hby d_tr_40) hr)), hrun, hended, _, _, rfl, ?_, ⟨_, rfl⟩, hWm, hsame.mono (by decide) (by decide)⟩
  show QrmT0 Z o pa w f Rr n0 _ T52.heap _
  rw [e52]
  exact ⟨rfl, N52, W52⟩
theorem ef_rmT1 (m : MethodId) (o pa : Addr) (w : Int32) (f : Nat → Value) : entryFrame m #[(.ref o), (.int (1 : Int32))] 4 = mkF m 0 #[.val (.ref o), .val (.int (1 : Int32)), .unset, .unset] [] := by first | (simp [entryFrame, mkF, argsToLocals, Value.category]; done) | rfl
def QrmT1 (Z : State) (o pa : Addr) (w : Int32) (f : Nat → Value) (Rr : List (Addr × (Cell → Prop))) (n0 : Nat) (v : Option Value) (h : Heap) (L : List Loc) : Prop := v = none ∧ Fr n0 L ∧ Wo n0 h ((o, Ob Z "com/example/attribute_checker/attributechecker/checker/PagedBytes" nsPB [.ref pa, .int 1]) :: (pa, Pg Z .byte 8 (upd (upd (upd (upd (upd (upd (upd f 1 .null) 2 .null) 3 .null) 4 .null) 5 .null) 6 .null) 7 .null)) :: Rr)
set_option maxRecDepth 65536 in
set_option maxHeartbeats 40000000 in
theorem rmT1 (l : Launch) (Z : State) (a0 : Array Value) (hw : ∀ d ∈ tables_1, d.before a0 Z = true) (ws : List Jvm.Cond) (o pa : Addr) (w : Int32) (f : Nat → Value) (Rr : List (Addr × (Cell → Prop))) (h0 : Heap) (n0 : Nat) (W0 : Wo n0 h0 ((o, oPB Z [(kR pa), (kI w)]) :: (pa, Pg Z .byte 8 f) :: Rr)) :
    MetFree l (⟨"com/example/attribute_checker/attributechecker/checker/PagedBytes", "truncate", "(I)V"⟩ : MethodName) (head1 (Jvm.Cond.code (⟨"com/example/attribute_checker/attributechecker/checker/PagedBytes", "truncate", "(I)V"⟩ : MethodName) prog_13_method_10_code 4 none :: ws) ({ frames := 0, cells := 0, slots := 0, locals := 0 } : Room)) (fun a U => a = #[(.ref o), (.int (1 : Int32))] ∧ Z.Warmed39 U.vm ∧ U.heap = h0) (fun _ _ _ _ _ => True) (fun _ U ou U' => ∃ v L, ou = .returned v ∧ QrmT1 Z o pa w f Rr n0 v U'.heap L ∧ FrameEnd U ou U' L ({ frames := 0, cells := 0, slots := 0, locals := 0 } : Room).cells ({ frames := 0, cells := 0, slots := 0, locals := 0 } : Room).slots) := by
  refine MetFree.of_bodySF (plainFor_of_name pn_PagedBytes) hisR ?_
  intro p e s m args below meth c s₁ Bd hml0 hP hK
  obtain ⟨rfl, hZ, hh⟩ := hP
  have hx := Bd.exec
  have hby := Bd.bytes
  have hml : c.maxLocals = 4 := hml0
  have hown : s.vm.findClass "com/example/attribute_checker/attributechecker/checker/PagedBytes" = some m.cls := findClass_of_methodNamed Bd.named
  have hnm := (name_of_methodNamed Bd.named Bd.method).1
  have X0 : Stand p l e ({ frames := 0, cells := 0, slots := 0, locals := 0 } : Room) s m #[(.ref o), (.int (1 : Int32))] below meth c s₁ [] 0 0 := Stand.of_body Bd
  have e0 : s₁.heap = h0 := by rw [← hh, Bd.state]; rfl
  have N0 := Fr.nil n0
  obtain ⟨F0, hF0⟩ : ∃ F, F = mkF m 0 #[.val (.ref o), .val (.int (1 : Int32)), .unset, .unset] [] := ⟨_, rfl⟩
  have pre0 : ∀ t, Steps p.tables e below (s₁.setTop F0) t → Steps p.tables e below (s₁.setTop (entryFrame m #[(.ref o), (.int (1 : Int32))] 4)) t := fun t k => castTop ((ef_rmT1 m o pa w f).trans hF0.symm) k
  have K0 : Rch p e below s₁ F0 s₁ (mkF m 0 #[.val (.ref o), .val (.int (1 : Int32)), .unset, .unset] []) := fun t k => castTop hF0 k
  have K1 : Rch p e below s₁ F0 s₁ (mkF m 15 #[sR o, sI 1, sI 1, sI 1] [(kR o), (kI 1)]) := fun t k => K0 t (by
    refine XS.iloadN X0.here hx rfl (hb hby d_tr_0) rfl ?_
    refine XS.i2l X0.here hx rfl (hb hby d_tr_1) rfl ?_
    refine X0.ldc2Long hx hown (mvT hZ (hw _ (mi 30 rfl))) (g := (mkF m 2 #[sR o, sI 1, sU, sU] [(kJ 1)])) rfl (hb hby d_tr_2) _ ?_
    refine XS.ladd X0.here hx rfl (hb hby d_tr_5) rfl ?_
    refine XS.bipush X0.here hx rfl (hb hby d_tr_6) ?_
    refine XS.lushr X0.here hx rfl (hb hby d_tr_8) rfl ?_
    show Steps p.tables e below (s₁.setTop (mkF m 9 #[sR o, sI 1, sU, sU] [(kJ 1)])) _
    refine XS.l2i X0.here hx rfl (hb hby d_tr_9) rfl ?_
    refine XS.istoreN X0.here hx rfl (hb hby d_tr_10) rfl (l' := #[sR o, sI 1, sI 1, sU]) rfl ?_
    refine XS.iloadN X0.here hx rfl (hb hby d_tr_11) rfl ?_
    refine XS.istoreN X0.here hx rfl (hb hby d_tr_12) rfl (l' := #[sR o, sI 1, sI 1, sI 1]) rfl ?_
    refine XS.iloadN X0.here hx rfl (hb hby d_tr_13) rfl ?_
    refine XS.aloadN X0.here hx rfl (hb hby d_tr_14) rfl rfl ?_
    exact k)
  obtain ⟨T2, X2, e2, st2⟩ := getF X0 hx hZ hown (host := "") (Or.inl (hw _ (mi 12 rfl))) Via.refl e0 (W0.fld (i := 0) rfl (j := 0) rfl rfl) (g := K1.g) rfl rfl (hb hby d_tr_15)
  have K3 : Rch p e below s₁ F0 T2 (mkF m 23 #[sR o, sI 1, sI 1, sI 1] [(kR o)]) := fun t k => K1 t (st2 t (by
    refine lenW X2 hx hZ e2 W0 (i := 1) rfl (fun _ q => q.1) (z := (8 : Int32)) (by decide) (g := (mkF m 18 #[sR o, sI 1, sI 1, sI 1] [(kR pa), (kI 1)])) rfl rfl (hb hby d_tr_18) _ ?_
    refine XS.icmpNo X2.here hx rfl (hb hby d_tr_19) rfl (by decide) ?_
    refine XS.aloadN X2.here hx rfl (hb hby d_tr_22) rfl rfl ?_
    exact k))
  obtain ⟨T4, X4, e4, st4⟩ := getF X2 hx hZ hown (host := "") (Or.inl (hw _ (mi 12 rfl))) Via.refl e2 (W0.fld (i := 0) rfl (j := 0) rfl rfl) (g := K3.g) rfl rfl (hb hby d_tr_23)
  have K5 : Rch p e below s₁ F0 T4 (mkF m 28 #[sR o, sI 1, sI 1, sI 1] [.null, (kI 1), (kR pa)]) := fun t k => K3 t (st4 t (by
    refine XS.iloadN X4.here hx rfl (hb hby d_tr_26) rfl ?_
    refine XS.aconstNull X4.here hx rfl (hb hby d_tr_27) ?_
    exact k))
  obtain ⟨T6, h6, L6, X6, e6, N6, W6q, st6⟩ := aasW X4 hx hZ e4 W0 N0 (i := 1) (a := pa) rfl (j := (1 : Int32)) (k := 1) (by decide) (by decide) (by decide) (v := .null) rfl (Or.inl rfl) (g := K5.g) rfl rfl (hb hby d_tr_28)
  have W6 : Wo n0 h6 ((o, oPB Z [(kR pa), (kI w)]) :: (pa, Pg Z .byte 8 (upd f 1 .null)) :: Rr) := W6q
  have K7 : Rch p e below s₁ F0 T6 (mkF m 15 #[sR o, sI 1, sI 1, sI 2] [(kR o), (kI 2)]) := fun t k => K5 t (st6 t (by
    refine XS.iinc X6.here hx rfl (hb hby d_tr_29) rfl (l' := #[sR o, sI 1, sI 1, sI 2]) rfl ?_
    refine XS.goto X6.here hx rfl (pc0 := 32) (pc' := 13) rfl (hb hby d_tr_32) (by decide) (by decide) ?_
    refine XS.iloadN X6.here hx rfl (hb hby d_tr_13) rfl ?_
    refine XS.aloadN X6.here hx rfl (hb hby d_tr_14) rfl rfl ?_
    exact k))
  obtain ⟨T8, X8, e8, st8⟩ := getF X6 hx hZ hown (host := "") (Or.inl (hw _ (mi 12 rfl))) Via.refl e6 (W6.fld (i := 0) rfl (j := 0) rfl rfl) (g := K7.g) rfl rfl (hb hby d_tr_15)
  have K9 : Rch p e below s₁ F0 T8 (mkF m 23 #[sR o, sI 1, sI 1, sI 2] [(kR o)]) := fun t k => K7 t (st8 t (by
    refine lenW X8 hx hZ e8 W6 (i := 1) rfl (fun _ q => q.1) (z := (8 : Int32)) (by decide) (g := (mkF m 18 #[sR o, sI 1, sI 1, sI 2] [(kR pa), (kI 2)])) rfl rfl (hb hby d_tr_18) _ ?_
    refine XS.icmpNo X8.here hx rfl (hb hby d_tr_19) rfl (by decide) ?_
    refine XS.aloadN X8.here hx rfl (hb hby d_tr_22) rfl rfl ?_
    exact k))
  obtain ⟨T10, X10, e10, st10⟩ := getF X8 hx hZ hown (host := "") (Or.inl (hw _ (mi 12 rfl))) Via.refl e8 (W6.fld (i := 0) rfl (j := 0) rfl rfl) (g := K9.g) rfl rfl (hb hby d_tr_23)
  have K11 : Rch p e below s₁ F0 T10 (mkF m 28 #[sR o, sI 1, sI 1, sI 2] [.null, (kI 2), (kR pa)]) := fun t k => K9 t (st10 t (by
    refine XS.iloadN X10.here hx rfl (hb hby d_tr_26) rfl ?_
    refine XS.aconstNull X10.here hx rfl (hb hby d_tr_27) ?_
    exact k))
  obtain ⟨T12, h12, L12, X12, e12, N12, W12q, st12⟩ := aasW X10 hx hZ e10 W6 N6 (i := 1) (a := pa) rfl (j := (2 : Int32)) (k := 2) (by decide) (by decide) (by decide) (v := .null) rfl (Or.inl rfl) (g := K11.g) rfl rfl (hb hby d_tr_28)
  have W12 : Wo n0 h12 ((o, oPB Z [(kR pa), (kI w)]) :: (pa, Pg Z .byte 8 (upd (upd f 1 .null) 2 .null)) :: Rr) := W12q
  have K13 : Rch p e below s₁ F0 T12 (mkF m 15 #[sR o, sI 1, sI 1, sI 3] [(kR o), (kI 3)]) := fun t k => K11 t (st12 t (by
    refine XS.iinc X12.here hx rfl (hb hby d_tr_29) rfl (l' := #[sR o, sI 1, sI 1, sI 3]) rfl ?_
    refine XS.goto X12.here hx rfl (pc0 := 32) (pc' := 13) rfl (hb hby d_tr_32) (by decide) (by decide) ?_
    refine XS.iloadN X12.here hx rfl (hb hby d_tr_13) rfl ?_
    refine XS.aloadN X12.here hx rfl (hb hby d_tr_14) rfl rfl ?_
    exact k))
  obtain ⟨T14, X14, e14, st14⟩ := getF X12 hx hZ hown (host := "") (Or.inl (hw _ (mi 12 rfl))) Via.refl e12 (W12.fld (i := 0) rfl (j := 0) rfl rfl) (g := K13.g) rfl rfl (hb hby d_tr_15)
  have K15 : Rch p e below s₁ F0 T14 (mkF m 23 #[sR o, sI 1, sI 1, sI 3] [(kR o)]) := fun t k => K13 t (st14 t (by
    refine lenW X14 hx hZ e14 W12 (i := 1) rfl (fun _ q => q.1) (z := (8 : Int32)) (by decide) (g := (mkF m 18 #[sR o, sI 1, sI 1, sI 3] [(kR pa), (kI 3)])) rfl rfl (hb hby d_tr_18) _ ?_
    refine XS.icmpNo X14.here hx rfl (hb hby d_tr_19) rfl (by decide) ?_
    refine XS.aloadN X14.here hx rfl (hb hby d_tr_22) rfl rfl ?_
    exact k))
  obtain ⟨T16, X16, e16, st16⟩ := getF X14 hx hZ hown (host := "") (Or.inl (hw _ (mi 12 rfl))) Via.refl e14 (W12.fld (i := 0) rfl (j := 0) rfl rfl) (g := K15.g) rfl rfl (hb hby d_tr_23)
  have K17 : Rch p e below s₁ F0 T16 (mkF m 28 #[sR o, sI 1, sI 1, sI 3] [.null, (kI 3), (kR pa)]) := fun t k => K15 t (st16 t (by
    refine XS.iloadN X16.here hx rfl (hb hby d_tr_26) rfl ?_
    refine XS.aconstNull X16.here hx rfl (hb hby d_tr_27) ?_
    exact k))
  obtain ⟨T18, h18, L18, X18, e18, N18, W18q, st18⟩ := aasW X16 hx hZ e16 W12 N12 (i := 1) (a := pa) rfl (j := (3 : Int32)) (k := 3) (by decide) (by decide) (by decide) (v := .null) rfl (Or.inl rfl) (g := K17.g) rfl rfl (hb hby d_tr_28)
  have W18 : Wo n0 h18 ((o, oPB Z [(kR pa), (kI w)]) :: (pa, Pg Z .byte 8 (upd (upd (upd f 1 .null) 2 .null) 3 .null)) :: Rr) := W18q
  have K19 : Rch p e below s₁ F0 T18 (mkF m 15 #[sR o, sI 1, sI 1, sI 4] [(kR o), (kI 4)]) := fun t k => K17 t (st18 t (by
    refine XS.iinc X18.here hx rfl (hb hby d_tr_29) rfl (l' := #[sR o, sI 1, sI 1, sI 4]) rfl ?_
    refine XS.goto X18.here hx rfl (pc0 := 32) (pc' := 13) rfl (hb hby d_tr_32) (by decide) (by decide) ?_
    refine XS.iloadN X18.here hx rfl (hb hby d_tr_13) rfl ?_
    refine XS.aloadN X18.here hx rfl (hb hby d_tr_14) rfl rfl ?_
    exact k))
  obtain ⟨T20, X20, e20, st20⟩ := getF X18 hx hZ hown (host := "") (Or.inl (hw _ (mi 12 rfl))) Via.refl e18 (W18.fld (i := 0) rfl (j := 0) rfl rfl) (g := K19.g) rfl rfl (hb hby d_tr_15)
  have K21 : Rch p e below s₁ F0 T20 (mkF m 23 #[sR o, sI 1, sI 1, sI 4] [(kR o)]) := fun t k => K19 t (st20 t (by
    refine lenW X20 hx hZ e20 W18 (i := 1) rfl (fun _ q => q.1) (z := (8 : Int32)) (by decide) (g := (mkF m 18 #[sR o, sI 1, sI 1, sI 4] [(kR pa), (kI 4)])) rfl rfl (hb hby d_tr_18) _ ?_
    refine XS.icmpNo X20.here hx rfl (hb hby d_tr_19) rfl (by decide) ?_
    refine XS.aloadN X20.here hx rfl (hb hby d_tr_22) rfl rfl ?_
    exact k))
  obtain ⟨T22, X22, e22, st22⟩ := getF X20 hx hZ hown (host := "") (Or.inl (hw _ (mi 12 rfl))) Via.refl e20 (W18.fld (i := 0) rfl (j := 0) rfl rfl) (g := K21.g) rfl rfl (hb hby d_tr_23)
  have K23 : Rch p e below s₁ F0 T22 (mkF m 28 #[sR o, sI 1, sI 1, sI 4] [.null, (kI 4), (kR pa)]) := fun t k => K21 t (st22 t (by
    refine XS.iloadN X22.here hx rfl (hb hby d_tr_26) rfl ?_
    refine XS.aconstNull X22.here hx rfl (hb hby d_tr_27) ?_
    exact k))
  obtain ⟨T24, h24, L24, X24, e24, N24, W24q, st24⟩ := aasW X22 hx hZ e22 W18 N18 (i := 1) (a := pa) rfl (j := (4 : Int32)) (k := 4) (by decide) (by decide) (by decide) (v := .null) rfl (Or.inl rfl) (g := K23.g) rfl rfl (hb hby d_tr_28)
  have W24 : Wo n0 h24 ((o, oPB Z [(kR pa), (kI w)]) :: (pa, Pg Z .byte 8 (upd (upd (upd (upd f 1 .null) 2 .null) 3 .null) 4 .null)) :: Rr) := W24q
  have K25 : Rch p e below s₁ F0 T24 (mkF m 15 #[sR o, sI 1, sI 1, sI 5] [(kR o), (kI 5)]) := fun t k => K23 t (st24 t (by
    refine XS.iinc X24.here hx rfl (hb hby d_tr_29) rfl (l' := #[sR o, sI 1, sI 1, sI 5]) rfl ?_
    refine XS.goto X24.here hx rfl (pc0 := 32) (pc' := 13) rfl (hb hby d_tr_32) (by decide) (by decide) ?_
    refine XS.iloadN X24.here hx rfl (hb hby d_tr_13) rfl ?_
    refine XS.aloadN X24.here hx rfl (hb hby d_tr_14) rfl rfl ?_
    exact k))
  obtain ⟨T26, X26, e26, st26⟩ := getF X24 hx hZ hown (host := "") (Or.inl (hw _ (mi 12 rfl))) Via.refl e24 (W24.fld (i := 0) rfl (j := 0) rfl rfl) (g := K25.g) rfl rfl (hb hby d_tr_15)
  have K27 : Rch p e below s₁ F0 T26 (mkF m 23 #[sR o, sI 1, sI 1, sI 5] [(kR o)]) := fun t k => K25 t (st26 t (by
    refine lenW X26 hx hZ e26 W24 (i := 1) rfl (fun _ q => q.1) (z := (8 : Int32)) (by decide) (g := (mkF m 18 #[sR o, sI 1, sI 1, sI 5] [(kR pa), (kI 5)])) rfl rfl (hb hby d_tr_18) _ ?_
    refine XS.icmpNo X26.here hx rfl (hb hby d_tr_19) rfl (by decide) ?_
    refine XS.aloadN X26.here hx rfl (hb hby d_tr_22) rfl rfl ?_
    exact k))
  obtain ⟨T28, X28, e28, st28⟩ := getF X26 hx hZ hown (host := "") (Or.inl (hw _ (mi 12 rfl))) Via.refl e26 (W24.fld (i := 0) rfl (j := 0) rfl rfl) (g := K27.g) rfl rfl (hb hby d_tr_23)
  have K29 : Rch p e below s₁ F0 T28 (mkF m 28 #[sR o, sI 1, sI 1, sI 5] [.null, (kI 5), (kR pa)]) := fun t k => K27 t (st28 t (by
    refine XS.iloadN X28.here hx rfl (hb hby d_tr_26) rfl ?_
    refine XS.aconstNull X28.here hx rfl (hb hby d_tr_27) ?_
    exact k))
  obtain ⟨T30, h30, L30, X30, e30, N30, W30q, st30⟩ := aasW X28 hx hZ e28 W24 N24 (i := 1) (a := pa) rfl (j := (5 : Int32)) (k := 5) (by decide) (by decide) (by decide) (v := .null) rfl (Or.inl rfl) (g := K29.g) rfl rfl (hb hby d_tr_28)
  have W30 : Wo n0 h30 ((o, oPB Z [(kR pa), (kI w)]) :: (pa, Pg Z .byte 8 (upd (upd (upd (upd (upd f 1 .null) 2 .null) 3 .null) 4 .null) 5 .null)) :: Rr) := W30q
  have K31 : Rch p e below s₁ F0 T30 (mkF m 15 #[sR o, sI 1, sI 1, sI 6] [(kR o), (kI 6)]) := fun t k => K29 t (st30 t (by
    refine XS.iinc X30.here hx rfl (hb hby d_tr_29) rfl (l' := #[sR o, sI 1, sI 1, sI 6]) rfl ?_
    refine XS.goto X30.here hx rfl (pc0 := 32) (pc' := 13) rfl (hb hby d_tr_32) (by decide) (by decide) ?_
    refine XS.iloadN X30.here hx rfl (hb hby d_tr_13) rfl ?_
    refine XS.aloadN X30.here hx rfl (hb hby d_tr_14) rfl rfl ?_
    exact k))
  obtain ⟨T32, X32, e32, st32⟩ := getF X30 hx hZ hown (host := "") (Or.inl (hw _ (mi 12 rfl))) Via.refl e30 (W30.fld (i := 0) rfl (j := 0) rfl rfl) (g := K31.g) rfl rfl (hb hby d_tr_15)
  have K33 : Rch p e below s₁ F0 T32 (mkF m 23 #[sR o, sI 1, sI 1, sI 6] [(kR o)]) := fun t k => K31 t (st32 t (by
    refine lenW X32 hx hZ e32 W30 (i := 1) rfl (fun _ q => q.1) (z := (8 : Int32)) (by decide) (g := (mkF m 18 #[sR o, sI 1, sI 1, sI 6] [(kR pa), (kI 6)])) rfl rfl (hb hby d_tr_18) _ ?_
    refine XS.icmpNo X32.here hx rfl (hb hby d_tr_19) rfl (by decide) ?_
    refine XS.aloadN X32.here hx rfl (hb hby d_tr_22) rfl rfl ?_
    exact k))
  obtain ⟨T34, X34, e34, st34⟩ := getF X32 hx hZ hown (host := "") (Or.inl (hw _ (mi 12 rfl))) Via.refl e32 (W30.fld (i := 0) rfl (j := 0) rfl rfl) (g := K33.g) rfl rfl (hb hby d_tr_23)
  have K35 : Rch p e below s₁ F0 T34 (mkF m 28 #[sR o, sI 1, sI 1, sI 6] [.null, (kI 6), (kR pa)]) := fun t k => K33 t (st34 t (by
    refine XS.iloadN X34.here hx rfl (hb hby d_tr_26) rfl ?_
    refine XS.aconstNull X34.here hx rfl (hb hby d_tr_27) ?_
    exact k))
  obtain ⟨T36, h36, L36, X36, e36, N36, W36q, st36⟩ := aasW X34 hx hZ e34 W30 N30 (i := 1) (a := pa) rfl (j := (6 : Int32)) (k := 6) (by decide) (by decide) (by decide) (v := .null) rfl (Or.inl rfl) (g := K35.g) rfl rfl (hb hby d_tr_28)
  have W36 : Wo n0 h36 ((o, oPB Z [(kR pa), (kI w)]) :: (pa, Pg Z .byte 8 (upd (upd (upd (upd (upd (upd f 1 .null) 2 .null) 3 .null) 4 .null) 5 .null) 6 .null)) :: Rr) := W36q
  have K37 : Rch p e below s₁ F0 T36 (mkF m 15 #[sR o, sI 1, sI 1, sI 7] [(kR o), (kI 7)]) := fun t k => K35 t (st36 t (by
    refine XS.iinc X36.here hx rfl (hb hby d_tr_29) rfl (l' := #[sR o, sI 1, sI 1, sI 7]) rfl ?_
    refine XS.goto X36.here hx rfl (pc0 := 32) (pc' := 13) rfl (hb hby d_tr_32) (by decide) (by decide) ?_
    refine XS.iloadN X36.here hx rfl (hb hby d_tr_13) rfl ?_
    refine XS.aloadN X36.here hx rfl (hb hby d_tr_14) rfl rfl ?_
    exact k))
  obtain ⟨T38, X38, e38, st38⟩ := getF X36 hx hZ hown (host := "") (Or.inl (hw _ (mi 12 rfl))) Via.refl e36 (W36.fld (i := 0) rfl (j := 0) rfl rfl) (g := K37.g) rfl rfl (hb hby d_tr_15)
  have K39 : Rch p e below s₁ F0 T38 (mkF m 23 #[sR o, sI 1, sI 1, sI 7] [(kR o)]) := fun t k => K37 t (st38 t (by
    refine lenW X38 hx hZ e38 W36 (i := 1) rfl (fun _ q => q.1) (z := (8 : Int32)) (by decide) (g := (mkF m 18 #[sR o, sI 1, sI 1, sI 7] [(kR pa), (kI 7)])) rfl rfl (hb hby d_tr_18) _ ?_
    refine XS.icmpNo X38.here hx rfl (hb hby d_tr_19) rfl (by decide) ?_
    refine XS.aloadN X38.here hx rfl (hb hby d_tr_22) rfl rfl ?_
    exact k))
  obtain ⟨T40, X40, e40, st40⟩ := getF X38 hx hZ hown (host := "") (Or.inl (hw _ (mi 12 rfl))) Via.refl e38 (W36.fld (i := 0) rfl (j := 0) rfl rfl) (g := K39.g) rfl rfl (hb hby d_tr_23)
  have K41 : Rch p e below s₁ F0 T40 (mkF m 28 #[sR o, sI 1, sI 1, sI 7] [.null, (kI 7), (kR pa)]) := fun t k => K39 t (st40 t (by
    refine XS.iloadN X40.here hx rfl (hb hby d_tr_26) rfl ?_
    refine XS.aconstNull X40.here hx rfl (hb hby d_tr_27) ?_
    exact k))
  obtain ⟨T42, h42, L42, X42, e42, N42, W42q, st42⟩ := aasW X40 hx hZ e40 W36 N36 (i := 1) (a := pa) rfl (j := (7 : Int32)) (k := 7) (by decide) (by decide) (by decide) (v := .null) rfl (Or.inl rfl) (g := K41.g) rfl rfl (hb hby d_tr_28)
  have W42 : Wo n0 h42 ((o, oPB Z [(kR pa), (kI w)]) :: (pa, Pg Z .byte 8 (upd (upd (upd (upd (upd (upd (upd f 1 .null) 2 .null) 3 .null) 4 .null) 5 .null) 6 .null) 7 .null)) :: Rr) := W42q
  have K43 : Rch p e below s₁ F0 T42 (mkF m 15 #[sR o, sI 1, sI 1, sI 8] [(kR o), (kI 8)]) := fun t k => K41 t (st42 t (by
    refine XS.iinc X42.here hx rfl (hb hby d_tr_29) rfl (l' := #[sR o, sI 1, sI 1, sI 8]) rfl ?_
    refine XS.goto X42.here hx rfl (pc0 := 32) (pc' := 13) rfl (hb hby d_tr_32) (by decide) (by decide) ?_
    refine XS.iloadN X42.here hx rfl (hb hby d_tr_13) rfl ?_
    refine XS.aloadN X42.here hx rfl (hb hby d_tr_14) rfl rfl ?_
    exact k))
  obtain ⟨T44, X44, e44, st44⟩ := getF X42 hx hZ hown (host := "") (Or.inl (hw _ (mi 12 rfl))) Via.refl e42 (W42.fld (i := 0) rfl (j := 0) rfl rfl) (g := K43.g) rfl rfl (hb hby d_tr_15)
  have K45 : Rch p e below s₁ F0 T44 (mkF m 37 #[sR o, sI 1, sI 1, sI 8] [(kI 1), (kR o)]) := fun t k => K43 t (st44 t (by
    refine lenW X44 hx hZ e44 W42 (i := 1) rfl (fun _ q => q.1) (z := (8 : Int32)) (by decide) (g := (mkF m 18 #[sR o, sI 1, sI 1, sI 8] [(kR pa), (kI 8)])) rfl rfl (hb hby d_tr_18) _ ?_
    refine XS.icmpYes X44.here hx rfl (pc0 := 19) (pc' := 35) rfl (hb hby d_tr_19) rfl (by decide) (by decide) (by decide) ?_
    refine XS.aloadN X44.here hx rfl (hb hby d_tr_35) rfl rfl ?_
    refine XS.iloadN X44.here hx rfl (hb hby d_tr_36) rfl ?_
    exact k))
  obtain ⟨T46, h46, L46, X46, e46, N46, W46q, st46⟩ := putW X44 hx hZ hown (host := "") (Or.inl (hw _ (mi 19 rfl))) e44 W42 N42 (own_dPB hw) (Or.inl (hw _ (mi 20 rfl))) (hw _ (mi 2 rfl)) (ty := .int) (by decide +kernel) (i := 0) (a := o) rfl (j := 1) rfl rfl (v := (.int (1 : Int32))) rfl rfl (g := K45.g) rfl rfl (hb hby d_tr_37)
  have W46 : Wo n0 h46 ((o, oPB Z [(kR pa), (kI 1)]) :: (pa, Pg Z .byte 8 (upd (upd (upd (upd (upd (upd (upd f 1 .null) 2 .null) 3 .null) 4 .null) 5 .null) 6 .null) 7 .null)) :: Rr) := W46q
  have K47 : Rch p e below s₁ F0 T46 (mkF m 40 #[sR o, sI 1, sI 1, sI 8] []) := fun t k => K45 t (st46 t (k))
  obtain ⟨fs, hr, hrun, hended, hWm, hsame⟩ := X46.leave (v := none) (fun _ => rfl)
  refine ⟨_, _, pre0 _ (K47 _ (X46.returnOut hx Bd.returns (hb hby d_tr_40) hr)), hrun, hended, _, _, rfl, ?_, ⟨_, rfl⟩, hWm, hsame.mono (by decide) (by decide)⟩
  show QrmT1 Z o pa w f Rr n0 _ T46.heap _
  rw [e46]
  exact ⟨rfl, N46, W46⟩
theorem ef_rmT2 (m : MethodId) (o pa : Addr) (w : Int32) (f : Nat → Value) : entryFrame m #[(.ref o), (.int (2 : Int32))] 4 = mkF m 0 #[.val (.ref o), .val (.int (2 : Int32)), .unset, .unset] [] := by first | (simp [entryFrame, mkF, argsToLocals, Value.category]; done) | rfl
def QrmT2 (Z : State) (o pa : Addr) (w : Int32) (f : Nat → Value) (Rr : List (Addr × (Cell → Prop))) (n0 : Nat) (v : Option Value) (h : Heap) (L : List Loc) : Prop := v = none ∧ Fr n0 L ∧ Wo n0 h ((o, Ob Z "com/example/attribute_checker/attributechecker/checker/PagedBytes" nsPB [.ref pa, .int 2]) :: (pa, Pg Z .byte 8 (upd (upd (upd (upd (upd (upd (upd f 1 .null) 2 .null) 3 .null) 4 .null) 5 .null) 6 .null) 7 .null)) :: Rr)
set_option maxRecDepth 65536 in
set_option maxHeartbeats 40000000 in
theorem rmT2 (l : Launch) (Z : State) (a0 : Array Value) (hw : ∀ d ∈ tables_1, d.before a0 Z = true) (ws : List Jvm.Cond) (o pa : Addr) (w : Int32) (f : Nat → Value) (Rr : List (Addr × (Cell → Prop))) (h0 : Heap) (n0 : Nat) (W0 : Wo n0 h0 ((o, oPB Z [(kR pa), (kI w)]) :: (pa, Pg Z .byte 8 f) :: Rr)) :
    MetFree l (⟨"com/example/attribute_checker/attributechecker/checker/PagedBytes", "truncate", "(I)V"⟩ : MethodName) (head1 (Jvm.Cond.code (⟨"com/example/attribute_checker/attributechecker/checker/PagedBytes", "truncate", "(I)V"⟩ : MethodName) prog_13_method_10_code 4 none :: ws) ({ frames := 0, cells := 0, slots := 0, locals := 0 } : Room)) (fun a U => a = #[(.ref o), (.int (2 : Int32))] ∧ Z.Warmed39 U.vm ∧ U.heap = h0) (fun _ _ _ _ _ => True) (fun _ U ou U' => ∃ v L, ou = .returned v ∧ QrmT2 Z o pa w f Rr n0 v U'.heap L ∧ FrameEnd U ou U' L ({ frames := 0, cells := 0, slots := 0, locals := 0 } : Room).cells ({ frames := 0, cells := 0, slots := 0, locals := 0 } : Room).slots) := by
  refine MetFree.of_bodySF (plainFor_of_name pn_PagedBytes) hisR ?_
  intro p e s m args below meth c s₁ Bd hml0 hP hK
  obtain ⟨rfl, hZ, hh⟩ := hP
  have hx := Bd.exec
  have hby := Bd.bytes
  have hml : c.maxLocals = 4 := hml0
  have hown : s.vm.findClass "com/example/attribute_checker/attributechecker/checker/PagedBytes" = some m.cls := findClass_of_methodNamed Bd.named
  have hnm := (name_of_methodNamed Bd.named Bd.method).1
  have X0 : Stand p l e ({ frames := 0, cells := 0, slots := 0, locals := 0 } : Room) s m #[(.ref o), (.int (2 : Int32))] below meth c s₁ [] 0 0 := Stand.of_body Bd
  have e0 : s₁.heap = h0 := by rw [← hh, Bd.state]; rfl
  have N0 := Fr.nil n0
  obtain ⟨F0, hF0⟩ : ∃ F, F = mkF m 0 #[.val (.ref o), .val (.int (2 : Int32)), .unset, .unset] [] := ⟨_, rfl⟩
  have pre0 : ∀ t, Steps p.tables e below (s₁.setTop F0) t → Steps p.tables e below (s₁.setTop (entryFrame m #[(.ref o), (.int (2 : Int32))] 4)) t := fun t k => castTop ((ef_rmT2 m o pa w f).trans hF0.symm) k
  have K0 : Rch p e below s₁ F0 s₁ (mkF m 0 #[.val (.ref o), .val (.int (2 : Int32)), .unset, .unset] []) := fun t k => castTop hF0 k
  have K1 : Rch p e below s₁ F0 s₁ (mkF m 15 #[sR o, sI 2, sI 1, sI 1] [(kR o), (kI 1)]) := fun t k => K0 t (by
    refine XS.iloadN X0.here hx rfl (hb hby d_tr_0) rfl ?_
    refine XS.i2l X0.here hx rfl (hb hby d_tr_1) rfl ?_
    refine X0.ldc2Long hx hown (mvT hZ (hw _ (mi 30 rfl))) (g := (mkF m 2 #[sR o, sI 2, sU, sU] [(kJ 2)])) rfl (hb hby d_tr_2) _ ?_
    refine XS.ladd X0.here hx rfl (hb hby d_tr_5) rfl ?_
    refine XS.bipush X0.here hx rfl (hb hby d_tr_6) ?_
    refine XS.lushr X0.here hx rfl (hb hby d_tr_8) rfl ?_
    show Steps p.tables e below (s₁.setTop (mkF m 9 #[sR o, sI 2, sU, sU] [(kJ 1)])) _
    refine XS.l2i X0.here hx rfl (hb hby d_tr_9) rfl ?_
    refine XS.istoreN X0.here hx rfl (hb hby d_tr_10) rfl (l' := #[sR o, sI 2, sI 1, sU]) rfl ?_
    refine XS.iloadN X0.here hx rfl (hb hby d_tr_11) rfl ?_
    refine XS.istoreN X0.here hx rfl (hb hby d_tr_12) rfl (l' := #[sR o, sI 2, sI 1, sI 1]) rfl ?_
    refine XS.iloadN X0.here hx rfl (hb hby d_tr_13) rfl ?_
    refine XS.aloadN X0.here hx rfl (hb hby d_tr_14) rfl rfl ?_
    exact k)
  obtain ⟨T2, X2, e2, st2⟩ := getF X0 hx hZ hown (host := "") (Or.inl (hw _ (mi 12 rfl))) Via.refl e0 (W0.fld (i := 0) rfl (j := 0) rfl rfl) (g := K1.g) rfl rfl (hb hby d_tr_15)
  have K3 : Rch p e below s₁ F0 T2 (mkF m 23 #[sR o, sI 2, sI 1, sI 1] [(kR o)]) := fun t k => K1 t (st2 t (by
    refine lenW X2 hx hZ e2 W0 (i := 1) rfl (fun _ q => q.1) (z := (8 : Int32)) (by decide) (g := (mkF m 18 #[sR o, sI 2, sI 1, sI 1] [(kR pa), (kI 1)])) rfl rfl (hb hby d_tr_18) _ ?_
    refine XS.icmpNo X2.here hx rfl (hb hby d_tr_19) rfl (by decide) ?_
    refine XS.aloadN X2.here hx rfl (hb hby d_tr_22) rfl rfl ?_
    exact k))
  obtain ⟨T4, X4, e4, st4⟩ := getF X2 hx hZ hown (host := "") (Or.inl (hw _ (mi 12 rfl))) Via.refl e2 (W0.fld (i := 0) rfl (j := 0) rfl rfl) (g := K3.g) rfl rfl (hb hby d_tr_23)
  have K5 : Rch p e below s₁ F0 T4 (mkF m 28 #[sR o, sI 2, sI 1, sI 1] [.null, (kI 1), (kR pa)]) := fun t k => K3 t (st4 t (by
    refine XS.iloadN X4.here hx rfl (hb hby d_tr_26) rfl ?_
    refine XS.aconstNull X4.here hx rfl (hb hby d_tr_27) ?_
    exact k))
  obtain ⟨T6, h6, L6, X6, e6, N6, W6q, st6⟩ := aasW X4 hx hZ e4 W0 N0 (i := 1) (a := pa) rfl (j := (1 : Int32)) (k := 1) (by decide) (by decide) (by decide) (v := .null) rfl (Or.inl rfl) (g := K5.g) rfl rfl (hb hby d_tr_28)
  have W6 : Wo n0 h6 ((o, oPB Z [(kR pa), (kI w)]) :: (pa, Pg Z .byte 8 (upd f 1 .null)) :: Rr) := W6q
  have K7 : Rch p e below s₁ F0 T6 (mkF m 15 #[sR o, sI 2, sI 1, sI 2] [(kR o), (kI 2)]) := fun t k => K5 t (st6 t (by
    refine XS.iinc X6.here hx rfl (hb hby d_tr_29) rfl (l' := #[sR o, sI 2, sI 1, sI 2]) rfl ?_
    refine XS.goto X6.here hx rfl (pc0 := 32) (pc' := 13) rfl (hb hby d_tr_32) (by decide) (by decide) ?_
    refine XS.iloadN X6.here hx rfl (hb hby d_tr_13) rfl ?_
    refine XS.aloadN X6.here hx rfl (hb hby d_tr_14) rfl rfl ?_
    exact k))
  obtain ⟨T8, X8, e8, st8⟩ := getF X6 hx hZ hown (host := "") (Or.inl (hw _ (mi 12 rfl))) Via.refl e6 (W6.fld (i := 0) rfl (j := 0) rfl rfl) (g := K7.g) rfl rfl (hb hby d_tr_15)
  have K9 : Rch p e below s₁ F0 T8 (mkF m 23 #[sR o, sI 2, sI 1, sI 2] [(kR o)]) := fun t k => K7 t (st8 t (by
    refine lenW X8 hx hZ e8 W6 (i := 1) rfl (fun _ q => q.1) (z := (8 : Int32)) (by decide) (g := (mkF m 18 #[sR o, sI 2, sI 1, sI 2] [(kR pa), (kI 2)])) rfl rfl (hb hby d_tr_18) _ ?_
    refine XS.icmpNo X8.here hx rfl (hb hby d_tr_19) rfl (by decide) ?_
    refine XS.aloadN X8.here hx rfl (hb hby d_tr_22) rfl rfl ?_
    exact k))
  obtain ⟨T10, X10, e10, st10⟩ := getF X8 hx hZ hown (host := "") (Or.inl (hw _ (mi 12 rfl))) Via.refl e8 (W6.fld (i := 0) rfl (j := 0) rfl rfl) (g := K9.g) rfl rfl (hb hby d_tr_23)
  have K11 : Rch p e below s₁ F0 T10 (mkF m 28 #[sR o, sI 2, sI 1, sI 2] [.null, (kI 2), (kR pa)]) := fun t k => K9 t (st10 t (by
    refine XS.iloadN X10.here hx rfl (hb hby d_tr_26) rfl ?_
    refine XS.aconstNull X10.here hx rfl (hb hby d_tr_27) ?_
    exact k))
  obtain ⟨T12, h12, L12, X12, e12, N12, W12q, st12⟩ := aasW X10 hx hZ e10 W6 N6 (i := 1) (a := pa) rfl (j := (2 : Int32)) (k := 2) (by decide) (by decide) (by decide) (v := .null) rfl (Or.inl rfl) (g := K11.g) rfl rfl (hb hby d_tr_28)
  have W12 : Wo n0 h12 ((o, oPB Z [(kR pa), (kI w)]) :: (pa, Pg Z .byte 8 (upd (upd f 1 .null) 2 .null)) :: Rr) := W12q
  have K13 : Rch p e below s₁ F0 T12 (mkF m 15 #[sR o, sI 2, sI 1, sI 3] [(kR o), (kI 3)]) := fun t k => K11 t (st12 t (by
    refine XS.iinc X12.here hx rfl (hb hby d_tr_29) rfl (l' := #[sR o, sI 2, sI 1, sI 3]) rfl ?_
    refine XS.goto X12.here hx rfl (pc0 := 32) (pc' := 13) rfl (hb hby d_tr_32) (by decide) (by decide) ?_
    refine XS.iloadN X12.here hx rfl (hb hby d_tr_13) rfl ?_
    refine XS.aloadN X12.here hx rfl (hb hby d_tr_14) rfl rfl ?_
    exact k))
  obtain ⟨T14, X14, e14, st14⟩ := getF X12 hx hZ hown (host := "") (Or.inl (hw _ (mi 12 rfl))) Via.refl e12 (W12.fld (i := 0) rfl (j := 0) rfl rfl) (g := K13.g) rfl rfl (hb hby d_tr_15)
  have K15 : Rch p e below s₁ F0 T14 (mkF m 23 #[sR o, sI 2, sI 1, sI 3] [(kR o)]) := fun t k => K13 t (st14 t (by
    refine lenW X14 hx hZ e14 W12 (i := 1) rfl (fun _ q => q.1) (z := (8 : Int32)) (by decide) (g := (mkF m 18 #[sR o, sI 2, sI 1, sI 3] [(kR pa), (kI 3)])) rfl rfl (hb hby d_tr_18) _ ?_
    refine XS.icmpNo X14.here hx rfl (hb hby d_tr_19) rfl (by decide) ?_
    refine XS.aloadN X14.here hx rfl (hb hby d_tr_22) rfl rfl ?_
    exact k))
  obtain ⟨T16, X16, e16, st16⟩ := getF X14 hx hZ hown (host := "") (Or.inl (hw _ (mi 12 rfl))) Via.refl e14 (W12.fld (i := 0) rfl (j := 0) rfl rfl) (g := K15.g) rfl rfl (hb hby d_tr_23)
  have K17 : Rch p e below s₁ F0 T16 (mkF m 28 #[sR o, sI 2, sI 1, sI 3] [.null, (kI 3), (kR pa)]) := fun t k => K15 t (st16 t (by
    refine XS.iloadN X16.here hx rfl (hb hby d_tr_26) rfl ?_
    refine XS.aconstNull X16.here hx rfl (hb hby d_tr_27) ?_
    exact k))
  obtain ⟨T18, h18, L18, X18, e18, N18, W18q, st18⟩ := aasW X16 hx hZ e16 W12 N12 (i := 1) (a := pa) rfl (j := (3 : Int32)) (k := 3) (by decide) (by decide) (by decide) (v := .null) rfl (Or.inl rfl) (g := K17.g) rfl rfl (hb hby d_tr_28)
  have W18 : Wo n0 h18 ((o, oPB Z [(kR pa), (kI w)]) :: (pa, Pg Z .byte 8 (upd (upd (upd f 1 .null) 2 .null) 3 .null)) :: Rr) := W18q
  have K19 : Rch p e below s₁ F0 T18 (mkF m 15 #[sR o, sI 2, sI 1, sI 4] [(kR o), (kI 4)]) := fun t k => K17 t (st18 t (by
    refine XS.iinc X18.here hx rfl (hb hby d_tr_29) rfl (l' := #[sR o, sI 2, sI 1, sI 4]) rfl ?_
    refine XS.goto X18.here hx rfl (pc0 := 32) (pc' := 13) rfl (hb hby d_tr_32) (by decide) (by decide) ?_
    refine XS.iloadN X18.here hx rfl (hb hby d_tr_13) rfl ?_
    refine XS.aloadN X18.here hx rfl (hb hby d_tr_14) rfl rfl ?_
    exact k))
  obtain ⟨T20, X20, e20, st20⟩ := getF X18 hx hZ hown (host := "") (Or.inl (hw _ (mi 12 rfl))) Via.refl e18 (W18.fld (i := 0) rfl (j := 0) rfl rfl) (g := K19.g) rfl rfl (hb hby d_tr_15)
  have K21 : Rch p e below s₁ F0 T20 (mkF m 23 #[sR o, sI 2, sI 1, sI 4] [(kR o)]) := fun t k => K19 t (st20 t (by
    refine lenW X20 hx hZ e20 W18 (i := 1) rfl (fun _ q => q.1) (z := (8 : Int32)) (by decide) (g := (mkF m 18 #[sR o, sI 2, sI 1, sI 4] [(kR pa), (kI 4)])) rfl rfl (hb hby d_tr_18) _ ?_
    refine XS.icmpNo X20.here hx rfl (hb hby d_tr_19) rfl (by decide) ?_
    refine XS.aloadN X20.here hx rfl (hb hby d_tr_22) rfl rfl ?_
    exact k))
  obtain ⟨T22, X22, e22, st22⟩ := getF X20 hx hZ hown (host := "") (Or.inl (hw _ (mi 12 rfl))) Via.refl e20 (W18.fld (i := 0) rfl (j := 0) rfl rfl) (g := K21.g) rfl rfl (hb hby d_tr_23)
  have K23 : Rch p e below s₁ F0 T22 (mkF m 28 #[sR o, sI 2, sI 1, sI 4] [.null, (kI 4), (kR pa)]) := fun t k => K21 t (st22 t (by
    refine XS.iloadN X22.here hx rfl (hb hby d_tr_26) rfl ?_
    refine XS.aconstNull X22.here hx rfl (hb hby d_tr_27) ?_
    exact k))
  obtain ⟨T24, h24, L24, X24, e24, N24, W24q, st24⟩ := aasW X22 hx hZ e22 W18 N18 (i := 1) (a := pa) rfl (j := (4 : Int32)) (k := 4) (by decide) (by decide) (by decide) (v := .null) rfl (Or.inl rfl) (g := K23.g) rfl rfl (hb hby d_tr_28)
  have W24 : Wo n0 h24 ((o, oPB Z [(kR pa), (kI w)]) :: (pa, Pg Z .byte 8 (upd (upd (upd (upd f 1 .null) 2 .null) 3 .null) 4 .null)) :: Rr) := W24q
  have K25 : Rch p e below s₁ F0 T24 (mkF m 15 #[sR o, sI 2, sI 1, sI 5] [(kR o), (kI 5)]) := fun t k => K23 t (st24 t (by
    refine XS.iinc X24.here hx rfl (hb hby d_tr_29) rfl (l' := #[sR o, sI 2, sI 1, sI 5]) rfl ?_
    refine XS.goto X24.here hx rfl (pc0 := 32) (pc' := 13) rfl (hb hby d_tr_32) (by decide) (by decide) ?_
    refine XS.iloadN X24.here hx rfl (hb hby d_tr_13) rfl ?_
    refine XS.aloadN X24.here hx rfl (hb hby d_tr_14) rfl rfl ?_
    exact k))
  obtain ⟨T26, X26, e26, st26⟩ := getF X24 hx hZ hown (host := "") (Or.inl (hw _ (mi 12 rfl))) Via.refl e24 (W24.fld (i := 0) rfl (j := 0) rfl rfl) (g := K25.g) rfl rfl (hb hby d_tr_15)
  have K27 : Rch p e below s₁ F0 T26 (mkF m 23 #[sR o, sI 2, sI 1, sI 5] [(kR o)]) := fun t k => K25 t (st26 t (by
    refine lenW X26 hx hZ e26 W24 (i := 1) rfl (fun _ q => q.1) (z := (8 : Int32)) (by decide) (g := (mkF m 18 #[sR o, sI 2, sI 1, sI 5] [(kR pa), (kI 5)])) rfl rfl (hb hby d_tr_18) _ ?_
    refine XS.icmpNo X26.here hx rfl (hb hby d_tr_19) rfl (by decide) ?_
    refine XS.aloadN X26.here hx rfl (hb hby d_tr_22) rfl rfl ?_
    exact k))
  obtain ⟨T28, X28, e28, st28⟩ := getF X26 hx hZ hown (host := "") (Or.inl (hw _ (mi 12 rfl))) Via.refl e26 (W24.fld (i := 0) rfl (j := 0) rfl rfl) (g := K27.g) rfl rfl (hb hby d_tr_23)
  have K29 : Rch p e below s₁ F0 T28 (mkF m 28 #[sR o, sI 2, sI 1, sI 5] [.null, (kI 5), (kR pa)]) := fun t k => K27 t (st28 t (by
    refine XS.iloadN X28.here hx rfl (hb hby d_tr_26) rfl ?_
    refine XS.aconstNull X28.here hx rfl (hb hby d_tr_27) ?_
    exact k))
  obtain ⟨T30, h30, L30, X30, e30, N30, W30q, st30⟩ := aasW X28 hx hZ e28 W24 N24 (i := 1) (a := pa) rfl (j := (5 : Int32)) (k := 5) (by decide) (by decide) (by decide) (v := .null) rfl (Or.inl rfl) (g := K29.g) rfl rfl (hb hby d_tr_28)
  have W30 : Wo n0 h30 ((o, oPB Z [(kR pa), (kI w)]) :: (pa, Pg Z .byte 8 (upd (upd (upd (upd (upd f 1 .null) 2 .null) 3 .null) 4 .null) 5 .null)) :: Rr) := W30q
  have K31 : Rch p e below s₁ F0 T30 (mkF m 15 #[sR o, sI 2, sI 1, sI 6] [(kR o), (kI 6)]) := fun t k => K29 t (st30 t (by
    refine XS.iinc X30.here hx rfl (hb hby d_tr_29) rfl (l' := #[sR o, sI 2, sI 1, sI 6]) rfl ?_
    refine XS.goto X30.here hx rfl (pc0 := 32) (pc' := 13) rfl (hb hby d_tr_32) (by decide) (by decide) ?_
    refine XS.iloadN X30.here hx rfl (hb hby d_tr_13) rfl ?_
    refine XS.aloadN X30.here hx rfl (hb hby d_tr_14) rfl rfl ?_
    exact k))
  obtain ⟨T32, X32, e32, st32⟩ := getF X30 hx hZ hown (host := "") (Or.inl (hw _ (mi 12 rfl))) Via.refl e30 (W30.fld (i := 0) rfl (j := 0) rfl rfl) (g := K31.g) rfl rfl (hb hby d_tr_15)
  have K33 : Rch p e below s₁ F0 T32 (mkF m 23 #[sR o, sI 2, sI 1, sI 6] [(kR o)]) := fun t k => K31 t (st32 t (by
    refine lenW X32 hx hZ e32 W30 (i := 1) rfl (fun _ q => q.1) (z := (8 : Int32)) (by decide) (g := (mkF m 18 #[sR o, sI 2, sI 1, sI 6] [(kR pa), (kI 6)])) rfl rfl (hb hby d_tr_18) _ ?_
    refine XS.icmpNo X32.here hx rfl (hb hby d_tr_19) rfl (by decide) ?_
    refine XS.aloadN X32.here hx rfl (hb hby d_tr_22) rfl rfl ?_
    exact k))
  obtain ⟨T34, X34, e34, st34⟩ := getF X32 hx hZ hown (host := "") (Or.inl (hw _ (mi 12 rfl))) Via.refl e32 (W30.fld (i := 0) rfl (j := 0) rfl rfl) (g := K33.g) rfl rfl (hb hby d_tr_23)
  have K35 : Rch p e below s₁ F0 T34 (mkF m 28 #[sR o, sI 2, sI 1, sI 6] [.null, (kI 6), (kR pa)]) := fun t k => K33 t (st34 t (by
    refine XS.iloadN X34.here hx rfl (hb hby d_tr_26) rfl ?_
    refine XS.aconstNull X34.here hx rfl (hb hby d_tr_27) ?_
    exact k))
  obtain ⟨T36, h36, L36, X36, e36, N36, W36q, st36⟩ := aasW X34 hx hZ e34 W30 N30 (i := 1) (a := pa) rfl (j := (6 : Int32)) (k := 6) (by decide) (by decide) (by decide) (v := .null) rfl (Or.inl rfl) (g := K35.g) rfl rfl (hb hby d_tr_28)
  have W36 : Wo n0 h36 ((o, oPB Z [(kR pa), (kI w)]) :: (pa, Pg Z .byte 8 (upd (upd (upd (upd (upd (upd f 1 .null) 2 .null) 3 .null) 4 .null) 5 .null) 6 .null)) :: Rr) := W36q
  have K37 : Rch p e below s₁ F0 T36 (mkF m 15 #[sR o, sI 2, sI 1, sI 7] [(kR o), (kI 7)]) := fun t k => K35 t (st36 t (by
    refine XS.iinc X36.here hx rfl (hb hby d_tr_29) rfl (l' := #[sR o, sI 2, sI 1, sI 7]) rfl ?_
    refine XS.goto X36.here hx rfl (pc0 := 32) (pc' := 13) rfl (hb hby d_tr_32) (by decide) (by decide) ?_
    refine XS.iloadN X36.here hx rfl (hb hby d_tr_13) rfl ?_
    refine XS.aloadN X36.here hx rfl (hb hby d_tr_14) rfl rfl ?_
    exact k))
  obtain ⟨T38, X38, e38, st38⟩ := getF X36 hx hZ hown (host := "") (Or.inl (hw _ (mi 12 rfl))) Via.refl e36 (W36.fld (i := 0) rfl (j := 0) rfl rfl) (g := K37.g) rfl rfl (hb hby d_tr_15)
  have K39 : Rch p e below s₁ F0 T38 (mkF m 23 #[sR o, sI 2, sI 1, sI 7] [(kR o)]) := fun t k => K37 t (st38 t (by
    refine lenW X38 hx hZ e38 W36 (i := 1) rfl (fun _ q => q.1) (z := (8 : Int32)) (by decide) (g := (mkF m 18 #[sR o, sI 2, sI 1, sI 7] [(kR pa), (kI 7)])) rfl rfl (hb hby d_tr_18) _ ?_
    refine XS.icmpNo X38.here hx rfl (hb hby d_tr_19) rfl (by decide) ?_
    refine XS.aloadN X38.here hx rfl (hb hby d_tr_22) rfl rfl ?_
    exact k))
  obtain ⟨T40, X40, e40, st40⟩ := getF X38 hx hZ hown (host := "") (Or.inl (hw _ (mi 12 rfl))) Via.refl e38 (W36.fld (i := 0) rfl (j := 0) rfl rfl) (g := K39.g) rfl rfl (hb hby d_tr_23)
  have K41 : Rch p e below s₁ F0 T40 (mkF m 28 #[sR o, sI 2, sI 1, sI 7] [.null, (kI 7), (kR pa)]) := fun t k => K39 t (st40 t (by
    refine XS.iloadN X40.here hx rfl (hb hby d_tr_26) rfl ?_
    refine XS.aconstNull X40.here hx rfl (hb hby d_tr_27) ?_
    exact k))
  obtain ⟨T42, h42, L42, X42, e42, N42, W42q, st42⟩ := aasW X40 hx hZ e40 W36 N36 (i := 1) (a := pa) rfl (j := (7 : Int32)) (k := 7) (by decide) (by decide) (by decide) (v := .null) rfl (Or.inl rfl) (g := K41.g) rfl rfl (hb hby d_tr_28)
  have W42 : Wo n0 h42 ((o, oPB Z [(kR pa), (kI w)]) :: (pa, Pg Z .byte 8 (upd (upd (upd (upd (upd (upd (upd f 1 .null) 2 .null) 3 .null) 4 .null) 5 .null) 6 .null) 7 .null)) :: Rr) := W42q
  have K43 : Rch p e below s₁ F0 T42 (mkF m 15 #[sR o, sI 2, sI 1, sI 8] [(kR o), (kI 8)]) := fun t k => K41 t (st42 t (by
    refine XS.iinc X42.here hx rfl (hb hby d_tr_29) rfl (l' := #[sR o, sI 2, sI 1, sI 8]) rfl ?_
    refine XS.goto X42.here hx rfl (pc0 := 32) (pc' := 13) rfl (hb hby d_tr_32) (by decide) (by decide) ?_
    refine XS.iloadN X42.here hx rfl (hb hby d_tr_13) rfl ?_
    refine XS.aloadN X42.here hx rfl (hb hby d_tr_14) rfl rfl ?_
    exact k))
  obtain ⟨T44, X44, e44, st44⟩ := getF X42 hx hZ hown (host := "") (Or.inl (hw _ (mi 12 rfl))) Via.refl e42 (W42.fld (i := 0) rfl (j := 0) rfl rfl) (g := K43.g) rfl rfl (hb hby d_tr_15)
  have K45 : Rch p e below s₁ F0 T44 (mkF m 37 #[sR o, sI 2, sI 1, sI 8] [(kI 2), (kR o)]) := fun t k => K43 t (st44 t (by
    refine lenW X44 hx hZ e44 W42 (i := 1) rfl (fun _ q => q.1) (z := (8 : Int32)) (by decide) (g := (mkF m 18 #[sR o, sI 2, sI 1, sI 8] [(kR pa), (kI 8)])) rfl rfl (hb hby d_tr_18) _ ?_
    refine XS.icmpYes X44.here hx rfl (pc0 := 19) (pc' := 35) rfl (hb hby d_tr_19) rfl (by decide) (by decide) (by decide) ?_
    refine XS.aloadN X44.here hx rfl (hb hby d_tr_35) rfl rfl ?_
    refine XS.iloadN X44.here hx rfl (hb hby d_tr_36) rfl ?_
    exact k))
  obtain ⟨T46, h46, L46, X46, e46, N46, W46q, st46⟩ := putW X44 hx hZ hown (host := "") (Or.inl (hw _ (mi 19 rfl))) e44 W42 N42 (own_dPB hw) (Or.inl (hw _ (mi 20 rfl))) (hw _ (mi 2 rfl)) (ty := .int) (by decide +kernel) (i := 0) (a := o) rfl (j := 1) rfl rfl (v := (.int (2 : Int32))) rfl rfl (g := K45.g) rfl rfl (hb hby d_tr_37)
  have W46 : Wo n0 h46 ((o, oPB Z [(kR pa), (kI 2)]) :: (pa, Pg Z .byte 8 (upd (upd (upd (upd (upd (upd (upd f 1 .null) 2 .null) 3 .null) 4 .null) 5 .null) 6 .null) 7 .null)) :: Rr) := W46q
  have K47 : Rch p e below s₁ F0 T46 (mkF m 40 #[sR o, sI 2, sI 1, sI 8] []) := fun t k => K45 t (st46 t (k))
  obtain ⟨fs, hr, hrun, hended, hWm, hsame⟩ := X46.leave (v := none) (fun _ => rfl)
  refine ⟨_, _, pre0 _ (K47 _ (X46.returnOut hx Bd.returns (hb hby d_tr_40) hr)), hrun, hended, _, _, rfl, ?_, ⟨_, rfl⟩, hWm, hsame.mono (by decide) (by decide)⟩
  show QrmT2 Z o pa w f Rr n0 _ T46.heap _
  rw [e46]
  exact ⟨rfl, N46, W46⟩
theorem ef_rmT3 (m : MethodId) (o pa : Addr) (w : Int32) (f : Nat → Value) : entryFrame m #[(.ref o), (.int (3 : Int32))] 4 = mkF m 0 #[.val (.ref o), .val (.int (3 : Int32)), .unset, .unset] [] := by first | (simp [entryFrame, mkF, argsToLocals, Value.category]; done) | rfl
def QrmT3 (Z : State) (o pa : Addr) (w : Int32) (f : Nat → Value) (Rr : List (Addr × (Cell → Prop))) (n0 : Nat) (v : Option Value) (h : Heap) (L : List Loc) : Prop := v = none ∧ Fr n0 L ∧ Wo n0 h ((o, Ob Z "com/example/attribute_checker/attributechecker/checker/PagedBytes" nsPB [.ref pa, .int 3]) :: (pa, Pg Z .byte 8 (upd (upd (upd (upd (upd (upd (upd f 1 .null) 2 .null) 3 .null) 4 .null) 5 .null) 6 .null) 7 .null)) :: Rr)
set_option maxRecDepth 65536 in
set_option maxHeartbeats 40000000 in
theorem rmT3 (l : Launch) (Z : State) (a0 : Array Value) (hw : ∀ d ∈ tables_1, d.before a0 Z = true) (ws : List Jvm.Cond) (o pa : Addr) (w : Int32) (f : Nat → Value) (Rr : List (Addr × (Cell → Prop))) (h0 : Heap) (n0 : Nat) (W0 : Wo n0 h0 ((o, oPB Z [(kR pa), (kI w)]) :: (pa, Pg Z .byte 8 f) :: Rr)) :
    MetFree l (⟨"com/example/attribute_checker/attributechecker/checker/PagedBytes", "truncate", "(I)V"⟩ : MethodName) (head1 (Jvm.Cond.code (⟨"com/example/attribute_checker/attributechecker/checker/PagedBytes", "truncate", "(I)V"⟩ : MethodName) prog_13_method_10_code 4 none :: ws) ({ frames := 0, cells := 0, slots := 0, locals := 0 } : Room)) (fun a U => a = #[(.ref o), (.int (3 : Int32))] ∧ Z.Warmed39 U.vm ∧ U.heap = h0) (fun _ _ _ _ _ => True) (fun _ U ou U' => ∃ v L, ou = .returned v ∧ QrmT3 Z o pa w f Rr n0 v U'.heap L ∧ FrameEnd U ou U' L ({ frames := 0, cells := 0, slots := 0, locals := 0 } : Room).cells ({ frames := 0, cells := 0, slots := 0, locals := 0 } : Room).slots) := by
  refine MetFree.of_bodySF (plainFor_of_name pn_PagedBytes) hisR ?_
  intro p e s m args below meth c s₁ Bd hml0 hP hK
  obtain ⟨rfl, hZ, hh⟩ := hP
  have hx := Bd.exec
  have hby := Bd.bytes
  have hml : c.maxLocals = 4 := hml0
  have hown : s.vm.findClass "com/example/attribute_checker/attributechecker/checker/PagedBytes" = some m.cls := findClass_of_methodNamed Bd.named
  have hnm := (name_of_methodNamed Bd.named Bd.method).1
  have X0 : Stand p l e ({ frames := 0, cells := 0, slots := 0, locals := 0 } : Room) s m #[(.ref o), (.int (3 : Int32))] below meth c s₁ [] 0 0 := Stand.of_body Bd
  have e0 : s₁.heap = h0 := by rw [← hh, Bd.state]; rfl
  have N0 := Fr.nil n0
  obtain ⟨F0, hF0⟩ : ∃ F, F = mkF m 0 #[.val (.ref o), .val (.int (3 : Int32)), .unset, .unset] [] := ⟨_, rfl⟩
  have pre0 : ∀ t, Steps p.tables e below (s₁.setTop F0) t → Steps p.tables e below (s₁.setTop (entryFrame m #[(.ref o), (.int (3 : Int32))] 4)) t := fun t k => castTop ((ef_rmT3 m o pa w f).trans hF0.symm) k
  have K0 : Rch p e below s₁ F0 s₁ (mkF m 0 #[.val (.ref o), .val (.int (3 : Int32)), .unset, .unset] []) := fun t k => castTop hF0 k
  have K1 : Rch p e below s₁ F0 s₁ (mkF m 15 #[sR o, sI 3, sI 1, sI 1] [(kR o), (kI 1)]) := fun t k => K0 t (by
    refine XS.iloadN X0.here hx rfl (hb hby d_tr_0) rfl ?_
    refine XS.i2l X0.here hx rfl (hb hby d_tr_1) rfl ?_
    refine X0.ldc2Long hx hown (mvT hZ (hw _ (mi 30 rfl))) (g := (mkF m 2 #[sR o, sI 3, sU, sU] [(kJ 3)])) rfl (hb hby d_tr_2) _ ?_
    refine XS.ladd X0.here hx rfl (hb hby d_tr_5) rfl ?_
    refine XS.bipush X0.here hx rfl (hb hby d_tr_6) ?_
    refine XS.lushr X0.here hx rfl (hb hby d_tr_8) rfl ?_
    show Steps p.tables e below (s₁.setTop (mkF m 9 #[sR o, sI 3, sU, sU] [(kJ 1)])) _
    refine XS.l2i X0.here hx rfl (hb hby d_tr_9) rfl ?_
    refine XS.istoreN X0.here hx rfl (hb hby d_tr_10) rfl (l' := #[sR o, sI 3, sI 1, sU]) rfl ?_
    refine XS.iloadN X0.here hx rfl (hb hby d_tr_11) rfl ?_
    refine XS.istoreN X0.here hx rfl (hb hby d_tr_12) rfl (l' := #[sR o, sI 3, sI 1, sI 1]) rfl ?_
    refine XS.iloadN X0.here hx rfl (hb hby d_tr_13) rfl ?_
    refine XS.aloadN X0.here hx rfl (hb hby d_tr_14) rfl rfl ?_
    exact k)
  obtain ⟨T2, X2, e2, st2⟩ := getF X0 hx hZ hown (host := "") (Or.inl (hw _ (mi 12 rfl))) Via.refl e0 (W0.fld (i := 0) rfl (j := 0) rfl rfl) (g := K1.g) rfl rfl (hb hby d_tr_15)
  have K3 : Rch p e below s₁ F0 T2 (mkF m 23 #[sR o, sI 3, sI 1, sI 1] [(kR o)]) := fun t k => K1 t (st2 t (by
    refine lenW X2 hx hZ e2 W0 (i := 1) rfl (fun _ q => q.1) (z := (8 : Int32)) (by decide) (g := (mkF m 18 #[sR o, sI 3, sI 1, sI 1] [(kR pa), (kI 1)])) rfl rfl (hb hby d_tr_18) _ ?_
    refine XS.icmpNo X2.here hx rfl (hb hby d_tr_19) rfl (by decide) ?_
    refine XS.aloadN X2.here hx rfl (hb hby d_tr_22) rfl rfl ?_
    exact k))
  obtain ⟨T4, X4, e4, st4⟩ := getF X2 hx hZ hown (host := "") (Or.inl (hw _ (mi 12 rfl))) Via.refl e2 (W0.fld (i := 0) rfl (j := 0) rfl rfl) (g := K3.g) rfl rfl (hb hby d_tr_23)
  have K5 : Rch p e below s₁ F0 T4 (mkF m 28 #[sR o, sI 3, sI 1, sI 1] [.null, (kI 1), (kR pa)]) := fun t k => K3 t (st4 t (by
    refine XS.iloadN X4.here hx rfl (hb hby d_tr_26) rfl ?_
    refine XS.aconstNull X4.here hx rfl (hb hby d_tr_27) ?_
    exact k))
  obtain ⟨T6, h6, L6, X6, e6, N6, W6q, st6⟩ := aasW X4 hx hZ e4 W0 N0 (i := 1) (a := pa) rfl (j := (1 : Int32)) (k := 1) (by decide) (by decide) (by decide) (v := .null) rfl (Or.inl rfl) (g := K5.g) rfl rfl (hb hby d_tr_28)
  have W6 : Wo n0 h6 ((o, oPB Z [(kR pa), (kI w)]) :: (pa, Pg Z .byte 8 (upd f 1 .null)) :: Rr) := W6q
  have K7 : Rch p e below s₁ F0 T6 (mkF m 15 #[sR o, sI 3, sI 1, sI 2] [(kR o), (kI 2)]) := fun t k => K5 t (st6 t (by
    refine XS.iinc X6.here hx rfl (hb hby d_tr_29) rfl (l' := #[sR o, sI 3, sI 1, sI 2]) rfl ?_
    refine XS.goto X6.here hx rfl (pc0 := 32) (pc' := 13) rfl (hb hby d_tr_32) (by decide) (by decide) ?_
    refine XS.iloadN X6.here hx rfl (hb hby d_tr_13) rfl ?_
    refine XS.aloadN X6.here hx rfl (hb hby d_tr_14) rfl rfl ?_
    exact k))
  obtain ⟨T8, X8, e8, st8⟩ := getF X6 hx hZ hown (host := "") (Or.inl (hw _ (mi 12 rfl))) Via.refl e6 (W6.fld (i := 0) rfl (j := 0) rfl rfl) (g := K7.g) rfl rfl (hb hby d_tr_15)
  have K9 : Rch p e below s₁ F0 T8 (mkF m 23 #[sR o, sI 3, sI 1, sI 2] [(kR o)]) := fun t k => K7 t (st8 t (by
    refine lenW X8 hx hZ e8 W6 (i := 1) rfl (fun _ q => q.1) (z := (8 : Int32)) (by decide) (g := (mkF m 18 #[sR o, sI 3, sI 1, sI 2] [(kR pa), (kI 2)])) rfl rfl (hb hby d_tr_18) _ ?_
    refine XS.icmpNo X8.here hx rfl (hb hby d_tr_19) rfl (by decide) ?_
    refine XS.aloadN X8.here hx rfl (hb hby d_tr_22) rfl rfl ?_
    exact k))
  obtain ⟨T10, X10, e10, st10⟩ := getF X8 hx hZ hown (host := "") (Or.inl (hw _ (mi 12 rfl))) Via.refl e8 (W6.fld (i := 0) rfl (j := 0) rfl rfl) (g := K9.g) rfl rfl (hb hby d_tr_23)
  have K11 : Rch p e below s₁ F0 T10 (mkF m 28 #[sR o, sI 3, sI 1, sI 2] [.null, (kI 2), (kR pa)]) := fun t k => K9 t (st10 t (by
    refine XS.iloadN X10.here hx rfl (hb hby d_tr_26) rfl ?_
    refine XS.aconstNull X10.here hx rfl (hb hby d_tr_27) ?_
    exact k))
  obtain ⟨T12, h12, L12, X12, e12, N12, W12q, st12⟩ := aasW X10 hx hZ e10 W6 N6 (i := 1) (a := pa) rfl (j := (2 : Int32)) (k := 2) (by decide) (by decide) (by decide) (v := .null) rfl (Or.inl rfl) (g := K11.g) rfl rfl (hb hby d_tr_28)
  have W12 : Wo n0 h12 ((o, oPB Z [(kR pa), (kI w)]) :: (pa, Pg Z .byte 8 (upd (upd f 1 .null) 2 .null)) :: Rr) := W12q
  have K13 : Rch p e below s₁ F0 T12 (mkF m 15 #[sR o, sI 3, sI 1, sI 3] [(kR o), (kI 3)]) := fun t k => K11 t (st12 t (by
    refine XS.iinc X12.here hx rfl (hb hby d_tr_29) rfl (l' := #[sR o, sI 3, sI 1, sI 3]) rfl ?_
    refine XS.goto X12.here hx rfl (pc0 := 32) (pc' := 13) rfl (hb hby d_tr_32) (by decide) (by decide) ?_
    refine XS.iloadN X12.here hx rfl (hb hby d_tr_13) rfl ?_
    refine XS.aloadN X12.here hx rfl (hb hby d_tr_14) rfl rfl ?_
    exact k))
  obtain ⟨T14, X14, e14, st14⟩ := getF X12 hx hZ hown (host := "") (Or.inl (hw _ (mi 12 rfl))) Via.refl e12 (W12.fld (i := 0) rfl (j := 0) rfl rfl) (g := K13.g) rfl rfl (hb hby d_tr_15)
  have K15 : Rch p e below s₁ F0 T14 (mkF m 23 #[sR o, sI 3, sI 1, sI 3] [(kR o)]) := fun t k => K13 t (st14 t (by
    refine lenW X14 hx hZ e14 W12 (i := 1) rfl (fun _ q => q.1) (z := (8 : Int32)) (by decide) (g := (mkF m 18 #[sR o, sI 3, sI 1, sI 3] [(kR pa), (kI 3)])) rfl rfl (hb hby d_tr_18) _ ?_
    refine XS.icmpNo X14.here hx rfl (hb hby d_tr_19) rfl (by decide) ?_
    refine XS.aloadN X14.here hx rfl (hb hby d_tr_22) rfl rfl ?_
    exact k))
  obtain ⟨T16, X16, e16, st16⟩ := getF X14 hx hZ hown (host := "") (Or.inl (hw _ (mi 12 rfl))) Via.refl e14 (W12.fld (i := 0) rfl (j := 0) rfl rfl) (g := K15.g) rfl rfl (hb hby d_tr_23)
  have K17 : Rch p e below s₁ F0 T16 (mkF m 28 #[sR o, sI 3, sI 1, sI 3] [.null, (kI 3), (kR pa)]) := fun t k => K15 t (st16 t (by
    refine XS.iloadN X16.here hx rfl (hb hby d_tr_26) rfl ?_
    refine XS.aconstNull X16.here hx rfl (hb hby d_tr_27) ?_
    exact k))
  obtain ⟨T18, h18, L18, X18, e18, N18, W18q, st18⟩ := aasW X16 hx hZ e16 W12 N12 (i := 1) (a := pa) rfl (j := (3 : Int32)) (k := 3) (by decide) (by decide) (by decide) (v := .null) rfl (Or.inl rfl) (g := K17.g) rfl rfl (hb hby d_tr_28)
  have W18 : Wo n0 h18 ((o, oPB Z [(kR pa), (kI w)]) :: (pa, Pg Z .byte 8 (upd (upd (upd f 1 .null) 2 .null) 3 .null)) :: Rr) := W18q
  have K19 : Rch p e below s₁ F0 T18 (mkF m 15 #[sR o, sI 3, sI 1, sI 4] [(kR o), (kI 4)]) := fun t k => K17 t (st18 t (by
    refine XS.iinc X18.here hx rfl (hb hby d_tr_29) rfl (l' := #[sR o, sI 3, sI 1, sI 4]) rfl ?_
    refine XS.goto X18.here hx rfl (pc0 := 32) (pc' := 13) rfl (hb hby d_tr_32) (by decide) (by decide) ?_
    refine XS.iloadN X18.here hx rfl (hb hby d_tr_13) rfl ?_
    refine XS.aloadN X18.here hx rfl (hb hby d_tr_14) rfl rfl ?_
    exact k))
  obtain ⟨T20, X20, e20, st20⟩ := getF X18 hx hZ hown (host := "") (Or.inl (hw _ (mi 12 rfl))) Via.refl e18 (W18.fld (i := 0) rfl (j := 0) rfl rfl) (g := K19.g) rfl rfl (hb hby d_tr_15)
  have K21 : Rch p e below s₁ F0 T20 (mkF m 23 #[sR o, sI 3, sI 1, sI 4] [(kR o)]) := fun t k => K19 t (st20 t (by
    refine lenW X20 hx hZ e20 W18 (i := 1) rfl (fun _ q => q.1) (z := (8 : Int32)) (by decide) (g := (mkF m 18 #[sR o, sI 3, sI 1, sI 4] [(kR pa), (kI 4)])) rfl rfl (hb hby d_tr_18) _ ?_
    refine XS.icmpNo X20.here hx rfl (hb hby d_tr_19) rfl (by decide) ?_
    refine XS.aloadN X20.here hx rfl (hb hby d_tr_22) rfl rfl ?_
    exact k))
  obtain ⟨T22, X22, e22, st22⟩ := getF X20 hx hZ hown (host := "") (Or.inl (hw _ (mi 12 rfl))) Via.refl e20 (W18.fld (i := 0) rfl (j := 0) rfl rfl) (g := K21.g) rfl rfl (hb hby d_tr_23)
  have K23 : Rch p e below s₁ F0 T22 (mkF m 28 #[sR o, sI 3, sI 1, sI 4] [.null, (kI 4), (kR pa)]) := fun t k => K21 t (st22 t (by
    refine XS.iloadN X22.here hx rfl (hb hby d_tr_26) rfl ?_
    refine XS.aconstNull X22.here hx rfl (hb hby d_tr_27) ?_
    exact k))
  obtain ⟨T24, h24, L24, X24, e24, N24, W24q, st24⟩ := aasW X22 hx hZ e22 W18 N18 (i := 1) (a := pa) rfl (j := (4 : Int32)) (k := 4) (by decide) (by decide) (by decide) (v := .null) rfl (Or.inl rfl) (g := K23.g) rfl rfl (hb hby d_tr_28)
  have W24 : Wo n0 h24 ((o, oPB Z [(kR pa), (kI w)]) :: (pa, Pg Z .byte 8 (upd (upd (upd (upd f 1 .null) 2 .null) 3 .null) 4 .null)) :: Rr) := W24q
  have K25 : Rch p e below s₁ F0 T24 (mkF m 15 #[sR o, sI 3, sI 1, sI 5] [(kR o), (kI 5)]) := fun t k => K23 t (st24 t (by
    refine XS.iinc X24.here hx rfl (hb hby d_tr_29) rfl (l' := #[sR o, sI 3, sI 1, sI 5]) rfl ?_
    refine XS.goto X24.here hx rfl (pc0 := 32) (pc' := 13) rfl (hb hby d_tr_32) (by decide) (by decide) ?_
    refine XS.iloadN X24.here hx rfl (hb hby d_tr_13) rfl ?_
    refine XS.aloadN X24.here hx rfl (hb hby d_tr_14) rfl rfl ?_
    exact k))
  obtain ⟨T26, X26, e26, st26⟩ := getF X24 hx hZ hown (host := "") (Or.inl (hw _ (mi 12 rfl))) Via.refl e24 (W24.fld (i := 0) rfl (j := 0) rfl rfl) (g := K25.g) rfl rfl (hb hby d_tr_15)
  have K27 : Rch p e below s₁ F0 T26 (mkF m 23 #[sR o, sI 3, sI 1, sI 5] [(kR o)]) := fun t k => K25 t (st26 t (by
    refine lenW X26 hx hZ e26 W24 (i := 1) rfl (fun _ q => q.1) (z := (8 : Int32)) (by decide) (g := (mkF m 18 #[sR o, sI 3, sI 1, sI 5] [(kR pa), (kI 5)])) rfl rfl (hb hby d_tr_18) _ ?_
    refine XS.icmpNo X26.here hx rfl (hb hby d_tr_19) rfl (by decide) ?_
    refine XS.aloadN X26.here hx rfl (hb hby d_tr_22) rfl rfl ?_
    exact k))
  obtain ⟨T28, X28, e28, st28⟩ := getF X26 hx hZ hown (host := "") (Or.inl (hw _ (mi 12 rfl))) Via.refl e26 (W24.fld (i := 0) rfl (j := 0) rfl rfl) (g := K27.g) rfl rfl (hb hby d_tr_23)
  have K29 : Rch p e below s₁ F0 T28 (mkF m 28 #[sR o, sI 3, sI 1, sI 5] [.null, (kI 5), (kR pa)]) := fun t k => K27 t (st28 t (by
    refine XS.iloadN X28.here hx rfl (hb hby d_tr_26) rfl ?_
    refine XS.aconstNull X28.here hx rfl (hb hby d_tr_27) ?_
    exact k))
  obtain ⟨T30, h30, L30, X30, e30, N30, W30q, st30⟩ := aasW X28 hx hZ e28 W24 N24 (i := 1) (a := pa) rfl (j := (5 : Int32)) (k := 5) (by decide) (by decide) (by decide) (v := .null) rfl (Or.inl rfl) (g := K29.g) rfl rfl (hb hby d_tr_28)
  have W30 : Wo n0 h30 ((o, oPB Z [(kR pa), (kI w)]) :: (pa, Pg Z .byte 8 (upd (upd (upd (upd (upd f 1 .null) 2 .null) 3 .null) 4 .null) 5 .null)) :: Rr) := W30q
  have K31 : Rch p e below s₁ F0 T30 (mkF m 15 #[sR o, sI 3, sI 1, sI 6] [(kR o), (kI 6)]) := fun t k => K29 t (st30 t (by
    refine XS.iinc X30.here hx rfl (hb hby d_tr_29) rfl (l' := #[sR o, sI 3, sI 1, sI 6]) rfl ?_
    refine XS.goto X30.here hx rfl (pc0 := 32) (pc' := 13) rfl (hb hby d_tr_32) (by decide) (by decide) ?_
    refine XS.iloadN X30.here hx rfl (hb hby d_tr_13) rfl ?_
    refine XS.aloadN X30.here hx rfl (hb hby d_tr_14) rfl rfl ?_
    exact k))
  obtain ⟨T32, X32, e32, st32⟩ := getF X30 hx hZ hown (host := "") (Or.inl (hw _ (mi 12 rfl))) Via.refl e30 (W30.fld (i := 0) rfl (j := 0) rfl rfl) (g := K31.g) rfl rfl (hb hby d_tr_15)
  have K33 : Rch p e below s₁ F0 T32 (mkF m 23 #[sR o, sI 3, sI 1, sI 6] [(kR o)]) := fun t k => K31 t (st32 t (by
    refine lenW X32 hx hZ e32 W30 (i := 1) rfl (fun _ q => q.1) (z := (8 : Int32)) (by decide) (g := (mkF m 18 #[sR o, sI 3, sI 1, sI 6] [(kR pa), (kI 6)])) rfl rfl (hb hby d_tr_18) _ ?_
    refine XS.icmpNo X32.here hx rfl (hb hby d_tr_19) rfl (by decide) ?_
    refine XS.aloadN X32.here hx rfl (hb hby d_tr_22) rfl rfl ?_
    exact k))
  obtain ⟨T34, X34, e34, st34⟩ := getF X32 hx hZ hown (host := "") (Or.inl (hw _ (mi 12 rfl))) Via.refl e32 (W30.fld (i := 0) rfl (j := 0) rfl rfl) (g := K33.g) rfl rfl (hb hby d_tr_23)
  have K35 : Rch p e below s₁ F0 T34 (mkF m 28 #[sR o, sI 3, sI 1, sI 6] [.null, (kI 6), (kR pa)]) := fun t k => K33 t (st34 t (by
    refine XS.iloadN X34.here hx rfl (hb hby d_tr_26) rfl ?_
    refine XS.aconstNull X34.here hx rfl (hb hby d_tr_27) ?_
    exact k))
  obtain ⟨T36, h36, L36, X36, e36, N36, W36q, st36⟩ := aasW X34 hx hZ e34 W30 N30 (i := 1) (a := pa) rfl (j := (6 : Int32)) (k := 6) (by decide) (by decide) (by decide) (v := .null) rfl (Or.inl rfl) (g := K35.g) rfl rfl (hb hby d_tr_28)
  have W36 : Wo n0 h36 ((o, oPB Z [(kR pa), (kI w)]) :: (pa, Pg Z .byte 8 (upd (upd (upd (upd (upd (upd f 1 .null) 2 .null) 3 .null) 4 .null) 5 .null) 6 .null)) :: Rr) := W36q
  have K37 : Rch p e below s₁ F0 T36 (mkF m 15 #[sR o, sI 3, sI 1, sI 7] [(kR o), (kI 7)]) := fun t k => K35 t (st36 t (by
    refine XS.iinc X36.here hx rfl (hb hby d_tr_29) rfl (l' := #[sR o, sI 3, sI 1, sI 7]) rfl ?_
    refine XS.goto X36.here hx rfl (pc0 := 32) (pc' := 13) rfl (hb hby d_tr_32) (by decide) (by decide) ?_
    refine XS.iloadN X36.here hx rfl (hb hby d_tr_13) rfl ?_
    refine XS.aloadN X36.here hx rfl (hb hby d_tr_14) rfl rfl ?_
    exact k))
  obtain ⟨T38, X38, e38, st38⟩ := getF X36 hx hZ hown (host := "") (Or.inl (hw _ (mi 12 rfl))) Via.refl e36 (W36.fld (i := 0) rfl (j := 0) rfl rfl) (g := K37.g) rfl rfl (hb hby d_tr_15)
  have K39 : Rch p e below s₁ F0 T38 (mkF m 23 #[sR o, sI 3, sI 1, sI 7] [(kR o)]) := fun t k => K37 t (st38 t (by
    refine lenW X38 hx hZ e38 W36 (i := 1) rfl (fun _ q => q.1) (z := (8 : Int32)) (by decide) (g := (mkF m 18 #[sR o, sI 3, sI 1, sI 7] [(kR pa), (kI 7)])) rfl rfl (hb hby d_tr_18) _ ?_
    refine XS.icmpNo X38.here hx rfl (hb hby d_tr_19) rfl (by decide) ?_
    refine XS.aloadN X38.here hx rfl (hb hby d_tr_22) rfl rfl ?_
    exact k))
  obtain ⟨T40, X40, e40, st40⟩ := getF X38 hx hZ hown (host := "") (Or.inl (hw _ (mi 12 rfl))) Via.refl e38 (W36.fld (i := 0) rfl (j := 0) rfl rfl) (g := K39.g) rfl rfl (hb hby d_tr_23)
  have K41 : Rch p e below s₁ F0 T40 (mkF m 28 #[sR o, sI 3, sI 1, sI 7] [.null, (kI 7), (kR pa)]) := fun t k => K39 t (st40 t (by
    refine XS.iloadN X40.here hx rfl (hb hby d_tr_26) rfl ?_
    refine XS.aconstNull X40.here hx rfl (hb hby d_tr_27) ?_
    exact k))
  obtain ⟨T42, h42, L42, X42, e42, N42, W42q, st42⟩ := aasW X40 hx hZ e40 W36 N36 (i := 1) (a := pa) rfl (j := (7 : Int32)) (k := 7) (by decide) (by decide) (by decide) (v := .null) rfl (Or.inl rfl) (g := K41.g) rfl rfl (hb hby d_tr_28)
  have W42 : Wo n0 h42 ((o, oPB Z [(kR pa), (kI w)]) :: (pa, Pg Z .byte 8 (upd (upd (upd (upd (upd (upd (upd f 1 .null) 2 .null) 3 .null) 4 .null) 5 .null) 6 .null) 7 .null)) :: Rr) := W42q
  have K43 : Rch p e below s₁ F0 T42 (mkF m 15 #[sR o, sI 3, sI 1, sI 8] [(kR o), (kI 8)]) := fun t k => K41 t (st42 t (by
    refine XS.iinc X42.here hx rfl (hb hby d_tr_29) rfl (l' := #[sR o, sI 3, sI 1, sI 8]) rfl ?_
    refine XS.goto X42.here hx rfl (pc0 := 32) (pc' := 13) rfl (hb hby d_tr_32) (by decide) (by decide) ?_
    refine XS.iloadN X42.here hx rfl (hb hby d_tr_13) rfl ?_
    refine XS.aloadN X42.here hx rfl (hb hby d_tr_14) rfl rfl ?_
    exact k))
  obtain ⟨T44, X44, e44, st44⟩ := getF X42 hx hZ hown (host := "") (Or.inl (hw _ (mi 12 rfl))) Via.refl e42 (W42.fld (i := 0) rfl (j := 0) rfl rfl) (g := K43.g) rfl rfl (hb hby d_tr_15)
  have K45 : Rch p e below s₁ F0 T44 (mkF m 37 #[sR o, sI 3, sI 1, sI 8] [(kI 3), (kR o)]) := fun t k => K43 t (st44 t (by
    refine lenW X44 hx hZ e44 W42 (i := 1) rfl (fun _ q => q.1) (z := (8 : Int32)) (by decide) (g := (mkF m 18 #[sR o, sI 3, sI 1, sI 8] [(kR pa), (kI 8)])) rfl rfl (hb hby d_tr_18) _ ?_
    refine XS.icmpYes X44.here hx rfl (pc0 := 19) (pc' := 35) rfl (hb hby d_tr_19) rfl (by decide) (by decide) (by decide) ?_
    refine XS.aloadN X44.here hx rfl (hb hby d_tr_35) rfl rfl ?_
    refine XS.iloadN X44.here hx rfl (hb hby d_tr_36) rfl ?_
    exact k))
  obtain ⟨T46, h46, L46, X46, e46, N46, W46q, st46⟩ := putW X44 hx hZ hown (host := "") (Or.inl (hw _ (mi 19 rfl))) e44 W42 N42 (own_dPB hw) (Or.inl (hw _ (mi 20 rfl))) (hw _ (mi 2 rfl)) (ty := .int) (by decide +kernel) (i := 0) (a := o) rfl (j := 1) rfl rfl (v := (.int (3 : Int32))) rfl rfl (g := K45.g) rfl rfl (hb hby d_tr_37)
  have W46 : Wo n0 h46 ((o, oPB Z [(kR pa), (kI 3)]) :: (pa, Pg Z .byte 8 (upd (upd (upd (upd (upd (upd (upd f 1 .null) 2 .null) 3 .null) 4 .null) 5 .null) 6 .null) 7 .null)) :: Rr) := W46q
  have K47 : Rch p e below s₁ F0 T46 (mkF m 40 #[sR o, sI 3, sI 1, sI 8] []) := fun t k => K45 t (st46 t (k))
  obtain ⟨fs, hr, hrun, hended, hWm, hsame⟩ := X46.leave (v := none) (fun _ => rfl)
  refine ⟨_, _, pre0 _ (K47 _ (X46.returnOut hx Bd.returns (hb hby d_tr_40) hr)), hrun, hended, _, _, rfl, ?_, ⟨_, rfl⟩, hWm, hsame.mono (by decide) (by decide)⟩
  show QrmT3 Z o pa w f Rr n0 _ T46.heap _
  rw [e46]
  exact ⟨rfl, N46, W46⟩
theorem pd_size : parseMethodDescriptor "()I" = some ⟨[], some .int⟩ := by decide +kernel
theorem d_size_0 : decode prog_13_method_2_code 0 = .ok (.aload_n 0, 1) := by decide +kernel
theorem d_size_1 : decode prog_13_method_2_code 1 = .ok (.getfield 15, 3) := by decide +kernel
theorem d_size_4 : decode prog_13_method_2_code 4 = .ok (.ireturn, 1) := by decide +kernel
theorem ef_rmS (m : MethodId) (o pa : Addr) (w : Int32) : entryFrame m #[(.ref o)] 1 = mkF m 0 #[.val (.ref o)] [] := by first | (simp [entryFrame, mkF, argsToLocals, Value.category]; done) | rfl
def QrmS (Z : State) (o pa : Addr) (w : Int32) (Rr : List (Addr × (Cell → Prop))) (n0 : Nat) (v : Option Value) (h : Heap) (L : List Loc) : Prop := v = some (.int w) ∧ Fr n0 L ∧ Wo n0 h ((o, Ob Z "com/example/attribute_checker/attributechecker/checker/PagedBytes" nsPB [.ref pa, .int w]) :: Rr)
set_option maxRecDepth 65536 in
set_option maxHeartbeats 40000000 in
theorem rmS (l : Launch) (Z : State) (a0 : Array Value) (hw : ∀ d ∈ tables_1, d.before a0 Z = true) (ws : List Jvm.Cond) (o pa : Addr) (w : Int32) (Rr : List (Addr × (Cell → Prop))) (h0 : Heap) (n0 : Nat) (W0 : Wo n0 h0 ((o, oPB Z [(kR pa), (kI w)]) :: Rr)) :
    MetFree l (⟨"com/example/attribute_checker/attributechecker/checker/PagedBytes", "size", "()I"⟩ : MethodName) (head1 (Jvm.Cond.code (⟨"com/example/attribute_checker/attributechecker/checker/PagedBytes", "size", "()I"⟩ : MethodName) prog_13_method_2_code 1 (some .int) :: ws) ({ frames := 0, cells := 0, slots := 0, locals := 0 } : Room)) (fun a U => a = #[(.ref o)] ∧ Z.Warmed39 U.vm ∧ U.heap = h0) (fun _ _ _ _ _ => True) (fun _ U ou U' => ∃ v L, ou = .returned v ∧ QrmS Z o pa w Rr n0 v U'.heap L ∧ FrameEnd U ou U' L ({ frames := 0, cells := 0, slots := 0, locals := 0 } : Room).cells ({ frames := 0, cells := 0, slots := 0, locals := 0 } : Room).slots) := by
  refine MetFree.of_bodySF (plainFor_of_name pn_PagedBytes) hisR ?_
  intro p e s m args below meth c s₁ Bd hml0 hP hK
  obtain ⟨rfl, hZ, hh⟩ := hP
  have hx := Bd.exec
  have hby := Bd.bytes
  have hml : c.maxLocals = 1 := hml0
  have hown : s.vm.findClass "com/example/attribute_checker/attributechecker/checker/PagedBytes" = some m.cls := findClass_of_methodNamed Bd.named
  have hnm := (name_of_methodNamed Bd.named Bd.method).1
  have X0 : Stand p l e ({ frames := 0, cells := 0, slots := 0, locals := 0 } : Room) s m #[(.ref o)] below meth c s₁ [] 0 0 := Stand.of_body Bd
  have e0 : s₁.heap = h0 := by rw [← hh, Bd.state]; rfl
  have N0 := Fr.nil n0
  obtain ⟨F0, hF0⟩ : ∃ F, F = mkF m 0 #[.val (.ref o)] [] := ⟨_, rfl⟩
  have pre0 : ∀ t, Steps p.tables e below (s₁.setTop F0) t → Steps p.tables e below (s₁.setTop (entryFrame m #[(.ref o)] 1)) t := fun t k => castTop ((ef_rmS m o pa w).trans hF0.symm) k
  have K0 : Rch p e below s₁ F0 s₁ (mkF m 0 #[.val (.ref o)] []) := fun t k => castTop hF0 k
  have K1 : Rch p e below s₁ F0 s₁ (mkF m 1 #[sR o] [(kR o)]) := fun t k => K0 t (XS.aloadN X0.here hx rfl (hb hby d_size_0) rfl rfl k)
  obtain ⟨T2, X2, e2, st2⟩ := getF X0 hx hZ hown (host := "") (Or.inl (hw _ (mi 19 rfl))) Via.refl e0 (W0.fld (i := 0) rfl (j := 1) rfl rfl) (g := K1.g) rfl rfl (hb hby d_size_1)
  have K3 : Rch p e below s₁ F0 T2 (mkF m 4 #[sR o] [(kI w)]) := fun t k => K1 t (st2 t (k))
  obtain ⟨fs, hr, hrun, hended, hWm, hsame⟩ := X2.leave (v := some (.int w)) (fun h => by rw [Bd.returns] at h; cases h)
  refine ⟨_, _, pre0 _ (K3 _ (retI X2 hx Bd.returns (hb hby d_size_4) hr)), hrun, hended, _, _, rfl, ?_, ⟨_, rfl⟩, hWm, hsame.mono (by decide) (by decide)⟩
  show QrmS Z o pa w Rr n0 _ T2.heap _
  rw [e2]
  exact ⟨rfl, N0, W0⟩
theorem pd_get : parseMethodDescriptor "(I)B" = some ⟨[.int], some .byte⟩ := by decide +kernel
theorem d_get_0 : decode prog_13_method_3_code 0 = .ok (.aload_n 0, 1) := by decide +kernel
theorem d_get_1 : decode prog_13_method_3_code 1 = .ok (.getfield 11, 3) := by decide +kernel
theorem d_get_4 : decode prog_13_method_3_code 4 = .ok (.iload_n 1, 1) := by decide +kernel
theorem d_get_5 : decode prog_13_method_3_code 5 = .ok (.bipush 16, 2) := by decide +kernel
theorem d_get_7 : decode prog_13_method_3_code 7 = .ok (.iushr, 1) := by decide +kernel
theorem d_get_8 : decode prog_13_method_3_code 8 = .ok (.aaload, 1) := by decide +kernel
theorem d_get_9 : decode prog_13_method_3_code 9 = .ok (.iload_n 1, 1) := by decide +kernel
theorem d_get_10 : decode prog_13_method_3_code 10 = .ok (.ldc 19, 2) := by decide +kernel
theorem d_get_12 : decode prog_13_method_3_code 12 = .ok (.iand, 1) := by decide +kernel
theorem d_get_13 : decode prog_13_method_3_code 13 = .ok (.baload, 1) := by decide +kernel
theorem d_get_14 : decode prog_13_method_3_code 14 = .ok (.ireturn, 1) := by decide +kernel
theorem ef_rmG0 (m : MethodId) (o pa b : Addr) (w y : Int32) (f fb : Nat → Value) : entryFrame m #[(.ref o), (.int (0 : Int32))] 2 = mkF m 0 #[.val (.ref o), .val (.int (0 : Int32))] [] := by first | (simp [entryFrame, mkF, argsToLocals, Value.category]; done) | rfl
def QrmG0 (Z : State) (o pa b : Addr) (w y : Int32) (f fb : Nat → Value) (Rr : List (Addr × (Cell → Prop))) (n0 : Nat) (v : Option Value) (h : Heap) (L : List Loc) : Prop := v = some (.int y.toInt8.toInt32) ∧ Fr n0 L ∧ Wo n0 h ((o, Ob Z "com/example/attribute_checker/attributechecker/checker/PagedBytes" nsPB [.ref pa, .int w]) :: (pa, Pg Z .byte 8 f) :: (b, Ar Z .byte 256 fb) :: Rr)
set_option maxRecDepth 65536 in
set_option maxHeartbeats 40000000 in
theorem rmG0 (l : Launch) (Z : State) (a0 : Array Value) (hw : ∀ d ∈ tables_1, d.before a0 Z = true) (ws : List Jvm.Cond) (o pa b : Addr) (w y : Int32) (f fb : Nat → Value) (Rr : List (Addr × (Cell → Prop))) (h0 : Heap) (n0 : Nat) (W0 : Wo n0 h0 ((o, oPB Z [(kR pa), (kI w)]) :: (pa, Pg Z .byte 8 f) :: (b, Ar Z .byte 256 fb) :: Rr)) (hf : f 0 = .ref b) (hy : fb 0 = .int y) :
    MetFree l (⟨"com/example/attribute_checker/attributechecker/checker/PagedBytes", "get", "(I)B"⟩ : MethodName) (head1 (Jvm.Cond.code (⟨"com/example/attribute_checker/attributechecker/checker/PagedBytes", "get", "(I)B"⟩ : MethodName) prog_13_method_3_code 2 (some .byte) :: ws) ({ frames := 0, cells := 0, slots := 0, locals := 0 } : Room)) (fun a U => a = #[(.ref o), (.int (0 : Int32))] ∧ Z.Warmed39 U.vm ∧ U.heap = h0) (fun _ _ _ _ _ => True) (fun _ U ou U' => ∃ v L, ou = .returned v ∧ QrmG0 Z o pa b w y f fb Rr n0 v U'.heap L ∧ FrameEnd U ou U' L ({ frames := 0, cells := 0, slots := 0, locals := 0 } : Room).cells ({ frames := 0, cells := 0, slots := 0, locals := 0 } : Room).slots) := by
  refine MetFree.of_bodySF (plainFor_of_name pn_PagedBytes) hisR ?_
  intro p e s m args below meth c s₁ Bd hml0 hP hK
  obtain ⟨rfl, hZ, hh⟩ := hP
  have hx := Bd.exec
  have hby := Bd.bytes
  have hml : c.maxLocals = 2 := hml0
  have hown : s.vm.findClass "com/example/attribute_checker/attributechecker/checker/PagedBytes" = some m.cls := findClass_of_methodNamed Bd.named
  have hnm := (name_of_methodNamed Bd.named Bd.method).1
  have X0 : Stand p l e ({ frames := 0, cells := 0, slots := 0, locals := 0 } : Room) s m #[(.ref o), (.int (0 : Int32))] below meth c s₁ [] 0 0 := Stand.of_body Bd
  have e0 : s₁.heap = h0 := by rw [← hh, Bd.state]; rfl
  have N0 := Fr.nil n0
  obtain ⟨F0, hF0⟩ : ∃ F, F = mkF m 0 #[.val (.ref o), .val (.int (0 : Int32))] [] := ⟨_, rfl⟩
  have pre0 : ∀ t, Steps p.tables e below (s₁.setTop F0) t → Steps p.tables e below (s₁.setTop (entryFrame m #[(.ref o), (.int (0 : Int32))] 2)) t := fun t k => castTop ((ef_rmG0 m o pa b w y f fb).trans hF0.symm) k
  have K0 : Rch p e below s₁ F0 s₁ (mkF m 0 #[.val (.ref o), .val (.int (0 : Int32))] []) := fun t k => castTop hF0 k
  have K1 : Rch p e below s₁ F0 s₁ (mkF m 1 #[sR o, sI 0] [(kR o)]) := fun t k => K0 t (XS.aloadN X0.here hx rfl (hb hby d_get_0) rfl rfl k)
  obtain ⟨T2, X2, e2, st2⟩ := getF X0 hx hZ hown (host := "") (Or.inl (hw _ (mi 12 rfl))) Via.refl e0 (W0.fld (i := 0) rfl (j := 0) rfl rfl) (g := K1.g) rfl rfl (hb hby d_get_1)
  have K3 : Rch p e below s₁ F0 T2 (mkF m 14 #[sR o, sI 0] [(kI y)]) := fun t k => K1 t (st2 t (by
    refine XS.iloadN X2.here hx rfl (hb hby d_get_4) rfl ?_
    refine XS.bipush X2.here hx rfl (hb hby d_get_5) ?_
    refine XS.iushr X2.here hx rfl (hb hby d_get_7) rfl ?_
    refine aalW X2 hx hZ e2 W0 (i := 1) rfl (fun _ q => q.1) rfl (j := (0 : Int32)) (k := 0) (by decide) (by decide) (by decide) (v := (.ref b)) hf (g := (mkF m 8 #[sR o, sI 0] [(kI 0), (kR pa)])) rfl rfl (hb hby d_get_8) _ ?_
    refine XS.iloadN X2.here hx rfl (hb hby d_get_9) rfl ?_
    refine X2.ldcInt hx hown (mvT hZ (hw _ (mi 22 rfl))) (g := (mkF m 10 #[sR o, sI 0] [(kI 0), (kR b)])) rfl (hb hby d_get_10) _ ?_
    show Steps p.tables e below (T2.setTop (mkF m 12 #[sR o, sI 0] [(kI 65535), (kI 0), (kR b)])) _
    refine XS.iand X2.here hx rfl (hb hby d_get_12) rfl ?_
    refine balW X2 hx hZ e2 W0 (i := 2) rfl (j := (0 : Int32)) (k := 0) (by decide) (by decide) (by decide) (v := (.int y)) hy (g := (mkF m 13 #[sR o, sI 0] [(kI 0), (kR b)])) rfl rfl (hb hby d_get_13) _ ?_
    exact k))
  obtain ⟨fs, hr, hrun, hended, hWm, hsame⟩ := X2.leave (v := some (.int (y).toInt8.toInt32)) (fun h => by rw [Bd.returns] at h; cases h)
  refine ⟨_, _, pre0 _ (K3 _ (retN X2 hx (t := .byte) Bd.returns (by simp) (hb hby d_get_14) hr)), hrun, hended, _, _, rfl, ?_, ⟨_, rfl⟩, hWm, hsame.mono (by decide) (by decide)⟩
  show QrmG0 Z o pa b w y f fb Rr n0 _ T2.heap _
  rw [e2]
  exact ⟨rfl, N0, W0⟩
theorem ef_rmG1 (m : MethodId) (o pa b : Addr) (w y : Int32) (f fb : Nat → Value) : entryFrame m #[(.ref o), (.int (1 : Int32))] 2 = mkF m 0 #[.val (.ref o), .val (.int (1 : Int32))] [] := by first | (simp [entryFrame, mkF, argsToLocals, Value.category]; done) | rfl
def QrmG1 (Z : State) (o pa b : Addr) (w y : Int32) (f fb : Nat → Value) (Rr : List (Addr × (Cell → Prop))) (n0 : Nat) (v : Option Value) (h : Heap) (L : List Loc) : Prop := v = some (.int y.toInt8.toInt32) ∧ Fr n0 L ∧ Wo n0 h ((o, Ob Z "com/example/attribute_checker/attributechecker/checker/PagedBytes" nsPB [.ref pa, .int w]) :: (pa, Pg Z .byte 8 f) :: (b, Ar Z .byte 256 fb) :: Rr)
set_option maxRecDepth 65536 in
set_option maxHeartbeats 40000000 in
theorem rmG1 (l : Launch) (Z : State) (a0 : Array Value) (hw : ∀ d ∈ tables_1, d.before a0 Z = true) (ws : List Jvm.Cond) (o pa b : Addr) (w y : Int32) (f fb : Nat → Value) (Rr : List (Addr × (Cell → Prop))) (h0 : Heap) (n0 : Nat) (W0 : Wo n0 h0 ((o, oPB Z [(kR pa), (kI w)]) :: (pa, Pg Z .byte 8 f) :: (b, Ar Z .byte 256 fb) :: Rr)) (hf : f 0 = .ref b) (hy : fb 1 = .int y) :
    MetFree l (⟨"com/example/attribute_checker/attributechecker/checker/PagedBytes", "get", "(I)B"⟩ : MethodName) (head1 (Jvm.Cond.code (⟨"com/example/attribute_checker/attributechecker/checker/PagedBytes", "get", "(I)B"⟩ : MethodName) prog_13_method_3_code 2 (some .byte) :: ws) ({ frames := 0, cells := 0, slots := 0, locals := 0 } : Room)) (fun a U => a = #[(.ref o), (.int (1 : Int32))] ∧ Z.Warmed39 U.vm ∧ U.heap = h0) (fun _ _ _ _ _ => True) (fun _ U ou U' => ∃ v L, ou = .returned v ∧ QrmG1 Z o pa b w y f fb Rr n0 v U'.heap L ∧ FrameEnd U ou U' L ({ frames := 0, cells := 0, slots := 0, locals := 0 } : Room).cells ({ frames := 0, cells := 0, slots := 0, locals := 0 } : Room).slots) := by
  refine MetFree.of_bodySF (plainFor_of_name pn_PagedBytes) hisR ?_
  intro p e s m args below meth c s₁ Bd hml0 hP hK
  obtain ⟨rfl, hZ, hh⟩ := hP
  have hx := Bd.exec
  have hby := Bd.bytes
  have hml : c.maxLocals = 2 := hml0
  have hown : s.vm.findClass "com/example/attribute_checker/attributechecker/checker/PagedBytes" = some m.cls := findClass_of_methodNamed Bd.named
  have hnm := (name_of_methodNamed Bd.named Bd.method).1
  have X0 : Stand p l e ({ frames := 0, cells := 0, slots := 0, locals := 0 } : Room) s m #[(.ref o), (.int (1 : Int32))] below meth c s₁ [] 0 0 := Stand.of_body Bd
  have e0 : s₁.heap = h0 := by rw [← hh, Bd.state]; rfl
  have N0 := Fr.nil n0
  obtain ⟨F0, hF0⟩ : ∃ F, F = mkF m 0 #[.val (.ref o), .val (.int (1 : Int32))] [] := ⟨_, rfl⟩
  have pre0 : ∀ t, Steps p.tables e below (s₁.setTop F0) t → Steps p.tables e below (s₁.setTop (entryFrame m #[(.ref o), (.int (1 : Int32))] 2)) t := fun t k => castTop ((ef_rmG1 m o pa b w y f fb).trans hF0.symm) k
  have K0 : Rch p e below s₁ F0 s₁ (mkF m 0 #[.val (.ref o), .val (.int (1 : Int32))] []) := fun t k => castTop hF0 k
  have K1 : Rch p e below s₁ F0 s₁ (mkF m 1 #[sR o, sI 1] [(kR o)]) := fun t k => K0 t (XS.aloadN X0.here hx rfl (hb hby d_get_0) rfl rfl k)
  obtain ⟨T2, X2, e2, st2⟩ := getF X0 hx hZ hown (host := "") (Or.inl (hw _ (mi 12 rfl))) Via.refl e0 (W0.fld (i := 0) rfl (j := 0) rfl rfl) (g := K1.g) rfl rfl (hb hby d_get_1)
  have K3 : Rch p e below s₁ F0 T2 (mkF m 14 #[sR o, sI 1] [(kI y)]) := fun t k => K1 t (st2 t (by
    refine XS.iloadN X2.here hx rfl (hb hby d_get_4) rfl ?_
    refine XS.bipush X2.here hx rfl (hb hby d_get_5) ?_
    refine XS.iushr X2.here hx rfl (hb hby d_get_7) rfl ?_
    refine aalW X2 hx hZ e2 W0 (i := 1) rfl (fun _ q => q.1) rfl (j := (0 : Int32)) (k := 0) (by decide) (by decide) (by decide) (v := (.ref b)) hf (g := (mkF m 8 #[sR o, sI 1] [(kI 0), (kR pa)])) rfl rfl (hb hby d_get_8) _ ?_
    refine XS.iloadN X2.here hx rfl (hb hby d_get_9) rfl ?_
    refine X2.ldcInt hx hown (mvT hZ (hw _ (mi 22 rfl))) (g := (mkF m 10 #[sR o, sI 1] [(kI 1), (kR b)])) rfl (hb hby d_get_10) _ ?_
    show Steps p.tables e below (T2.setTop (mkF m 12 #[sR o, sI 1] [(kI 65535), (kI 1), (kR b)])) _
    refine XS.iand X2.here hx rfl (hb hby d_get_12) rfl ?_
    refine balW X2 hx hZ e2 W0 (i := 2) rfl (j := (1 : Int32)) (k := 1) (by decide) (by decide) (by decide) (v := (.int y)) hy (g := (mkF m 13 #[sR o, sI 1] [(kI 1), (kR b)])) rfl rfl (hb hby d_get_13) _ ?_
    exact k))
  obtain ⟨fs, hr, hrun, hended, hWm, hsame⟩ := X2.leave (v := some (.int (y).toInt8.toInt32)) (fun h => by rw [Bd.returns] at h; cases h)
  refine ⟨_, _, pre0 _ (K3 _ (retN X2 hx (t := .byte) Bd.returns (by simp) (hb hby d_get_14) hr)), hrun, hended, _, _, rfl, ?_, ⟨_, rfl⟩, hWm, hsame.mono (by decide) (by decide)⟩
  show QrmG1 Z o pa b w y f fb Rr n0 _ T2.heap _
  rw [e2]
  exact ⟨rfl, N0, W0⟩
theorem ef_rmG2 (m : MethodId) (o pa b : Addr) (w y : Int32) (f fb : Nat → Value) : entryFrame m #[(.ref o), (.int (2 : Int32))] 2 = mkF m 0 #[.val (.ref o), .val (.int (2 : Int32))] [] := by first | (simp [entryFrame, mkF, argsToLocals, Value.category]; done) | rfl
def QrmG2 (Z : State) (o pa b : Addr) (w y : Int32) (f fb : Nat → Value) (Rr : List (Addr × (Cell → Prop))) (n0 : Nat) (v : Option Value) (h : Heap) (L : List Loc) : Prop := v = some (.int y.toInt8.toInt32) ∧ Fr n0 L ∧ Wo n0 h ((o, Ob Z "com/example/attribute_checker/attributechecker/checker/PagedBytes" nsPB [.ref pa, .int w]) :: (pa, Pg Z .byte 8 f) :: (b, Ar Z .byte 256 fb) :: Rr)
set_option maxRecDepth 65536 in
set_option maxHeartbeats 40000000 in
theorem rmG2 (l : Launch) (Z : State) (a0 : Array Value) (hw : ∀ d ∈ tables_1, d.before a0 Z = true) (ws : List Jvm.Cond) (o pa b : Addr) (w y : Int32) (f fb : Nat → Value) (Rr : List (Addr × (Cell → Prop))) (h0 : Heap) (n0 : Nat) (W0 : Wo n0 h0 ((o, oPB Z [(kR pa), (kI w)]) :: (pa, Pg Z .byte 8 f) :: (b, Ar Z .byte 256 fb) :: Rr)) (hf : f 0 = .ref b) (hy : fb 2 = .int y) :
    MetFree l (⟨"com/example/attribute_checker/attributechecker/checker/PagedBytes", "get", "(I)B"⟩ : MethodName) (head1 (Jvm.Cond.code (⟨"com/example/attribute_checker/attributechecker/checker/PagedBytes", "get", "(I)B"⟩ : MethodName) prog_13_method_3_code 2 (some .byte) :: ws) ({ frames := 0, cells := 0, slots := 0, locals := 0 } : Room)) (fun a U => a = #[(.ref o), (.int (2 : Int32))] ∧ Z.Warmed39 U.vm ∧ U.heap = h0) (fun _ _ _ _ _ => True) (fun _ U ou U' => ∃ v L, ou = .returned v ∧ QrmG2 Z o pa b w y f fb Rr n0 v U'.heap L ∧ FrameEnd U ou U' L ({ frames := 0, cells := 0, slots := 0, locals := 0 } : Room).cells ({ frames := 0, cells := 0, slots := 0, locals := 0 } : Room).slots) := by
  refine MetFree.of_bodySF (plainFor_of_name pn_PagedBytes) hisR ?_
  intro p e s m args below meth c s₁ Bd hml0 hP hK
  obtain ⟨rfl, hZ, hh⟩ := hP
  have hx := Bd.exec
  have hby := Bd.bytes
  have hml : c.maxLocals = 2 := hml0
  have hown : s.vm.findClass "com/example/attribute_checker/attributechecker/checker/PagedBytes" = some m.cls := findClass_of_methodNamed Bd.named
  have hnm := (name_of_methodNamed Bd.named Bd.method).1
  have X0 : Stand p l e ({ frames := 0, cells := 0, slots := 0, locals := 0 } : Room) s m #[(.ref o), (.int (2 : Int32))] below meth c s₁ [] 0 0 := Stand.of_body Bd
  have e0 : s₁.heap = h0 := by rw [← hh, Bd.state]; rfl
  have N0 := Fr.nil n0
  obtain ⟨F0, hF0⟩ : ∃ F, F = mkF m 0 #[.val (.ref o), .val (.int (2 : Int32))] [] := ⟨_, rfl⟩
  have pre0 : ∀ t, Steps p.tables e below (s₁.setTop F0) t → Steps p.tables e below (s₁.setTop (entryFrame m #[(.ref o), (.int (2 : Int32))] 2)) t := fun t k => castTop ((ef_rmG2 m o pa b w y f fb).trans hF0.symm) k
  have K0 : Rch p e below s₁ F0 s₁ (mkF m 0 #[.val (.ref o), .val (.int (2 : Int32))] []) := fun t k => castTop hF0 k
  have K1 : Rch p e below s₁ F0 s₁ (mkF m 1 #[sR o, sI 2] [(kR o)]) := fun t k => K0 t (XS.aloadN X0.here hx rfl (hb hby d_get_0) rfl rfl k)
  obtain ⟨T2, X2, e2, st2⟩ := getF X0 hx hZ hown (host := "") (Or.inl (hw _ (mi 12 rfl))) Via.refl e0 (W0.fld (i := 0) rfl (j := 0) rfl rfl) (g := K1.g) rfl rfl (hb hby d_get_1)
  have K3 : Rch p e below s₁ F0 T2 (mkF m 14 #[sR o, sI 2] [(kI y)]) := fun t k => K1 t (st2 t (by
    refine XS.iloadN X2.here hx rfl (hb hby d_get_4) rfl ?_
    refine XS.bipush X2.here hx rfl (hb hby d_get_5) ?_
    refine XS.iushr X2.here hx rfl (hb hby d_get_7) rfl ?_
    refine aalW X2 hx hZ e2 W0 (i := 1) rfl (fun _ q => q.1) rfl (j := (0 : Int32)) (k := 0) (by decide) (by decide) (by decide) (v := (.ref b)) hf (g := (mkF m 8 #[sR o, sI 2] [(kI 0), (kR pa)])) rfl rfl (hb hby d_get_8) _ ?_
    refine XS.iloadN X2.here hx rfl (hb hby d_get_9) rfl ?_
    refine X2.ldcInt hx hown (mvT hZ (hw _ (mi 22 rfl))) (g := (mkF m 10 #[sR o, sI 2] [(kI 2), (kR b)])) rfl (hb hby d_get_10) _ ?_
    show Steps p.tables e below (T2.setTop (mkF m 12 #[sR o, sI 2] [(kI 65535), (kI 2), (kR b)])) _
    refine XS.iand X2.here hx rfl (hb hby d_get_12) rfl ?_
    refine balW X2 hx hZ e2 W0 (i := 2) rfl (j := (2 : Int32)) (k := 2) (by decide) (by decide) (by decide) (v := (.int y)) hy (g := (mkF m 13 #[sR o, sI 2] [(kI 2), (kR b)])) rfl rfl (hb hby d_get_13) _ ?_
    exact k))
  obtain ⟨fs, hr, hrun, hended, hWm, hsame⟩ := X2.leave (v := some (.int (y).toInt8.toInt32)) (fun h => by rw [Bd.returns] at h; cases h)
  refine ⟨_, _, pre0 _ (K3 _ (retN X2 hx (t := .byte) Bd.returns (by simp) (hb hby d_get_14) hr)), hrun, hended, _, _, rfl, ?_, ⟨_, rfl⟩, hWm, hsame.mono (by decide) (by decide)⟩
  show QrmG2 Z o pa b w y f fb Rr n0 _ T2.heap _
  rw [e2]
  exact ⟨rfl, N0, W0⟩
theorem ef_rmG3 (m : MethodId) (o pa b : Addr) (w y : Int32) (f fb : Nat → Value) : entryFrame m #[(.ref o), (.int (3 : Int32))] 2 = mkF m 0 #[.val (.ref o), .val (.int (3 : Int32))] [] := by first | (simp [entryFrame, mkF, argsToLocals, Value.category]; done) | rfl
def QrmG3 (Z : State) (o pa b : Addr) (w y : Int32) (f fb : Nat → Value) (Rr : List (Addr × (Cell → Prop))) (n0 : Nat) (v : Option Value) (h : Heap) (L : List Loc) : Prop := v = some (.int y.toInt8.toInt32) ∧ Fr n0 L ∧ Wo n0 h ((o, Ob Z "com/example/attribute_checker/attributechecker/checker/PagedBytes" nsPB [.ref pa, .int w]) :: (pa, Pg Z .byte 8 f) :: (b, Ar Z .byte 256 fb) :: Rr)
set_option maxRecDepth 65536 in
set_option maxHeartbeats 40000000 in
theorem rmG3 (l : Launch) (Z : State) (a0 : Array Value) (hw : ∀ d ∈ tables_1, d.before a0 Z = true) (ws : List Jvm.Cond) (o pa b : Addr) (w y : Int32) (f fb : Nat → Value) (Rr : List (Addr × (Cell → Prop))) (h0 : Heap) (n0 : Nat) (W0 : Wo n0 h0 ((o, oPB Z [(kR pa), (kI w)]) :: (pa, Pg Z .byte 8 f) :: (b, Ar Z .byte 256 fb) :: Rr)) (hf : f 0 = .ref b) (hy : fb 3 = .int y) :
    MetFree l (⟨"com/example/attribute_checker/attributechecker/checker/PagedBytes", "get", "(I)B"⟩ : MethodName) (head1 (Jvm.Cond.code (⟨"com/example/attribute_checker/attributechecker/checker/PagedBytes", "get", "(I)B"⟩ : MethodName) prog_13_method_3_code 2 (some .byte) :: ws) ({ frames := 0, cells := 0, slots := 0, locals := 0 } : Room)) (fun a U => a = #[(.ref o), (.int (3 : Int32))] ∧ Z.Warmed39 U.vm ∧ U.heap = h0) (fun _ _ _ _ _ => True) (fun _ U ou U' => ∃ v L, ou = .returned v ∧ QrmG3 Z o pa b w y f fb Rr n0 v U'.heap L ∧ FrameEnd U ou U' L ({ frames := 0, cells := 0, slots := 0, locals := 0 } : Room).cells ({ frames := 0, cells := 0, slots := 0, locals := 0 } : Room).slots) := by
  refine MetFree.of_bodySF (plainFor_of_name pn_PagedBytes) hisR ?_
  intro p e s m args below meth c s₁ Bd hml0 hP hK
  obtain ⟨rfl, hZ, hh⟩ := hP
  have hx := Bd.exec
  have hby := Bd.bytes
  have hml : c.maxLocals = 2 := hml0
  have hown : s.vm.findClass "com/example/attribute_checker/attributechecker/checker/PagedBytes" = some m.cls := findClass_of_methodNamed Bd.named
  have hnm := (name_of_methodNamed Bd.named Bd.method).1
  have X0 : Stand p l e ({ frames := 0, cells := 0, slots := 0, locals := 0 } : Room) s m #[(.ref o), (.int (3 : Int32))] below meth c s₁ [] 0 0 := Stand.of_body Bd
  have e0 : s₁.heap = h0 := by rw [← hh, Bd.state]; rfl
  have N0 := Fr.nil n0
  obtain ⟨F0, hF0⟩ : ∃ F, F = mkF m 0 #[.val (.ref o), .val (.int (3 : Int32))] [] := ⟨_, rfl⟩
  have pre0 : ∀ t, Steps p.tables e below (s₁.setTop F0) t → Steps p.tables e below (s₁.setTop (entryFrame m #[(.ref o), (.int (3 : Int32))] 2)) t := fun t k => castTop ((ef_rmG3 m o pa b w y f fb).trans hF0.symm) k
  have K0 : Rch p e below s₁ F0 s₁ (mkF m 0 #[.val (.ref o), .val (.int (3 : Int32))] []) := fun t k => castTop hF0 k
  have K1 : Rch p e below s₁ F0 s₁ (mkF m 1 #[sR o, sI 3] [(kR o)]) := fun t k => K0 t (XS.aloadN X0.here hx rfl (hb hby d_get_0) rfl rfl k)
  obtain ⟨T2, X2, e2, st2⟩ := getF X0 hx hZ hown (host := "") (Or.inl (hw _ (mi 12 rfl))) Via.refl e0 (W0.fld (i := 0) rfl (j := 0) rfl rfl) (g := K1.g) rfl rfl (hb hby d_get_1)
  have K3 : Rch p e below s₁ F0 T2 (mkF m 14 #[sR o, sI 3] [(kI y)]) := fun t k => K1 t (st2 t (by
    refine XS.iloadN X2.here hx rfl (hb hby d_get_4) rfl ?_
    refine XS.bipush X2.here hx rfl (hb hby d_get_5) ?_
    refine XS.iushr X2.here hx rfl (hb hby d_get_7) rfl ?_
    refine aalW X2 hx hZ e2 W0 (i := 1) rfl (fun _ q => q.1) rfl (j := (0 : Int32)) (k := 0) (by decide) (by decide) (by decide) (v := (.ref b)) hf (g := (mkF m 8 #[sR o, sI 3] [(kI 0), (kR pa)])) rfl rfl (hb hby d_get_8) _ ?_
    refine XS.iloadN X2.here hx rfl (hb hby d_get_9) rfl ?_
    refine X2.ldcInt hx hown (mvT hZ (hw _ (mi 22 rfl))) (g := (mkF m 10 #[sR o, sI 3] [(kI 3), (kR b)])) rfl (hb hby d_get_10) _ ?_
    show Steps p.tables e below (T2.setTop (mkF m 12 #[sR o, sI 3] [(kI 65535), (kI 3), (kR b)])) _
    refine XS.iand X2.here hx rfl (hb hby d_get_12) rfl ?_
    refine balW X2 hx hZ e2 W0 (i := 2) rfl (j := (3 : Int32)) (k := 3) (by decide) (by decide) (by decide) (v := (.int y)) hy (g := (mkF m 13 #[sR o, sI 3] [(kI 3), (kR b)])) rfl rfl (hb hby d_get_13) _ ?_
    exact k))
  obtain ⟨fs, hr, hrun, hended, hWm, hsame⟩ := X2.leave (v := some (.int (y).toInt8.toInt32)) (fun h => by rw [Bd.returns] at h; cases h)
  refine ⟨_, _, pre0 _ (K3 _ (retN X2 hx (t := .byte) Bd.returns (by simp) (hb hby d_get_14) hr)), hrun, hended, _, _, rfl, ?_, ⟨_, rfl⟩, hWm, hsame.mono (by decide) (by decide)⟩
  show QrmG3 Z o pa b w y f fb Rr n0 _ T2.heap _
  rw [e2]
  exact ⟨rfl, N0, W0⟩
theorem own_b (a : Int32) : ((a.toInt8.toInt32).toInt8.toInt32).toInt8.toInt32 = a.toInt8.toInt32 := by simp
theorem own_rem (x y : Int32) (N : Nat) (hy : y.toInt = N) (hN : 0 < N) (hN' : N < 2147483648) (h0 : 0 ≤ x.toInt) : ∃ r : Nat, r < N ∧ x - x / y * y = Int32.ofNat r := by
  rw [irem_eq_mod]
  have h1 := (c_irem x y N hy).1 h0
  have h2 := Int.emod_nonneg x.toInt (b := (N : Int)) (by omega)
  have h3 := Int.emod_lt_of_pos x.toInt (b := (N : Int)) (by omega)
  refine ⟨(x.toInt % N).toNat, by omega, ?_⟩
  apply Int32.toInt_inj.mp
  rw [h1, Int32.toInt_ofNat_of_lt (by omega)]
  omega
theorem own_four (n : Int32) : ∃ r : Nat, r < 4 ∧ ((n &&& (2147483647 : Int32)) - ((n &&& (2147483647 : Int32)) / (4 : Int32)) * (4 : Int32)) = Int32.ofNat r := own_rem _ _ 4 (by decide) (by decide) (by decide) (c_and n 2147483647 (by decide)).1
theorem pn_PagedBytesTruncatePinLaw : plainName "com/example/attribute_checker/attributechecker/checker/PagedBytesTruncatePinLaw" = true := by first | (simp [plainName, overriddenIn]; done) | decide +kernel
theorem ef_rm0_0 (m : MethodId) (p1 p2 p3 p4 p5 : Int32) : entryFrame m #[(.int p1), (.int p2), (.int p3), (.int p4), (.int p5)] maxLocals = mkF m 0 #[.val (.int p1), .val (.int p2), .val (.int p3), .val (.int p4), .val (.int p5), .unset, .unset, .unset, .unset, .unset, .unset] [] := by first | (simp [entryFrame, mkF, argsToLocals, Value.category, maxLocals]; done) | rfl
def Qrm0_0 (Z : State) (p1 p2 p3 p4 p5 : Int32) (n0 : Nat) (v : Option Value) (h : Heap) (L : List Loc) : Prop := v = some (.int (1 : Int32)) ∧ Fr n0 L
set_option maxRecDepth 65536 in
set_option maxHeartbeats 40000000 in
theorem rm0_0 (l : Launch) (Z : State) (a0 : Array Value) (hw : ∀ d ∈ tables_1, d.before a0 Z = true) (ws : List Jvm.Cond) (p1 p2 p3 p4 p5 : Int32) (h0 : Heap) (n0 : Nat) (W0 : Wo n0 h0 []) (hr0 : ((p4 &&& (2147483647 : Int32)) - ((p4 &&& (2147483647 : Int32)) / (4 : Int32)) * (4 : Int32)) = (0 : Int32)) :
    MetFree l x (head1 (Jvm.Cond.code x code maxLocals ret :: ws) room_1) (fun a U => a = #[(.int p1), (.int p2), (.int p3), (.int p4), (.int p5)] ∧ Z.Warmed39 U.vm ∧ U.heap = h0) (fun _ _ _ _ _ => True) (fun _ U ou U' => ∃ v L, ou = .returned v ∧ Qrm0_0 Z p1 p2 p3 p4 p5 n0 v U'.heap L ∧ FrameEnd U ou U' L room_1.cells room_1.slots) := by
  refine MetFree.of_bodySF (plainFor_of_name pn_PagedBytesTruncatePinLaw) hisR ?_
  intro p e s m args below meth c s₁ Bd hml0 hP hK
  obtain ⟨rfl, hZ, hh⟩ := hP
  have hx := Bd.exec
  have hby := Bd.bytes
  have hml : c.maxLocals = 11 := hml0
  have hown : s.vm.findClass "com/example/attribute_checker/attributechecker/checker/PagedBytesTruncatePinLaw" = some m.cls := findClass_of_methodNamed Bd.named
  have hnm := (name_of_methodNamed Bd.named Bd.method).1
  have X0 : Stand p l e room_1 s m #[(.int p1), (.int p2), (.int p3), (.int p4), (.int p5)] below meth c s₁ [] 0 0 := Stand.of_body Bd
  have e0 : s₁.heap = h0 := by rw [← hh, Bd.state]; rfl
  have N0 := Fr.nil n0
  obtain ⟨F0, hF0⟩ : ∃ F, F = mkF m 0 #[.val (.int p1), .val (.int p2), .val (.int p3), .val (.int p4), .val (.int p5), .unset, .unset, .unset, .unset, .unset, .unset] [] := ⟨_, rfl⟩
  have pre0 : ∀ t, Steps p.tables e below (s₁.setTop F0) t → Steps p.tables e below (s₁.setTop (entryFrame m #[(.int p1), (.int p2), (.int p3), (.int p4), (.int p5)] maxLocals)) t := fun t k => castTop ((ef_rm0_0 m p1 p2 p3 p4 p5).trans hF0.symm) k
  have K0 : Rch p e below s₁ F0 s₁ (mkF m 0 #[.val (.int p1), .val (.int p2), .val (.int p3), .val (.int p4), .val (.int p5), .unset, .unset, .unset, .unset, .unset, .unset] []) := fun t k => castTop hF0 k
  have K1 : Rch p e below s₁ F0 s₁ (mkF m 23 #[sI p1, sI p2, sI p3, sI p4, sI p5, sI (p1).toInt8.toInt32, sI (p2).toInt8.toInt32, sI (p3).toInt8.toInt32, sI (p5).toInt8.toInt32, sU, sU] [(kI ((p4 &&& (2147483647 : Int32)) - ((p4 &&& (2147483647 : Int32)) / (4 : Int32)) * (4 : Int32)))]) := fun t k => K0 t (by
    refine XS.iloadN X0.here hx rfl (hb hby at_0) rfl ?_
    refine XS.i2b X0.here hx rfl (hb hby at_1) rfl ?_
    refine XS.istore X0.here hx rfl (hb hby at_2) rfl (l' := #[sI p1, sI p2, sI p3, sI p4, sI p5, sI (p1).toInt8.toInt32, sU, sU, sU, sU, sU]) rfl ?_
    refine XS.iloadN X0.here hx rfl (hb hby at_4) rfl ?_
    refine XS.i2b X0.here hx rfl (hb hby at_5) rfl ?_
    refine XS.istore X0.here hx rfl (hb hby at_6) rfl (l' := #[sI p1, sI p2, sI p3, sI p4, sI p5, sI (p1).toInt8.toInt32, sI (p2).toInt8.toInt32, sU, sU, sU, sU]) rfl ?_
    show Steps p.tables e below (s₁.setTop (mkF m 8 #[sI p1, sI p2, sI p3, sI p4, sI p5, sI (p1).toInt8.toInt32, sI (p2).toInt8.toInt32, sU, sU, sU, sU] [])) _
    refine XS.iloadN X0.here hx rfl (hb hby at_8) rfl ?_
    refine XS.i2b X0.here hx rfl (hb hby at_9) rfl ?_
    refine XS.istore X0.here hx rfl (hb hby at_10) rfl (l' := #[sI p1, sI p2, sI p3, sI p4, sI p5, sI (p1).toInt8.toInt32, sI (p2).toInt8.toInt32, sI (p3).toInt8.toInt32, sU, sU, sU]) rfl ?_
    refine XS.iload X0.here hx rfl (hb hby at_12) rfl ?_
    refine XS.i2b X0.here hx rfl (hb hby at_14) rfl ?_
    refine XS.istore X0.here hx rfl (hb hby at_15) rfl (l' := #[sI p1, sI p2, sI p3, sI p4, sI p5, sI (p1).toInt8.toInt32, sI (p2).toInt8.toInt32, sI (p3).toInt8.toInt32, sI (p5).toInt8.toInt32, sU, sU]) rfl ?_
    show Steps p.tables e below (s₁.setTop (mkF m 17 #[sI p1, sI p2, sI p3, sI p4, sI p5, sI (p1).toInt8.toInt32, sI (p2).toInt8.toInt32, sI (p3).toInt8.toInt32, sI (p5).toInt8.toInt32, sU, sU] [])) _
    refine XS.iloadN X0.here hx rfl (hb hby at_17) rfl ?_
    refine X0.ldcInt hx hown (mvT hZ (hw _ (mi 0 rfl))) (g := (mkF m 18 #[sI p1, sI p2, sI p3, sI p4, sI p5, sI (p1).toInt8.toInt32, sI (p2).toInt8.toInt32, sI (p3).toInt8.toInt32, sI (p5).toInt8.toInt32, sU, sU] [(kI p4)])) rfl (hb hby at_18) _ ?_
    refine XS.iand X0.here hx rfl (hb hby at_20) rfl ?_
    refine XS.iconst X0.here hx rfl (hb hby at_21) ?_
    refine XS.irem X0.here hx rfl (hb hby at_22) rfl (by decide) ?_
    exact k)
  rw [show ((p4 &&& (2147483647 : Int32)) - ((p4 &&& (2147483647 : Int32)) / (4 : Int32)) * (4 : Int32)) = (0 : Int32) from hr0] at K1
  have K2 : Rch p e below s₁ F0 s₁ (mkF m 25 #[sI p1, sI p2, sI p3, sI p4, sI p5, sI (p1).toInt8.toInt32, sI (p2).toInt8.toInt32, sI (p3).toInt8.toInt32, sI (p5).toInt8.toInt32, sI 0, sU] []) := fun t k => K1 t (XS.istore X0.here hx rfl (hb hby at_23) rfl (l' := #[sI p1, sI p2, sI p3, sI p4, sI p5, sI (p1).toInt8.toInt32, sI (p2).toInt8.toInt32, sI (p3).toInt8.toInt32, sI (p5).toInt8.toInt32, sI 0, sU]) rfl k)
  obtain ⟨T3, h3, a3, X3, e3, W3q, st3⟩ := newWO X0 hx hZ hown (hw _ (mi 1 rfl)) (hw _ (mi 2 rfl)) (hw _ (mi 3 rfl)) e0 W0 (own_lPB hw) (vs := [.null, (.int (0 : Int32))]) own_vPB (g := K2.g) rfl (hb hby at_25) (by decide : 0 + 1 ≤ _) (by decide : 0 + 2 ≤ _)
  have W3 : Wo n0 h3 [(a3, oPB Z [.null, (kI 0)])] := W3q
  have K4 : Rch p e below s₁ F0 T3 (mkF m 29 #[sI p1, sI p2, sI p3, sI p4, sI p5, sI (p1).toInt8.toInt32, sI (p2).toInt8.toInt32, sI (p3).toInt8.toInt32, sI (p5).toInt8.toInt32, sI 0, sU] [(kR a3), (kR a3)]) := fun t k => K2 t (st3 t (XS.dup X3.here hx rfl (hb hby at_28) rfl rfl k))
  have W5 : Wo n0 h3 [(a3, oPB Z [.null, (kI 0)])] := (Wo.front W3 (i := 0) rfl)
  obtain ⟨_, _, ⟨T6, L6, k6, n6⟩, -, X6, ⟨Lc6, hQ6, l6, y6, z6⟩, st6⟩ := X3.specialBack hx (y := (⟨"com/example/attribute_checker/attributechecker/checker/PagedBytes", "<init>", "()V"⟩ : MethodName)) rfl hown (mvT hZ (hw _ (mi 4 rfl))) (mvT hZ (hw _ (mi 5 rfl))) (mvT hZ (hw _ (mi 6 rfl))) (by decide) (backOf (W := 1) (rmI l Z a0 hw [] a3 ([]) h3 n0 W5) hZ (hw _ (mi 6 rfl)) (hw _ (mi 3 rfl)) (by decide) (by decide)) (g := K4.g) rfl (by rw [hml]; rfl) (Steps.refl _) (a := a3) (argsL := []) (rest := [(.ref a3)]) (lenOf pd_init rfl) rfl (by show 2 * 0 + _ ≤ _; exact Nat.le_of_eq rfl) (hb hby at_29) (fun _ _ => ⟨rfl, e3, (by decide : 1 + 1 ≤ _), (by decide : 2 + 8 ≤ _)⟩)
  dsimp only [Pt.U, Pt.locs, Pt.cells, Pt.slots] at X6 l6 y6 z6 st6 hQ6
  subst l6 y6 z6
  obtain ⟨rfl, N6q, ⟨p6, W6⟩⟩ := hQ6
  have N6 := Fr.app N0 N6q
  have K7 : Rch p e below s₁ F0 T6 (mkF m 38 #[sI p1, sI p2, sI p3, sI p4, sI p5, sI (p1).toInt8.toInt32, sI (p2).toInt8.toInt32, sI (p3).toInt8.toInt32, sI (p5).toInt8.toInt32, sI 0, sR a3] [(kI (p1).toInt8.toInt32), (kR a3)]) := fun t k => K4 t (st6.trans (by
    refine XS.astore X6.here hx rfl (hb hby at_32) rfl rfl (l' := #[sI p1, sI p2, sI p3, sI p4, sI p5, sI (p1).toInt8.toInt32, sI (p2).toInt8.toInt32, sI (p3).toInt8.toInt32, sI (p5).toInt8.toInt32, sI 0, sR a3]) rfl ?_
    refine XS.aload X6.here hx rfl (hb hby at_34) rfl rfl ?_
    refine XS.iload X6.here hx rfl (hb hby at_36) rfl ?_
    exact k))
  have W8 : Wo n0 T6.heap [(a3, oPB Z [(kR p6), (kI 0)]), (p6, Pg Z .byte 8 zN)] := (Wo.front (Wo.front W6 (i := 0) rfl) (i := 1) rfl)
  obtain ⟨cq9, kq9, q9a, q9b, q9c⟩ := isOf hZ (rfl : T6.heap = T6.heap) (W8.exa (i := 0) rfl)
  obtain ⟨_, _, ⟨T9, L9, k9, n9⟩, -, X9, ⟨Lc9, hQ9, l9, y9, z9⟩, st9⟩ := X6.virtualBack hx (y := (⟨"com/example/attribute_checker/attributechecker/checker/PagedBytes", "add", "(B)V"⟩ : MethodName)) (z := (⟨"com/example/attribute_checker/attributechecker/checker/PagedBytes", "add", "(B)V"⟩ : MethodName)) hown (mvT hZ (hw _ (mi 14 rfl))) (mvT hZ (hw _ (mi 15 rfl))) (notFace_of_selects (args := #[]) (mvT hZ (hw _ (mi 17 rfl)))) (mvT hZ (hw _ (mi 17 rfl))) (mvT hZ (hw _ (mi 16 rfl))) (by decide) (backOf (W := 0) (rmA l Z a0 hw [] a3 p6 (p1).toInt8.toInt32 zN ([]) T6.heap n0 W8 rfl) hZ (hw _ (mi 18 rfl)) (hw _ (mi 3 rfl)) (by decide) (by decide)) q9a q9c (g := K7.g) rfl (by rw [hml]; rfl) (Steps.refl _) (argsL := [(.int (p1).toInt8.toInt32)]) (rest := []) (lenOf pd_add rfl) rfl (by show 2 * 0 + _ ≤ _; exact Nat.le_of_eq rfl) (hb hby at_38) (fun _ _ => ⟨rfl, (rfl : T6.heap = T6.heap), (by decide : 2 + 1 ≤ _), (by decide : 10 + 256 ≤ _)⟩)
  dsimp only [Pt.U, Pt.locs, Pt.cells, Pt.slots] at X9 l9 y9 z9 st9 hQ9
  subst l9 y9 z9
  obtain ⟨rfl, N9q, ⟨b9, W9⟩⟩ := hQ9
  have N9 := Fr.app N6 N9q
  have K10 : Rch p e below s₁ F0 T9 (mkF m 45 #[sI p1, sI p2, sI p3, sI p4, sI p5, sI (p1).toInt8.toInt32, sI (p2).toInt8.toInt32, sI (p3).toInt8.toInt32, sI (p5).toInt8.toInt32, sI 0, sR a3] [(kI (p2).toInt8.toInt32), (kR a3)]) := fun t k => K7 t (st9.trans (by
    refine XS.aload X9.here hx rfl (hb hby at_41) rfl rfl ?_
    refine XS.iload X9.here hx rfl (hb hby at_43) rfl ?_
    exact k))
  have W11 : Wo n0 T9.heap [(a3, oPB Z [(kR p6), (kI 1)]), (p6, Pg Z .byte 8 (upd zN 0 (kR b9))), (b9, Ar Z .byte 256 (upd zI 0 (kI ((p1).toInt8.toInt32).toInt8.toInt32)))] := (Wo.front (Wo.front (Wo.front W9 (i := 0) rfl) (i := 2) rfl) (i := 2) rfl)
  obtain ⟨cq12, kq12, q12a, q12b, q12c⟩ := isOf hZ (rfl : T9.heap = T9.heap) (W11.exa (i := 0) rfl)
  obtain ⟨_, _, ⟨T12, L12, k12, n12⟩, -, X12, ⟨Lc12, hQ12, l12, y12, z12⟩, st12⟩ := X9.virtualBack hx (y := (⟨"com/example/attribute_checker/attributechecker/checker/PagedBytes", "add", "(B)V"⟩ : MethodName)) (z := (⟨"com/example/attribute_checker/attributechecker/checker/PagedBytes", "add", "(B)V"⟩ : MethodName)) hown (mvT hZ (hw _ (mi 14 rfl))) (mvT hZ (hw _ (mi 15 rfl))) (notFace_of_selects (args := #[]) (mvT hZ (hw _ (mi 17 rfl)))) (mvT hZ (hw _ (mi 17 rfl))) (mvT hZ (hw _ (mi 16 rfl))) (by decide) (backOf (W := 0) (rmA1 l Z a0 hw [] a3 p6 b9 (p2).toInt8.toInt32 (upd zN 0 (kR b9)) (upd zI 0 (kI ((p1).toInt8.toInt32).toInt8.toInt32)) ([]) T9.heap n0 W11 rfl) hZ (hw _ (mi 18 rfl)) (hw _ (mi 3 rfl)) (by decide) (by decide)) q12a q12c (g := K10.g) rfl (by rw [hml]; rfl) (Steps.refl _) (argsL := [(.int (p2).toInt8.toInt32)]) (rest := []) (lenOf pd_add rfl) rfl (by show 2 * 0 + _ ≤ _; exact Nat.le_of_eq rfl) (hb hby at_45) (fun _ _ => ⟨rfl, (rfl : T9.heap = T9.heap), (by decide : 3 + 0 ≤ _), (by decide : 266 + 0 ≤ _)⟩)
  dsimp only [Pt.U, Pt.locs, Pt.cells, Pt.slots] at X12 l12 y12 z12 st12 hQ12
  subst l12 y12 z12
  obtain ⟨rfl, N12q, W12⟩ := hQ12
  have N12 := Fr.app N9 N12q
  have K13 : Rch p e below s₁ F0 T12 (mkF m 52 #[sI p1, sI p2, sI p3, sI p4, sI p5, sI (p1).toInt8.toInt32, sI (p2).toInt8.toInt32, sI (p3).toInt8.toInt32, sI (p5).toInt8.toInt32, sI 0, sR a3] [(kI (p3).toInt8.toInt32), (kR a3)]) := fun t k => K10 t (st12.trans (by
    refine XS.aload X12.here hx rfl (hb hby at_48) rfl rfl ?_
    refine XS.iload X12.here hx rfl (hb hby at_50) rfl ?_
    exact k))
  have W14 : Wo n0 T12.heap [(a3, oPB Z [(kR p6), (kI 2)]), (p6, Pg Z .byte 8 (upd zN 0 (kR b9))), (b9, Ar Z .byte 256 (upd (upd zI 0 (kI ((p1).toInt8.toInt32).toInt8.toInt32)) 1 (kI ((p2).toInt8.toInt32).toInt8.toInt32)))] := (Wo.front (Wo.front (Wo.front W12 (i := 2) rfl) (i := 2) rfl) (i := 2) rfl)
  obtain ⟨cq15, kq15, q15a, q15b, q15c⟩ := isOf hZ (rfl : T12.heap = T12.heap) (W14.exa (i := 0) rfl)
  obtain ⟨_, _, ⟨T15, L15, k15, n15⟩, -, X15, ⟨Lc15, hQ15, l15, y15, z15⟩, st15⟩ := X12.virtualBack hx (y := (⟨"com/example/attribute_checker/attributechecker/checker/PagedBytes", "add", "(B)V"⟩ : MethodName)) (z := (⟨"com/example/attribute_checker/attributechecker/checker/PagedBytes", "add", "(B)V"⟩ : MethodName)) hown (mvT hZ (hw _ (mi 14 rfl))) (mvT hZ (hw _ (mi 15 rfl))) (notFace_of_selects (args := #[]) (mvT hZ (hw _ (mi 17 rfl)))) (mvT hZ (hw _ (mi 17 rfl))) (mvT hZ (hw _ (mi 16 rfl))) (by decide) (backOf (W := 0) (rmA2 l Z a0 hw [] a3 p6 b9 (p3).toInt8.toInt32 (upd zN 0 (kR b9)) (upd (upd zI 0 (kI ((p1).toInt8.toInt32).toInt8.toInt32)) 1 (kI ((p2).toInt8.toInt32).toInt8.toInt32)) ([]) T12.heap n0 W14 rfl) hZ (hw _ (mi 18 rfl)) (hw _ (mi 3 rfl)) (by decide) (by decide)) q15a q15c (g := K13.g) rfl (by rw [hml]; rfl) (Steps.refl _) (argsL := [(.int (p3).toInt8.toInt32)]) (rest := []) (lenOf pd_add rfl) rfl (by show 2 * 0 + _ ≤ _; exact Nat.le_of_eq rfl) (hb hby at_52) (fun _ _ => ⟨rfl, (rfl : T12.heap = T12.heap), (by decide : 3 + 0 ≤ _), (by decide : 266 + 0 ≤ _)⟩)
  dsimp only [Pt.U, Pt.locs, Pt.cells, Pt.slots] at X15 l15 y15 z15 st15 hQ15
  subst l15 y15 z15
  obtain ⟨rfl, N15q, W15⟩ := hQ15
  have N15 := Fr.app N12 N15q
  have K16 : Rch p e below s₁ F0 T15 (mkF m 59 #[sI p1, sI p2, sI p3, sI p4, sI p5, sI (p1).toInt8.toInt32, sI (p2).toInt8.toInt32, sI (p3).toInt8.toInt32, sI (p5).toInt8.toInt32, sI 0, sR a3] [(kI 0), (kR a3)]) := fun t k => K13 t (st15.trans (by
    refine XS.aload X15.here hx rfl (hb hby at_55) rfl rfl ?_
    refine XS.iload X15.here hx rfl (hb hby at_57) rfl ?_
    exact k))
  have W17 : Wo n0 T15.heap [(a3, oPB Z [(kR p6), (kI 3)]), (p6, Pg Z .byte 8 (upd zN 0 (kR b9))), (b9, Ar Z .byte 256 (upd (upd (upd zI 0 (kI ((p1).toInt8.toInt32).toInt8.toInt32)) 1 (kI ((p2).toInt8.toInt32).toInt8.toInt32)) 2 (kI ((p3).toInt8.toInt32).toInt8.toInt32)))] := (Wo.front (Wo.front W15 (i := 1) rfl) (i := 1) rfl)
  obtain ⟨cq18, kq18, q18a, q18b, q18c⟩ := isOf hZ (rfl : T15.heap = T15.heap) (W17.exa (i := 0) rfl)
  obtain ⟨_, _, ⟨T18, L18, k18, n18⟩, -, X18, ⟨Lc18, hQ18, l18, y18, z18⟩, st18⟩ := X15.virtualBack hx (y := (⟨"com/example/attribute_checker/attributechecker/checker/PagedBytes", "truncate", "(I)V"⟩ : MethodName)) (z := (⟨"com/example/attribute_checker/attributechecker/checker/PagedBytes", "truncate", "(I)V"⟩ : MethodName)) hown (mvT hZ (hw _ (mi 25 rfl))) (mvT hZ (hw _ (mi 26 rfl))) (notFace_of_selects (args := #[]) (mvT hZ (hw _ (mi 28 rfl)))) (mvT hZ (hw _ (mi 28 rfl))) (mvT hZ (hw _ (mi 27 rfl))) (by decide) (backOf (W := 0) (rmT0 l Z a0 hw [] a3 p6 (3 : Int32) (upd zN 0 (kR b9)) ((b9, Ar Z .byte 256 (upd (upd (upd zI 0 (kI ((p1).toInt8.toInt32).toInt8.toInt32)) 1 (kI ((p2).toInt8.toInt32).toInt8.toInt32)) 2 (kI ((p3).toInt8.toInt32).toInt8.toInt32))) :: []) T15.heap n0 W17) hZ (hw _ (mi 29 rfl)) (hw _ (mi 3 rfl)) (by decide) (by decide)) q18a q18c (g := K16.g) rfl (by rw [hml]; rfl) (Steps.refl _) (argsL := [(.int (0 : Int32))]) (rest := []) (lenOf pd_tr rfl) rfl (by show 2 * 0 + _ ≤ _; exact Nat.le_of_eq rfl) (hb hby at_59) (fun _ _ => ⟨rfl, (rfl : T15.heap = T15.heap), (by decide : 3 + 0 ≤ _), (by decide : 266 + 0 ≤ _)⟩)
  dsimp only [Pt.U, Pt.locs, Pt.cells, Pt.slots] at X18 l18 y18 z18 st18 hQ18
  subst l18 y18 z18
  obtain ⟨rfl, N18q, W18⟩ := hQ18
  have N18 := Fr.app N15 N18q
  have K19 : Rch p e below s₁ F0 T18 (mkF m 64 #[sI p1, sI p2, sI p3, sI p4, sI p5, sI (p1).toInt8.toInt32, sI (p2).toInt8.toInt32, sI (p3).toInt8.toInt32, sI (p5).toInt8.toInt32, sI 0, sR a3] [(kR a3)]) := fun t k => K16 t (st18.trans (XS.aload X18.here hx rfl (hb hby at_62) rfl rfl k))
  have W20 : Wo n0 T18.heap [(a3, oPB Z [(kR p6), (kI 0)]), (p6, Pg Z .byte 8 (upd (upd (upd (upd (upd (upd (upd (upd (upd zN 0 (kR b9)) 0 .null) 1 .null) 2 .null) 3 .null) 4 .null) 5 .null) 6 .null) 7 .null)), (b9, Ar Z .byte 256 (upd (upd (upd zI 0 (kI ((p1).toInt8.toInt32).toInt8.toInt32)) 1 (kI ((p2).toInt8.toInt32).toInt8.toInt32)) 2 (kI ((p3).toInt8.toInt32).toInt8.toInt32)))] := (Wo.front W18 (i := 0) rfl)
  obtain ⟨cq21, kq21, q21a, q21b, q21c⟩ := isOf hZ (rfl : T18.heap = T18.heap) (W20.exa (i := 0) rfl)
  obtain ⟨_, _, ⟨T21, L21, k21, n21⟩, -, X21, ⟨Lc21, hQ21, l21, y21, z21⟩, st21⟩ := X18.virtualBack hx (y := (⟨"com/example/attribute_checker/attributechecker/checker/PagedBytes", "size", "()I"⟩ : MethodName)) (z := (⟨"com/example/attribute_checker/attributechecker/checker/PagedBytes", "size", "()I"⟩ : MethodName)) hown (mvT hZ (hw _ (mi 31 rfl))) (mvT hZ (hw _ (mi 32 rfl))) (notFace_of_selects (args := #[]) (mvT hZ (hw _ (mi 34 rfl)))) (mvT hZ (hw _ (mi 34 rfl))) (mvT hZ (hw _ (mi 33 rfl))) (by decide) (backOf (W := 0) (rmS l Z a0 hw [] a3 p6 (0 : Int32) ((p6, Pg Z .byte 8 (upd (upd (upd (upd (upd (upd (upd (upd (upd zN 0 (kR b9)) 0 .null) 1 .null) 2 .null) 3 .null) 4 .null) 5 .null) 6 .null) 7 .null)) :: (b9, Ar Z .byte 256 (upd (upd (upd zI 0 (kI ((p1).toInt8.toInt32).toInt8.toInt32)) 1 (kI ((p2).toInt8.toInt32).toInt8.toInt32)) 2 (kI ((p3).toInt8.toInt32).toInt8.toInt32))) :: []) T18.heap n0 W20) hZ (hw _ (mi 35 rfl)) (hw _ (mi 3 rfl)) (by decide) (by decide)) q21a q21c (g := K19.g) rfl (by rw [hml]; rfl) (Steps.refl _) (argsL := []) (rest := []) (lenOf pd_size rfl) rfl (by show 2 * 0 + _ ≤ _; exact Nat.le_of_eq rfl) (hb hby at_64) (fun _ _ => ⟨rfl, (rfl : T18.heap = T18.heap), (by decide : 3 + 0 ≤ _), (by decide : 266 + 0 ≤ _)⟩)
  dsimp only [Pt.U, Pt.locs, Pt.cells, Pt.slots] at X21 l21 y21 z21 st21 hQ21
  subst l21 y21 z21
  obtain ⟨rfl, N21q, W21⟩ := hQ21
  have N21 := Fr.app N18 N21q
  have K22 : Rch p e below s₁ F0 T21 (mkF m 78 #[sI p1, sI p2, sI p3, sI p4, sI p5, sI (p1).toInt8.toInt32, sI (p2).toInt8.toInt32, sI (p3).toInt8.toInt32, sI (p5).toInt8.toInt32, sI 0, sR a3] [(kI (p5).toInt8.toInt32), (kR a3)]) := fun t k => K19 t (st21.trans (by
    refine XS.iload X21.here hx rfl (hb hby at_67) rfl ?_
    refine XS.icmpYes X21.here hx rfl (pc0 := 69) (pc' := 74) rfl (hb hby at_69) rfl (by decide) (by decide) (by decide) ?_
    refine XS.aload X21.here hx rfl (hb hby at_74) rfl rfl ?_
    refine XS.iload X21.here hx rfl (hb hby at_76) rfl ?_
    exact k))
  have W23 : Wo n0 T21.heap [(a3, oPB Z [(kR p6), (kI 0)]), (p6, Pg Z .byte 8 (upd (upd (upd (upd (upd (upd (upd (upd (upd zN 0 (kR b9)) 0 .null) 1 .null) 2 .null) 3 .null) 4 .null) 5 .null) 6 .null) 7 .null)), (b9, Ar Z .byte 256 (upd (upd (upd zI 0 (kI ((p1).toInt8.toInt32).toInt8.toInt32)) 1 (kI ((p2).toInt8.toInt32).toInt8.toInt32)) 2 (kI ((p3).toInt8.toInt32).toInt8.toInt32)))] := (Wo.front (Wo.front W21 (i := 1) rfl) (i := 1) rfl)
  obtain ⟨cq24, kq24, q24a, q24b, q24c⟩ := isOf hZ (rfl : T21.heap = T21.heap) (W23.exa (i := 0) rfl)
  obtain ⟨_, _, ⟨T24, L24, k24, n24⟩, -, X24, ⟨Lc24, hQ24, l24, y24, z24⟩, st24⟩ := X21.virtualBack hx (y := (⟨"com/example/attribute_checker/attributechecker/checker/PagedBytes", "add", "(B)V"⟩ : MethodName)) (z := (⟨"com/example/attribute_checker/attributechecker/checker/PagedBytes", "add", "(B)V"⟩ : MethodName)) hown (mvT hZ (hw _ (mi 14 rfl))) (mvT hZ (hw _ (mi 15 rfl))) (notFace_of_selects (args := #[]) (mvT hZ (hw _ (mi 17 rfl)))) (mvT hZ (hw _ (mi 17 rfl))) (mvT hZ (hw _ (mi 16 rfl))) (by decide) (backOf (W := 0) (rmA l Z a0 hw [] a3 p6 (p5).toInt8.toInt32 (upd (upd (upd (upd (upd (upd (upd (upd (upd zN 0 (kR b9)) 0 .null) 1 .null) 2 .null) 3 .null) 4 .null) 5 .null) 6 .null) 7 .null) ((b9, Ar Z .byte 256 (upd (upd (upd zI 0 (kI ((p1).toInt8.toInt32).toInt8.toInt32)) 1 (kI ((p2).toInt8.toInt32).toInt8.toInt32)) 2 (kI ((p3).toInt8.toInt32).toInt8.toInt32))) :: []) T21.heap n0 W23 rfl) hZ (hw _ (mi 18 rfl)) (hw _ (mi 3 rfl)) (by decide) (by decide)) q24a q24c (g := K22.g) rfl (by rw [hml]; rfl) (Steps.refl _) (argsL := [(.int (p5).toInt8.toInt32)]) (rest := []) (lenOf pd_add rfl) rfl (by show 2 * 0 + _ ≤ _; exact Nat.le_of_eq rfl) (hb hby at_78) (fun _ _ => ⟨rfl, (rfl : T21.heap = T21.heap), (by decide : 3 + 1 ≤ _), (by decide : 266 + 256 ≤ _)⟩)
  dsimp only [Pt.U, Pt.locs, Pt.cells, Pt.slots] at X24 l24 y24 z24 st24 hQ24
  subst l24 y24 z24
  obtain ⟨rfl, N24q, ⟨b24, W24⟩⟩ := hQ24
  have N24 := Fr.app N21 N24q
  have K25 : Rch p e below s₁ F0 T24 (mkF m 83 #[sI p1, sI p2, sI p3, sI p4, sI p5, sI (p1).toInt8.toInt32, sI (p2).toInt8.toInt32, sI (p3).toInt8.toInt32, sI (p5).toInt8.toInt32, sI 0, sR a3] [(kR a3)]) := fun t k => K22 t (st24.trans (XS.aload X24.here hx rfl (hb hby at_81) rfl rfl k))
  have W26 : Wo n0 T24.heap [(a3, oPB Z [(kR p6), (kI 1)]), (b24, Ar Z .byte 256 (upd zI 0 (kI ((p5).toInt8.toInt32).toInt8.toInt32))), (p6, Pg Z .byte 8 (upd (upd (upd (upd (upd (upd (upd (upd (upd (upd zN 0 (kR b9)) 0 .null) 1 .null) 2 .null) 3 .null) 4 .null) 5 .null) 6 .null) 7 .null) 0 (kR b24))), (b9, Ar Z .byte 256 (upd (upd (upd zI 0 (kI ((p1).toInt8.toInt32).toInt8.toInt32)) 1 (kI ((p2).toInt8.toInt32).toInt8.toInt32)) 2 (kI ((p3).toInt8.toInt32).toInt8.toInt32)))] := (Wo.front W24 (i := 1) rfl)
  obtain ⟨cq27, kq27, q27a, q27b, q27c⟩ := isOf hZ (rfl : T24.heap = T24.heap) (W26.exa (i := 0) rfl)
  obtain ⟨_, _, ⟨T27, L27, k27, n27⟩, -, X27, ⟨Lc27, hQ27, l27, y27, z27⟩, st27⟩ := X24.virtualBack hx (y := (⟨"com/example/attribute_checker/attributechecker/checker/PagedBytes", "size", "()I"⟩ : MethodName)) (z := (⟨"com/example/attribute_checker/attributechecker/checker/PagedBytes", "size", "()I"⟩ : MethodName)) hown (mvT hZ (hw _ (mi 31 rfl))) (mvT hZ (hw _ (mi 32 rfl))) (notFace_of_selects (args := #[]) (mvT hZ (hw _ (mi 34 rfl)))) (mvT hZ (hw _ (mi 34 rfl))) (mvT hZ (hw _ (mi 33 rfl))) (by decide) (backOf (W := 0) (rmS l Z a0 hw [] a3 p6 (1 : Int32) ((b24, Ar Z .byte 256 (upd zI 0 (kI ((p5).toInt8.toInt32).toInt8.toInt32))) :: (p6, Pg Z .byte 8 (upd (upd (upd (upd (upd (upd (upd (upd (upd (upd zN 0 (kR b9)) 0 .null) 1 .null) 2 .null) 3 .null) 4 .null) 5 .null) 6 .null) 7 .null) 0 (kR b24))) :: (b9, Ar Z .byte 256 (upd (upd (upd zI 0 (kI ((p1).toInt8.toInt32).toInt8.toInt32)) 1 (kI ((p2).toInt8.toInt32).toInt8.toInt32)) 2 (kI ((p3).toInt8.toInt32).toInt8.toInt32))) :: []) T24.heap n0 W26) hZ (hw _ (mi 35 rfl)) (hw _ (mi 3 rfl)) (by decide) (by decide)) q27a q27c (g := K25.g) rfl (by rw [hml]; rfl) (Steps.refl _) (argsL := []) (rest := []) (lenOf pd_size rfl) rfl (by show 2 * 0 + _ ≤ _; exact Nat.le_of_eq rfl) (hb hby at_83) (fun _ _ => ⟨rfl, (rfl : T24.heap = T24.heap), (by decide : 4 + 0 ≤ _), (by decide : 522 + 0 ≤ _)⟩)
  dsimp only [Pt.U, Pt.locs, Pt.cells, Pt.slots] at X27 l27 y27 z27 st27 hQ27
  subst l27 y27 z27
  obtain ⟨rfl, N27q, W27⟩ := hQ27
  have N27 := Fr.app N24 N27q
  have K28 : Rch p e below s₁ F0 T27 (mkF m 99 #[sI p1, sI p2, sI p3, sI p4, sI p5, sI (p1).toInt8.toInt32, sI (p2).toInt8.toInt32, sI (p3).toInt8.toInt32, sI (p5).toInt8.toInt32, sI 0, sR a3] [(kI 0), (kR a3)]) := fun t k => K25 t (st27.trans (by
    refine XS.iload X27.here hx rfl (hb hby at_86) rfl ?_
    refine XS.iconst X27.here hx rfl (hb hby at_88) ?_
    refine XS.iadd X27.here hx rfl (hb hby at_89) rfl ?_
    refine XS.icmpYes X27.here hx rfl (pc0 := 90) (pc' := 95) rfl (hb hby at_90) rfl (by decide) (by decide) (by decide) ?_
    refine XS.aload X27.here hx rfl (hb hby at_95) rfl rfl ?_
    refine XS.iload X27.here hx rfl (hb hby at_97) rfl ?_
    exact k))
  have W29 : Wo n0 T27.heap [(a3, oPB Z [(kR p6), (kI 1)]), (p6, Pg Z .byte 8 (upd (upd (upd (upd (upd (upd (upd (upd (upd (upd zN 0 (kR b9)) 0 .null) 1 .null) 2 .null) 3 .null) 4 .null) 5 .null) 6 .null) 7 .null) 0 (kR b24))), (b24, Ar Z .byte 256 (upd zI 0 (kI ((p5).toInt8.toInt32).toInt8.toInt32))), (b9, Ar Z .byte 256 (upd (upd (upd zI 0 (kI ((p1).toInt8.toInt32).toInt8.toInt32)) 1 (kI ((p2).toInt8.toInt32).toInt8.toInt32)) 2 (kI ((p3).toInt8.toInt32).toInt8.toInt32)))] := (Wo.front (Wo.front (Wo.front W27 (i := 1) rfl) (i := 2) rfl) (i := 2) rfl)
  obtain ⟨cq30, kq30, q30a, q30b, q30c⟩ := isOf hZ (rfl : T27.heap = T27.heap) (W29.exa (i := 0) rfl)
  obtain ⟨_, _, ⟨T30, L30, k30, n30⟩, -, X30, ⟨Lc30, hQ30, l30, y30, z30⟩, st30⟩ := X27.virtualBack hx (y := (⟨"com/example/attribute_checker/attributechecker/checker/PagedBytes", "get", "(I)B"⟩ : MethodName)) (z := (⟨"com/example/attribute_checker/attributechecker/checker/PagedBytes", "get", "(I)B"⟩ : MethodName)) hown (mvT hZ (hw _ (mi 36 rfl))) (mvT hZ (hw _ (mi 37 rfl))) (notFace_of_selects (args := #[]) (mvT hZ (hw _ (mi 39 rfl)))) (mvT hZ (hw _ (mi 39 rfl))) (mvT hZ (hw _ (mi 38 rfl))) (by decide) (backOf (W := 0) (rmG0 l Z a0 hw [] a3 p6 b24 (1 : Int32) ((p5).toInt8.toInt32).toInt8.toInt32 (upd (upd (upd (upd (upd (upd (upd (upd (upd (upd zN 0 (kR b9)) 0 .null) 1 .null) 2 .null) 3 .null) 4 .null) 5 .null) 6 .null) 7 .null) 0 (kR b24)) (upd zI 0 (kI ((p5).toInt8.toInt32).toInt8.toInt32)) ((b9, Ar Z .byte 256 (upd (upd (upd zI 0 (kI ((p1).toInt8.toInt32).toInt8.toInt32)) 1 (kI ((p2).toInt8.toInt32).toInt8.toInt32)) 2 (kI ((p3).toInt8.toInt32).toInt8.toInt32))) :: []) T27.heap n0 W29 rfl rfl) hZ (hw _ (mi 40 rfl)) (hw _ (mi 3 rfl)) (by decide) (by decide)) q30a q30c (g := K28.g) rfl (by rw [hml]; rfl) (Steps.refl _) (argsL := [(.int (0 : Int32))]) (rest := []) (lenOf pd_get rfl) rfl (by show 2 * 0 + _ ≤ _; exact Nat.le_of_eq rfl) (hb hby at_99) (fun _ _ => ⟨rfl, (rfl : T27.heap = T27.heap), (by decide : 4 + 0 ≤ _), (by decide : 522 + 0 ≤ _)⟩)
  dsimp only [Pt.U, Pt.locs, Pt.cells, Pt.slots] at X30 l30 y30 z30 st30 hQ30
  subst l30 y30 z30
  obtain ⟨rfl, N30q, W30⟩ := hQ30
  have N30 := Fr.app N27 N30q
  have K31 : Rch p e below s₁ F0 T30 (mkF m 167 #[sI p1, sI p2, sI p3, sI p4, sI p5, sI (p1).toInt8.toInt32, sI (p2).toInt8.toInt32, sI (p3).toInt8.toInt32, sI (p5).toInt8.toInt32, sI 0, sR a3] [(kI 1)]) := fun t k => K28 t (st30.trans (by
    refine XS.iload X30.here hx rfl (hb hby at_102) rfl ?_
    refine XS.icmpYes X30.here hx rfl (pc0 := 104) (pc' := 109) rfl (hb hby at_104) rfl (teq (own_b p5)).1 (by decide) (by decide) ?_
    refine XS.iload X30.here hx rfl (hb hby at_109) rfl ?_
    refine XS.iconst X30.here hx rfl (hb hby at_111) ?_
    refine XS.icmpYes X30.here hx rfl (pc0 := 112) (pc' := 128) rfl (hb hby at_112) rfl (by decide) (by decide) (by decide) ?_
    refine XS.iload X30.here hx rfl (hb hby at_128) rfl ?_
    show Steps p.tables e below (T30.setTop (mkF m 130 #[sI p1, sI p2, sI p3, sI p4, sI p5, sI (p1).toInt8.toInt32, sI (p2).toInt8.toInt32, sI (p3).toInt8.toInt32, sI (p5).toInt8.toInt32, sI 0, sR a3] [(kI 0)])) _
    refine XS.iconst X30.here hx rfl (hb hby at_130) ?_
    refine XS.icmpYes X30.here hx rfl (pc0 := 131) (pc' := 147) rfl (hb hby at_131) rfl (by decide) (by decide) (by decide) ?_
    refine XS.iload X30.here hx rfl (hb hby at_147) rfl ?_
    refine XS.iconst X30.here hx rfl (hb hby at_149) ?_
    refine XS.icmpYes X30.here hx rfl (pc0 := 150) (pc' := 166) rfl (hb hby at_150) rfl (by decide) (by decide) (by decide) ?_
    refine XS.iconst X30.here hx rfl (hb hby at_166) ?_
    exact k))
  obtain ⟨fs, hr, hrun, hended, hWm, hsame⟩ := X30.leave (v := some (.int (1 : Int32))) (fun h => by rw [Bd.returns] at h; cases h)
  refine ⟨_, _, pre0 _ (K31 _ (retN X30 hx (t := .boolean) Bd.returns (by simp) (hb hby at_167) hr)), hrun, hended, _, _, rfl, ?_, ⟨_, rfl⟩, hWm, hsame.mono (by decide) (by decide)⟩
  show Qrm0_0 Z p1 p2 p3 p4 p5 n0 _ T30.heap _
  exact ⟨rfl, N30⟩
theorem ef_rm0_1 (m : MethodId) (p1 p2 p3 p4 p5 : Int32) : entryFrame m #[(.int p1), (.int p2), (.int p3), (.int p4), (.int p5)] maxLocals = mkF m 0 #[.val (.int p1), .val (.int p2), .val (.int p3), .val (.int p4), .val (.int p5), .unset, .unset, .unset, .unset, .unset, .unset] [] := by first | (simp [entryFrame, mkF, argsToLocals, Value.category, maxLocals]; done) | rfl
def Qrm0_1 (Z : State) (p1 p2 p3 p4 p5 : Int32) (n0 : Nat) (v : Option Value) (h : Heap) (L : List Loc) : Prop := v = some (.int (1 : Int32)) ∧ Fr n0 L
set_option maxRecDepth 65536 in
set_option maxHeartbeats 40000000 in
theorem rm0_1 (l : Launch) (Z : State) (a0 : Array Value) (hw : ∀ d ∈ tables_1, d.before a0 Z = true) (ws : List Jvm.Cond) (p1 p2 p3 p4 p5 : Int32) (h0 : Heap) (n0 : Nat) (W0 : Wo n0 h0 []) (hr0 : ((p4 &&& (2147483647 : Int32)) - ((p4 &&& (2147483647 : Int32)) / (4 : Int32)) * (4 : Int32)) = (1 : Int32)) :
    MetFree l x (head1 (Jvm.Cond.code x code maxLocals ret :: ws) room_1) (fun a U => a = #[(.int p1), (.int p2), (.int p3), (.int p4), (.int p5)] ∧ Z.Warmed39 U.vm ∧ U.heap = h0) (fun _ _ _ _ _ => True) (fun _ U ou U' => ∃ v L, ou = .returned v ∧ Qrm0_1 Z p1 p2 p3 p4 p5 n0 v U'.heap L ∧ FrameEnd U ou U' L room_1.cells room_1.slots) := by
  refine MetFree.of_bodySF (plainFor_of_name pn_PagedBytesTruncatePinLaw) hisR ?_
  intro p e s m args below meth c s₁ Bd hml0 hP hK
  obtain ⟨rfl, hZ, hh⟩ := hP
  have hx := Bd.exec
  have hby := Bd.bytes
  have hml : c.maxLocals = 11 := hml0
  have hown : s.vm.findClass "com/example/attribute_checker/attributechecker/checker/PagedBytesTruncatePinLaw" = some m.cls := findClass_of_methodNamed Bd.named
  have hnm := (name_of_methodNamed Bd.named Bd.method).1
  have X0 : Stand p l e room_1 s m #[(.int p1), (.int p2), (.int p3), (.int p4), (.int p5)] below meth c s₁ [] 0 0 := Stand.of_body Bd
  have e0 : s₁.heap = h0 := by rw [← hh, Bd.state]; rfl
  have N0 := Fr.nil n0
  obtain ⟨F0, hF0⟩ : ∃ F, F = mkF m 0 #[.val (.int p1), .val (.int p2), .val (.int p3), .val (.int p4), .val (.int p5), .unset, .unset, .unset, .unset, .unset, .unset] [] := ⟨_, rfl⟩
  have pre0 : ∀ t, Steps p.tables e below (s₁.setTop F0) t → Steps p.tables e below (s₁.setTop (entryFrame m #[(.int p1), (.int p2), (.int p3), (.int p4), (.int p5)] maxLocals)) t := fun t k => castTop ((ef_rm0_1 m p1 p2 p3 p4 p5).trans hF0.symm) k
  have K0 : Rch p e below s₁ F0 s₁ (mkF m 0 #[.val (.int p1), .val (.int p2), .val (.int p3), .val (.int p4), .val (.int p5), .unset, .unset, .unset, .unset, .unset, .unset] []) := fun t k => castTop hF0 k
  have K1 : Rch p e below s₁ F0 s₁ (mkF m 23 #[sI p1, sI p2, sI p3, sI p4, sI p5, sI (p1).toInt8.toInt32, sI (p2).toInt8.toInt32, sI (p3).toInt8.toInt32, sI (p5).toInt8.toInt32, sU, sU] [(kI ((p4 &&& (2147483647 : Int32)) - ((p4 &&& (2147483647 : Int32)) / (4 : Int32)) * (4 : Int32)))]) := fun t k => K0 t (by
    refine XS.iloadN X0.here hx rfl (hb hby at_0) rfl ?_
    refine XS.i2b X0.here hx rfl (hb hby at_1) rfl ?_
    refine XS.istore X0.here hx rfl (hb hby at_2) rfl (l' := #[sI p1, sI p2, sI p3, sI p4, sI p5, sI (p1).toInt8.toInt32, sU, sU, sU, sU, sU]) rfl ?_
    refine XS.iloadN X0.here hx rfl (hb hby at_4) rfl ?_
    refine XS.i2b X0.here hx rfl (hb hby at_5) rfl ?_
    refine XS.istore X0.here hx rfl (hb hby at_6) rfl (l' := #[sI p1, sI p2, sI p3, sI p4, sI p5, sI (p1).toInt8.toInt32, sI (p2).toInt8.toInt32, sU, sU, sU, sU]) rfl ?_
    show Steps p.tables e below (s₁.setTop (mkF m 8 #[sI p1, sI p2, sI p3, sI p4, sI p5, sI (p1).toInt8.toInt32, sI (p2).toInt8.toInt32, sU, sU, sU, sU] [])) _
    refine XS.iloadN X0.here hx rfl (hb hby at_8) rfl ?_
    refine XS.i2b X0.here hx rfl (hb hby at_9) rfl ?_
    refine XS.istore X0.here hx rfl (hb hby at_10) rfl (l' := #[sI p1, sI p2, sI p3, sI p4, sI p5, sI (p1).toInt8.toInt32, sI (p2).toInt8.toInt32, sI (p3).toInt8.toInt32, sU, sU, sU]) rfl ?_
    refine XS.iload X0.here hx rfl (hb hby at_12) rfl ?_
    refine XS.i2b X0.here hx rfl (hb hby at_14) rfl ?_
    refine XS.istore X0.here hx rfl (hb hby at_15) rfl (l' := #[sI p1, sI p2, sI p3, sI p4, sI p5, sI (p1).toInt8.toInt32, sI (p2).toInt8.toInt32, sI (p3).toInt8.toInt32, sI (p5).toInt8.toInt32, sU, sU]) rfl ?_
    show Steps p.tables e below (s₁.setTop (mkF m 17 #[sI p1, sI p2, sI p3, sI p4, sI p5, sI (p1).toInt8.toInt32, sI (p2).toInt8.toInt32, sI (p3).toInt8.toInt32, sI (p5).toInt8.toInt32, sU, sU] [])) _
    refine XS.iloadN X0.here hx rfl (hb hby at_17) rfl ?_
    refine X0.ldcInt hx hown (mvT hZ (hw _ (mi 0 rfl))) (g := (mkF m 18 #[sI p1, sI p2, sI p3, sI p4, sI p5, sI (p1).toInt8.toInt32, sI (p2).toInt8.toInt32, sI (p3).toInt8.toInt32, sI (p5).toInt8.toInt32, sU, sU] [(kI p4)])) rfl (hb hby at_18) _ ?_
    refine XS.iand X0.here hx rfl (hb hby at_20) rfl ?_
    refine XS.iconst X0.here hx rfl (hb hby at_21) ?_
    refine XS.irem X0.here hx rfl (hb hby at_22) rfl (by decide) ?_
    exact k)
  rw [show ((p4 &&& (2147483647 : Int32)) - ((p4 &&& (2147483647 : Int32)) / (4 : Int32)) * (4 : Int32)) = (1 : Int32) from hr0] at K1
  have K2 : Rch p e below s₁ F0 s₁ (mkF m 25 #[sI p1, sI p2, sI p3, sI p4, sI p5, sI (p1).toInt8.toInt32, sI (p2).toInt8.toInt32, sI (p3).toInt8.toInt32, sI (p5).toInt8.toInt32, sI 1, sU] []) := fun t k => K1 t (XS.istore X0.here hx rfl (hb hby at_23) rfl (l' := #[sI p1, sI p2, sI p3, sI p4, sI p5, sI (p1).toInt8.toInt32, sI (p2).toInt8.toInt32, sI (p3).toInt8.toInt32, sI (p5).toInt8.toInt32, sI 1, sU]) rfl k)
  obtain ⟨T3, h3, a3, X3, e3, W3q, st3⟩ := newWO X0 hx hZ hown (hw _ (mi 1 rfl)) (hw _ (mi 2 rfl)) (hw _ (mi 3 rfl)) e0 W0 (own_lPB hw) (vs := [.null, (.int (0 : Int32))]) own_vPB (g := K2.g) rfl (hb hby at_25) (by decide : 0 + 1 ≤ _) (by decide : 0 + 2 ≤ _)
  have W3 : Wo n0 h3 [(a3, oPB Z [.null, (kI 0)])] := W3q
  have K4 : Rch p e below s₁ F0 T3 (mkF m 29 #[sI p1, sI p2, sI p3, sI p4, sI p5, sI (p1).toInt8.toInt32, sI (p2).toInt8.toInt32, sI (p3).toInt8.toInt32, sI (p5).toInt8.toInt32, sI 1, sU] [(kR a3), (kR a3)]) := fun t k => K2 t (st3 t (XS.dup X3.here hx rfl (hb hby at_28) rfl rfl k))
  have W5 : Wo n0 h3 [(a3, oPB Z [.null, (kI 0)])] := (Wo.front W3 (i := 0) rfl)
  obtain ⟨_, _, ⟨T6, L6, k6, n6⟩, -, X6, ⟨Lc6, hQ6, l6, y6, z6⟩, st6⟩ := X3.specialBack hx (y := (⟨"com/example/attribute_checker/attributechecker/checker/PagedBytes", "<init>", "()V"⟩ : MethodName)) rfl hown (mvT hZ (hw _ (mi 4 rfl))) (mvT hZ (hw _ (mi 5 rfl))) (mvT hZ (hw _ (mi 6 rfl))) (by decide) (backOf (W := 1) (rmI l Z a0 hw [] a3 ([]) h3 n0 W5) hZ (hw _ (mi 6 rfl)) (hw _ (mi 3 rfl)) (by decide) (by decide)) (g := K4.g) rfl (by rw [hml]; rfl) (Steps.refl _) (a := a3) (argsL := []) (rest := [(.ref a3)]) (lenOf pd_init rfl) rfl (by show 2 * 0 + _ ≤ _; exact Nat.le_of_eq rfl) (hb hby at_29) (fun _ _ => ⟨rfl, e3, (by decide : 1 + 1 ≤ _), (by decide : 2 + 8 ≤ _)⟩)
  dsimp only [Pt.U, Pt.locs, Pt.cells, Pt.slots] at X6 l6 y6 z6 st6 hQ6
  subst l6 y6 z6
  obtain ⟨rfl, N6q, ⟨p6, W6⟩⟩ := hQ6
  have N6 := Fr.app N0 N6q
  have K7 : Rch p e below s₁ F0 T6 (mkF m 38 #[sI p1, sI p2, sI p3, sI p4, sI p5, sI (p1).toInt8.toInt32, sI (p2).toInt8.toInt32, sI (p3).toInt8.toInt32, sI (p5).toInt8.toInt32, sI 1, sR a3] [(kI (p1).toInt8.toInt32), (kR a3)]) := fun t k => K4 t (st6.trans (by
    refine XS.astore X6.here hx rfl (hb hby at_32) rfl rfl (l' := #[sI p1, sI p2, sI p3, sI p4, sI p5, sI (p1).toInt8.toInt32, sI (p2).toInt8.toInt32, sI (p3).toInt8.toInt32, sI (p5).toInt8.toInt32, sI 1, sR a3]) rfl ?_
    refine XS.aload X6.here hx rfl (hb hby at_34) rfl rfl ?_
    refine XS.iload X6.here hx rfl (hb hby at_36) rfl ?_
    exact k))
  have W8 : Wo n0 T6.heap [(a3, oPB Z [(kR p6), (kI 0)]), (p6, Pg Z .byte 8 zN)] := (Wo.front (Wo.front W6 (i := 0) rfl) (i := 1) rfl)
  obtain ⟨cq9, kq9, q9a, q9b, q9c⟩ := isOf hZ (rfl : T6.heap = T6.heap) (W8.exa (i := 0) rfl)
  obtain ⟨_, _, ⟨T9, L9, k9, n9⟩, -, X9, ⟨Lc9, hQ9, l9, y9, z9⟩, st9⟩ := X6.virtualBack hx (y := (⟨"com/example/attribute_checker/attributechecker/checker/PagedBytes", "add", "(B)V"⟩ : MethodName)) (z := (⟨"com/example/attribute_checker/attributechecker/checker/PagedBytes", "add", "(B)V"⟩ : MethodName)) hown (mvT hZ (hw _ (mi 14 rfl))) (mvT hZ (hw _ (mi 15 rfl))) (notFace_of_selects (args := #[]) (mvT hZ (hw _ (mi 17 rfl)))) (mvT hZ (hw _ (mi 17 rfl))) (mvT hZ (hw _ (mi 16 rfl))) (by decide) (backOf (W := 0) (rmA l Z a0 hw [] a3 p6 (p1).toInt8.toInt32 zN ([]) T6.heap n0 W8 rfl) hZ (hw _ (mi 18 rfl)) (hw _ (mi 3 rfl)) (by decide) (by decide)) q9a q9c (g := K7.g) rfl (by rw [hml]; rfl) (Steps.refl _) (argsL := [(.int (p1).toInt8.toInt32)]) (rest := []) (lenOf pd_add rfl) rfl (by show 2 * 0 + _ ≤ _; exact Nat.le_of_eq rfl) (hb hby at_38) (fun _ _ => ⟨rfl, (rfl : T6.heap = T6.heap), (by decide : 2 + 1 ≤ _), (by decide : 10 + 256 ≤ _)⟩)
  dsimp only [Pt.U, Pt.locs, Pt.cells, Pt.slots] at X9 l9 y9 z9 st9 hQ9
  subst l9 y9 z9
  obtain ⟨rfl, N9q, ⟨b9, W9⟩⟩ := hQ9
  have N9 := Fr.app N6 N9q
  have K10 : Rch p e below s₁ F0 T9 (mkF m 45 #[sI p1, sI p2, sI p3, sI p4, sI p5, sI (p1).toInt8.toInt32, sI (p2).toInt8.toInt32, sI (p3).toInt8.toInt32, sI (p5).toInt8.toInt32, sI 1, sR a3] [(kI (p2).toInt8.toInt32), (kR a3)]) := fun t k => K7 t (st9.trans (by
    refine XS.aload X9.here hx rfl (hb hby at_41) rfl rfl ?_
    refine XS.iload X9.here hx rfl (hb hby at_43) rfl ?_
    exact k))
  have W11 : Wo n0 T9.heap [(a3, oPB Z [(kR p6), (kI 1)]), (p6, Pg Z .byte 8 (upd zN 0 (kR b9))), (b9, Ar Z .byte 256 (upd zI 0 (kI ((p1).toInt8.toInt32).toInt8.toInt32)))] := (Wo.front (Wo.front (Wo.front W9 (i := 0) rfl) (i := 2) rfl) (i := 2) rfl)
  obtain ⟨cq12, kq12, q12a, q12b, q12c⟩ := isOf hZ (rfl : T9.heap = T9.heap) (W11.exa (i := 0) rfl)
  obtain ⟨_, _, ⟨T12, L12, k12, n12⟩, -, X12, ⟨Lc12, hQ12, l12, y12, z12⟩, st12⟩ := X9.virtualBack hx (y := (⟨"com/example/attribute_checker/attributechecker/checker/PagedBytes", "add", "(B)V"⟩ : MethodName)) (z := (⟨"com/example/attribute_checker/attributechecker/checker/PagedBytes", "add", "(B)V"⟩ : MethodName)) hown (mvT hZ (hw _ (mi 14 rfl))) (mvT hZ (hw _ (mi 15 rfl))) (notFace_of_selects (args := #[]) (mvT hZ (hw _ (mi 17 rfl)))) (mvT hZ (hw _ (mi 17 rfl))) (mvT hZ (hw _ (mi 16 rfl))) (by decide) (backOf (W := 0) (rmA1 l Z a0 hw [] a3 p6 b9 (p2).toInt8.toInt32 (upd zN 0 (kR b9)) (upd zI 0 (kI ((p1).toInt8.toInt32).toInt8.toInt32)) ([]) T9.heap n0 W11 rfl) hZ (hw _ (mi 18 rfl)) (hw _ (mi 3 rfl)) (by decide) (by decide)) q12a q12c (g := K10.g) rfl (by rw [hml]; rfl) (Steps.refl _) (argsL := [(.int (p2).toInt8.toInt32)]) (rest := []) (lenOf pd_add rfl) rfl (by show 2 * 0 + _ ≤ _; exact Nat.le_of_eq rfl) (hb hby at_45) (fun _ _ => ⟨rfl, (rfl : T9.heap = T9.heap), (by decide : 3 + 0 ≤ _), (by decide : 266 + 0 ≤ _)⟩)
  dsimp only [Pt.U, Pt.locs, Pt.cells, Pt.slots] at X12 l12 y12 z12 st12 hQ12
  subst l12 y12 z12
  obtain ⟨rfl, N12q, W12⟩ := hQ12
  have N12 := Fr.app N9 N12q
  have K13 : Rch p e below s₁ F0 T12 (mkF m 52 #[sI p1, sI p2, sI p3, sI p4, sI p5, sI (p1).toInt8.toInt32, sI (p2).toInt8.toInt32, sI (p3).toInt8.toInt32, sI (p5).toInt8.toInt32, sI 1, sR a3] [(kI (p3).toInt8.toInt32), (kR a3)]) := fun t k => K10 t (st12.trans (by
    refine XS.aload X12.here hx rfl (hb hby at_48) rfl rfl ?_
    refine XS.iload X12.here hx rfl (hb hby at_50) rfl ?_
    exact k))
  have W14 : Wo n0 T12.heap [(a3, oPB Z [(kR p6), (kI 2)]), (p6, Pg Z .byte 8 (upd zN 0 (kR b9))), (b9, Ar Z .byte 256 (upd (upd zI 0 (kI ((p1).toInt8.toInt32).toInt8.toInt32)) 1 (kI ((p2).toInt8.toInt32).toInt8.toInt32)))] := (Wo.front (Wo.front (Wo.front W12 (i := 2) rfl) (i := 2) rfl) (i := 2) rfl)
  obtain ⟨cq15, kq15, q15a, q15b, q15c⟩ := isOf hZ (rfl : T12.heap = T12.heap) (W14.exa (i := 0) rfl)
  obtain ⟨_, _, ⟨T15, L15, k15, n15⟩, -, X15, ⟨Lc15, hQ15, l15, y15, z15⟩, st15⟩ := X12.virtualBack hx (y := (⟨"com/example/attribute_checker/attributechecker/checker/PagedBytes", "add", "(B)V"⟩ : MethodName)) (z := (⟨"com/example/attribute_checker/attributechecker/checker/PagedBytes", "add", "(B)V"⟩ : MethodName)) hown (mvT hZ (hw _ (mi 14 rfl))) (mvT hZ (hw _ (mi 15 rfl))) (notFace_of_selects (args := #[]) (mvT hZ (hw _ (mi 17 rfl)))) (mvT hZ (hw _ (mi 17 rfl))) (mvT hZ (hw _ (mi 16 rfl))) (by decide) (backOf (W := 0) (rmA2 l Z a0 hw [] a3 p6 b9 (p3).toInt8.toInt32 (upd zN 0 (kR b9)) (upd (upd zI 0 (kI ((p1).toInt8.toInt32).toInt8.toInt32)) 1 (kI ((p2).toInt8.toInt32).toInt8.toInt32)) ([]) T12.heap n0 W14 rfl) hZ (hw _ (mi 18 rfl)) (hw _ (mi 3 rfl)) (by decide) (by decide)) q15a q15c (g := K13.g) rfl (by rw [hml]; rfl) (Steps.refl _) (argsL := [(.int (p3).toInt8.toInt32)]) (rest := []) (lenOf pd_add rfl) rfl (by show 2 * 0 + _ ≤ _; exact Nat.le_of_eq rfl) (hb hby at_52) (fun _ _ => ⟨rfl, (rfl : T12.heap = T12.heap), (by decide : 3 + 0 ≤ _), (by decide : 266 + 0 ≤ _)⟩)
  dsimp only [Pt.U, Pt.locs, Pt.cells, Pt.slots] at X15 l15 y15 z15 st15 hQ15
  subst l15 y15 z15
  obtain ⟨rfl, N15q, W15⟩ := hQ15
  have N15 := Fr.app N12 N15q
  have K16 : Rch p e below s₁ F0 T15 (mkF m 59 #[sI p1, sI p2, sI p3, sI p4, sI p5, sI (p1).toInt8.toInt32, sI (p2).toInt8.toInt32, sI (p3).toInt8.toInt32, sI (p5).toInt8.toInt32, sI 1, sR a3] [(kI 1), (kR a3)]) := fun t k => K13 t (st15.trans (by
    refine XS.aload X15.here hx rfl (hb hby at_55) rfl rfl ?_
    refine XS.iload X15.here hx rfl (hb hby at_57) rfl ?_
    exact k))
  have W17 : Wo n0 T15.heap [(a3, oPB Z [(kR p6), (kI 3)]), (p6, Pg Z .byte 8 (upd zN 0 (kR b9))), (b9, Ar Z .byte 256 (upd (upd (upd zI 0 (kI ((p1).toInt8.toInt32).toInt8.toInt32)) 1 (kI ((p2).toInt8.toInt32).toInt8.toInt32)) 2 (kI ((p3).toInt8.toInt32).toInt8.toInt32)))] := (Wo.front (Wo.front W15 (i := 1) rfl) (i := 1) rfl)
  obtain ⟨cq18, kq18, q18a, q18b, q18c⟩ := isOf hZ (rfl : T15.heap = T15.heap) (W17.exa (i := 0) rfl)
  obtain ⟨_, _, ⟨T18, L18, k18, n18⟩, -, X18, ⟨Lc18, hQ18, l18, y18, z18⟩, st18⟩ := X15.virtualBack hx (y := (⟨"com/example/attribute_checker/attributechecker/checker/PagedBytes", "truncate", "(I)V"⟩ : MethodName)) (z := (⟨"com/example/attribute_checker/attributechecker/checker/PagedBytes", "truncate", "(I)V"⟩ : MethodName)) hown (mvT hZ (hw _ (mi 25 rfl))) (mvT hZ (hw _ (mi 26 rfl))) (notFace_of_selects (args := #[]) (mvT hZ (hw _ (mi 28 rfl)))) (mvT hZ (hw _ (mi 28 rfl))) (mvT hZ (hw _ (mi 27 rfl))) (by decide) (backOf (W := 0) (rmT1 l Z a0 hw [] a3 p6 (3 : Int32) (upd zN 0 (kR b9)) ((b9, Ar Z .byte 256 (upd (upd (upd zI 0 (kI ((p1).toInt8.toInt32).toInt8.toInt32)) 1 (kI ((p2).toInt8.toInt32).toInt8.toInt32)) 2 (kI ((p3).toInt8.toInt32).toInt8.toInt32))) :: []) T15.heap n0 W17) hZ (hw _ (mi 29 rfl)) (hw _ (mi 3 rfl)) (by decide) (by decide)) q18a q18c (g := K16.g) rfl (by rw [hml]; rfl) (Steps.refl _) (argsL := [(.int (1 : Int32))]) (rest := []) (lenOf pd_tr rfl) rfl (by show 2 * 0 + _ ≤ _; exact Nat.le_of_eq rfl) (hb hby at_59) (fun _ _ => ⟨rfl, (rfl : T15.heap = T15.heap), (by decide : 3 + 0 ≤ _), (by decide : 266 + 0 ≤ _)⟩)
  dsimp only [Pt.U, Pt.locs, Pt.cells, Pt.slots] at X18 l18 y18 z18 st18 hQ18
  subst l18 y18 z18
  obtain ⟨rfl, N18q, W18⟩ := hQ18
  have N18 := Fr.app N15 N18q
  have K19 : Rch p e below s₁ F0 T18 (mkF m 64 #[sI p1, sI p2, sI p3, sI p4, sI p5, sI (p1).toInt8.toInt32, sI (p2).toInt8.toInt32, sI (p3).toInt8.toInt32, sI (p5).toInt8.toInt32, sI 1, sR a3] [(kR a3)]) := fun t k => K16 t (st18.trans (XS.aload X18.here hx rfl (hb hby at_62) rfl rfl k))
  have W20 : Wo n0 T18.heap [(a3, oPB Z [(kR p6), (kI 1)]), (p6, Pg Z .byte 8 (upd (upd (upd (upd (upd (upd (upd (upd zN 0 (kR b9)) 1 .null) 2 .null) 3 .null) 4 .null) 5 .null) 6 .null) 7 .null)), (b9, Ar Z .byte 256 (upd (upd (upd zI 0 (kI ((p1).toInt8.toInt32).toInt8.toInt32)) 1 (kI ((p2).toInt8.toInt32).toInt8.toInt32)) 2 (kI ((p3).toInt8.toInt32).toInt8.toInt32)))] := (Wo.front W18 (i := 0) rfl)
  obtain ⟨cq21, kq21, q21a, q21b, q21c⟩ := isOf hZ (rfl : T18.heap = T18.heap) (W20.exa (i := 0) rfl)
  obtain ⟨_, _, ⟨T21, L21, k21, n21⟩, -, X21, ⟨Lc21, hQ21, l21, y21, z21⟩, st21⟩ := X18.virtualBack hx (y := (⟨"com/example/attribute_checker/attributechecker/checker/PagedBytes", "size", "()I"⟩ : MethodName)) (z := (⟨"com/example/attribute_checker/attributechecker/checker/PagedBytes", "size", "()I"⟩ : MethodName)) hown (mvT hZ (hw _ (mi 31 rfl))) (mvT hZ (hw _ (mi 32 rfl))) (notFace_of_selects (args := #[]) (mvT hZ (hw _ (mi 34 rfl)))) (mvT hZ (hw _ (mi 34 rfl))) (mvT hZ (hw _ (mi 33 rfl))) (by decide) (backOf (W := 0) (rmS l Z a0 hw [] a3 p6 (1 : Int32) ((p6, Pg Z .byte 8 (upd (upd (upd (upd (upd (upd (upd (upd zN 0 (kR b9)) 1 .null) 2 .null) 3 .null) 4 .null) 5 .null) 6 .null) 7 .null)) :: (b9, Ar Z .byte 256 (upd (upd (upd zI 0 (kI ((p1).toInt8.toInt32).toInt8.toInt32)) 1 (kI ((p2).toInt8.toInt32).toInt8.toInt32)) 2 (kI ((p3).toInt8.toInt32).toInt8.toInt32))) :: []) T18.heap n0 W20) hZ (hw _ (mi 35 rfl)) (hw _ (mi 3 rfl)) (by decide) (by decide)) q21a q21c (g := K19.g) rfl (by rw [hml]; rfl) (Steps.refl _) (argsL := []) (rest := []) (lenOf pd_size rfl) rfl (by show 2 * 0 + _ ≤ _; exact Nat.le_of_eq rfl) (hb hby at_64) (fun _ _ => ⟨rfl, (rfl : T18.heap = T18.heap), (by decide : 3 + 0 ≤ _), (by decide : 266 + 0 ≤ _)⟩)
  dsimp only [Pt.U, Pt.locs, Pt.cells, Pt.slots] at X21 l21 y21 z21 st21 hQ21
  subst l21 y21 z21
  obtain ⟨rfl, N21q, W21⟩ := hQ21
  have N21 := Fr.app N18 N21q
  have K22 : Rch p e below s₁ F0 T21 (mkF m 78 #[sI p1, sI p2, sI p3, sI p4, sI p5, sI (p1).toInt8.toInt32, sI (p2).toInt8.toInt32, sI (p3).toInt8.toInt32, sI (p5).toInt8.toInt32, sI 1, sR a3] [(kI (p5).toInt8.toInt32), (kR a3)]) := fun t k => K19 t (st21.trans (by
    refine XS.iload X21.here hx rfl (hb hby at_67) rfl ?_
    refine XS.icmpYes X21.here hx rfl (pc0 := 69) (pc' := 74) rfl (hb hby at_69) rfl (by decide) (by decide) (by decide) ?_
    refine XS.aload X21.here hx rfl (hb hby at_74) rfl rfl ?_
    refine XS.iload X21.here hx rfl (hb hby at_76) rfl ?_
    exact k))
  have W23 : Wo n0 T21.heap [(a3, oPB Z [(kR p6), (kI 1)]), (p6, Pg Z .byte 8 (upd (upd (upd (upd (upd (upd (upd (upd zN 0 (kR b9)) 1 .null) 2 .null) 3 .null) 4 .null) 5 .null) 6 .null) 7 .null)), (b9, Ar Z .byte 256 (upd (upd (upd zI 0 (kI ((p1).toInt8.toInt32).toInt8.toInt32)) 1 (kI ((p2).toInt8.toInt32).toInt8.toInt32)) 2 (kI ((p3).toInt8.toInt32).toInt8.toInt32)))] := (Wo.front (Wo.front (Wo.front W21 (i := 2) rfl) (i := 2) rfl) (i := 2) rfl)
  obtain ⟨cq24, kq24, q24a, q24b, q24c⟩ := isOf hZ (rfl : T21.heap = T21.heap) (W23.exa (i := 0) rfl)
  obtain ⟨_, _, ⟨T24, L24, k24, n24⟩, -, X24, ⟨Lc24, hQ24, l24, y24, z24⟩, st24⟩ := X21.virtualBack hx (y := (⟨"com/example/attribute_checker/attributechecker/checker/PagedBytes", "add", "(B)V"⟩ : MethodName)) (z := (⟨"com/example/attribute_checker/attributechecker/checker/PagedBytes", "add", "(B)V"⟩ : MethodName)) hown (mvT hZ (hw _ (mi 14 rfl))) (mvT hZ (hw _ (mi 15 rfl))) (notFace_of_selects (args := #[]) (mvT hZ (hw _ (mi 17 rfl)))) (mvT hZ (hw _ (mi 17 rfl))) (mvT hZ (hw _ (mi 16 rfl))) (by decide) (backOf (W := 0) (rmA1 l Z a0 hw [] a3 p6 b9 (p5).toInt8.toInt32 (upd (upd (upd (upd (upd (upd (upd (upd zN 0 (kR b9)) 1 .null) 2 .null) 3 .null) 4 .null) 5 .null) 6 .null) 7 .null) (upd (upd (upd zI 0 (kI ((p1).toInt8.toInt32).toInt8.toInt32)) 1 (kI ((p2).toInt8.toInt32).toInt8.toInt32)) 2 (kI ((p3).toInt8.toInt32).toInt8.toInt32)) ([]) T21.heap n0 W23 rfl) hZ (hw _ (mi 18 rfl)) (hw _ (mi 3 rfl)) (by decide) (by decide)) q24a q24c (g := K22.g) rfl (by rw [hml]; rfl) (Steps.refl _) (argsL := [(.int (p5).toInt8.toInt32)]) (rest := []) (lenOf pd_add rfl) rfl (by show 2 * 0 + _ ≤ _; exact Nat.le_of_eq rfl) (hb hby at_78) (fun _ _ => ⟨rfl, (rfl : T21.heap = T21.heap), (by decide : 3 + 0 ≤ _), (by decide : 266 + 0 ≤ _)⟩)
  dsimp only [Pt.U, Pt.locs, Pt.cells, Pt.slots] at X24 l24 y24 z24 st24 hQ24
  subst l24 y24 z24
  obtain ⟨rfl, N24q, W24⟩ := hQ24
  have N24 := Fr.app N21 N24q
  have K25 : Rch p e below s₁ F0 T24 (mkF m 83 #[sI p1, sI p2, sI p3, sI p4, sI p5, sI (p1).toInt8.toInt32, sI (p2).toInt8.toInt32, sI (p3).toInt8.toInt32, sI (p5).toInt8.toInt32, sI 1, sR a3] [(kR a3)]) := fun t k => K22 t (st24.trans (XS.aload X24.here hx rfl (hb hby at_81) rfl rfl k))
  have W26 : Wo n0 T24.heap [(a3, oPB Z [(kR p6), (kI 2)]), (p6, Pg Z .byte 8 (upd (upd (upd (upd (upd (upd (upd (upd zN 0 (kR b9)) 1 .null) 2 .null) 3 .null) 4 .null) 5 .null) 6 .null) 7 .null)), (b9, Ar Z .byte 256 (upd (upd (upd (upd zI 0 (kI ((p1).toInt8.toInt32).toInt8.toInt32)) 1 (kI ((p2).toInt8.toInt32).toInt8.toInt32)) 2 (kI ((p3).toInt8.toInt32).toInt8.toInt32)) 1 (kI ((p5).toInt8.toInt32).toInt8.toInt32)))] := (Wo.front W24 (i := 0) rfl)
  obtain ⟨cq27, kq27, q27a, q27b, q27c⟩ := isOf hZ (rfl : T24.heap = T24.heap) (W26.exa (i := 0) rfl)
  obtain ⟨_, _, ⟨T27, L27, k27, n27⟩, -, X27, ⟨Lc27, hQ27, l27, y27, z27⟩, st27⟩ := X24.virtualBack hx (y := (⟨"com/example/attribute_checker/attributechecker/checker/PagedBytes", "size", "()I"⟩ : MethodName)) (z := (⟨"com/example/attribute_checker/attributechecker/checker/PagedBytes", "size", "()I"⟩ : MethodName)) hown (mvT hZ (hw _ (mi 31 rfl))) (mvT hZ (hw _ (mi 32 rfl))) (notFace_of_selects (args := #[]) (mvT hZ (hw _ (mi 34 rfl)))) (mvT hZ (hw _ (mi 34 rfl))) (mvT hZ (hw _ (mi 33 rfl))) (by decide) (backOf (W := 0) (rmS l Z a0 hw [] a3 p6 (2 : Int32) ((p6, Pg Z .byte 8 (upd (upd (upd (upd (upd (upd (upd (upd zN 0 (kR b9)) 1 .null) 2 .null) 3 .null) 4 .null) 5 .null) 6 .null) 7 .null)) :: (b9, Ar Z .byte 256 (upd (upd (upd (upd zI 0 (kI ((p1).toInt8.toInt32).toInt8.toInt32)) 1 (kI ((p2).toInt8.toInt32).toInt8.toInt32)) 2 (kI ((p3).toInt8.toInt32).toInt8.toInt32)) 1 (kI ((p5).toInt8.toInt32).toInt8.toInt32))) :: []) T24.heap n0 W26) hZ (hw _ (mi 35 rfl)) (hw _ (mi 3 rfl)) (by decide) (by decide)) q27a q27c (g := K25.g) rfl (by rw [hml]; rfl) (Steps.refl _) (argsL := []) (rest := []) (lenOf pd_size rfl) rfl (by show 2 * 0 + _ ≤ _; exact Nat.le_of_eq rfl) (hb hby at_83) (fun _ _ => ⟨rfl, (rfl : T24.heap = T24.heap), (by decide : 3 + 0 ≤ _), (by decide : 266 + 0 ≤ _)⟩)
  dsimp only [Pt.U, Pt.locs, Pt.cells, Pt.slots] at X27 l27 y27 z27 st27 hQ27
  subst l27 y27 z27
  obtain ⟨rfl, N27q, W27⟩ := hQ27
  have N27 := Fr.app N24 N27q
  have K28 : Rch p e below s₁ F0 T27 (mkF m 99 #[sI p1, sI p2, sI p3, sI p4, sI p5, sI (p1).toInt8.toInt32, sI (p2).toInt8.toInt32, sI (p3).toInt8.toInt32, sI (p5).toInt8.toInt32, sI 1, sR a3] [(kI 1), (kR a3)]) := fun t k => K25 t (st27.trans (by
    refine XS.iload X27.here hx rfl (hb hby at_86) rfl ?_
    refine XS.iconst X27.here hx rfl (hb hby at_88) ?_
    refine XS.iadd X27.here hx rfl (hb hby at_89) rfl ?_
    refine XS.icmpYes X27.here hx rfl (pc0 := 90) (pc' := 95) rfl (hb hby at_90) rfl (by decide) (by decide) (by decide) ?_
    refine XS.aload X27.here hx rfl (hb hby at_95) rfl rfl ?_
    refine XS.iload X27.here hx rfl (hb hby at_97) rfl ?_
    exact k))
  have W29 : Wo n0 T27.heap [(a3, oPB Z [(kR p6), (kI 2)]), (p6, Pg Z .byte 8 (upd (upd (upd (upd (upd (upd (upd (upd zN 0 (kR b9)) 1 .null) 2 .null) 3 .null) 4 .null) 5 .null) 6 .null) 7 .null)), (b9, Ar Z .byte 256 (upd (upd (upd (upd zI 0 (kI ((p1).toInt8.toInt32).toInt8.toInt32)) 1 (kI ((p2).toInt8.toInt32).toInt8.toInt32)) 2 (kI ((p3).toInt8.toInt32).toInt8.toInt32)) 1 (kI ((p5).toInt8.toInt32).toInt8.toInt32)))] := (Wo.front (Wo.front (Wo.front W27 (i := 2) rfl) (i := 2) rfl) (i := 2) rfl)
  obtain ⟨cq30, kq30, q30a, q30b, q30c⟩ := isOf hZ (rfl : T27.heap = T27.heap) (W29.exa (i := 0) rfl)
  obtain ⟨_, _, ⟨T30, L30, k30, n30⟩, -, X30, ⟨Lc30, hQ30, l30, y30, z30⟩, st30⟩ := X27.virtualBack hx (y := (⟨"com/example/attribute_checker/attributechecker/checker/PagedBytes", "get", "(I)B"⟩ : MethodName)) (z := (⟨"com/example/attribute_checker/attributechecker/checker/PagedBytes", "get", "(I)B"⟩ : MethodName)) hown (mvT hZ (hw _ (mi 36 rfl))) (mvT hZ (hw _ (mi 37 rfl))) (notFace_of_selects (args := #[]) (mvT hZ (hw _ (mi 39 rfl)))) (mvT hZ (hw _ (mi 39 rfl))) (mvT hZ (hw _ (mi 38 rfl))) (by decide) (backOf (W := 0) (rmG1 l Z a0 hw [] a3 p6 b9 (2 : Int32) ((p5).toInt8.toInt32).toInt8.toInt32 (upd (upd (upd (upd (upd (upd (upd (upd zN 0 (kR b9)) 1 .null) 2 .null) 3 .null) 4 .null) 5 .null) 6 .null) 7 .null) (upd (upd (upd (upd zI 0 (kI ((p1).toInt8.toInt32).toInt8.toInt32)) 1 (kI ((p2).toInt8.toInt32).toInt8.toInt32)) 2 (kI ((p3).toInt8.toInt32).toInt8.toInt32)) 1 (kI ((p5).toInt8.toInt32).toInt8.toInt32)) ([]) T27.heap n0 W29 rfl rfl) hZ (hw _ (mi 40 rfl)) (hw _ (mi 3 rfl)) (by decide) (by decide)) q30a q30c (g := K28.g) rfl (by rw [hml]; rfl) (Steps.refl _) (argsL := [(.int (1 : Int32))]) (rest := []) (lenOf pd_get rfl) rfl (by show 2 * 0 + _ ≤ _; exact Nat.le_of_eq rfl) (hb hby at_99) (fun _ _ => ⟨rfl, (rfl : T27.heap = T27.heap), (by decide : 3 + 0 ≤ _), (by decide : 266 + 0 ≤ _)⟩)
  dsimp only [Pt.U, Pt.locs, Pt.cells, Pt.slots] at X30 l30 y30 z30 st30 hQ30
  subst l30 y30 z30
  obtain ⟨rfl, N30q, W30⟩ := hQ30
  have N30 := Fr.app N27 N30q
  have K31 : Rch p e below s₁ F0 T30 (mkF m 118 #[sI p1, sI p2, sI p3, sI p4, sI p5, sI (p1).toInt8.toInt32, sI (p2).toInt8.toInt32, sI (p3).toInt8.toInt32, sI (p5).toInt8.toInt32, sI 1, sR a3] [(kI 0), (kR a3)]) := fun t k => K28 t (st30.trans (by
    refine XS.iload X30.here hx rfl (hb hby at_102) rfl ?_
    refine XS.icmpYes X30.here hx rfl (pc0 := 104) (pc' := 109) rfl (hb hby at_104) rfl (teq (own_b p5)).1 (by decide) (by decide) ?_
    refine XS.iload X30.here hx rfl (hb hby at_109) rfl ?_
    refine XS.iconst X30.here hx rfl (hb hby at_111) ?_
    refine XS.icmpNo X30.here hx rfl (hb hby at_112) rfl (by decide) ?_
    refine XS.aload X30.here hx rfl (hb hby at_115) rfl rfl ?_
    show Steps p.tables e below (T30.setTop (mkF m 117 #[sI p1, sI p2, sI p3, sI p4, sI p5, sI (p1).toInt8.toInt32, sI (p2).toInt8.toInt32, sI (p3).toInt8.toInt32, sI (p5).toInt8.toInt32, sI 1, sR a3] [(kR a3)])) _
    refine XS.iconst X30.here hx rfl (hb hby at_117) ?_
    exact k))
  have W32 : Wo n0 T30.heap [(a3, oPB Z [(kR p6), (kI 2)]), (p6, Pg Z .byte 8 (upd (upd (upd (upd (upd (upd (upd (upd zN 0 (kR b9)) 1 .null) 2 .null) 3 .null) 4 .null) 5 .null) 6 .null) 7 .null)), (b9, Ar Z .byte 256 (upd (upd (upd (upd zI 0 (kI ((p1).toInt8.toInt32).toInt8.toInt32)) 1 (kI ((p2).toInt8.toInt32).toInt8.toInt32)) 2 (kI ((p3).toInt8.toInt32).toInt8.toInt32)) 1 (kI ((p5).toInt8.toInt32).toInt8.toInt32)))] := (Wo.front (Wo.front (Wo.front W30 (i := 2) rfl) (i := 2) rfl) (i := 2) rfl)
  obtain ⟨cq33, kq33, q33a, q33b, q33c⟩ := isOf hZ (rfl : T30.heap = T30.heap) (W32.exa (i := 0) rfl)
  obtain ⟨_, _, ⟨T33, L33, k33, n33⟩, -, X33, ⟨Lc33, hQ33, l33, y33, z33⟩, st33⟩ := X30.virtualBack hx (y := (⟨"com/example/attribute_checker/attributechecker/checker/PagedBytes", "get", "(I)B"⟩ : MethodName)) (z := (⟨"com/example/attribute_checker/attributechecker/checker/PagedBytes", "get", "(I)B"⟩ : MethodName)) hown (mvT hZ (hw _ (mi 36 rfl))) (mvT hZ (hw _ (mi 37 rfl))) (notFace_of_selects (args := #[]) (mvT hZ (hw _ (mi 39 rfl)))) (mvT hZ (hw _ (mi 39 rfl))) (mvT hZ (hw _ (mi 38 rfl))) (by decide) (backOf (W := 0) (rmG0 l Z a0 hw [] a3 p6 b9 (2 : Int32) ((p1).toInt8.toInt32).toInt8.toInt32 (upd (upd (upd (upd (upd (upd (upd (upd zN 0 (kR b9)) 1 .null) 2 .null) 3 .null) 4 .null) 5 .null) 6 .null) 7 .null) (upd (upd (upd (upd zI 0 (kI ((p1).toInt8.toInt32).toInt8.toInt32)) 1 (kI ((p2).toInt8.toInt32).toInt8.toInt32)) 2 (kI ((p3).toInt8.toInt32).toInt8.toInt32)) 1 (kI ((p5).toInt8.toInt32).toInt8.toInt32)) ([]) T30.heap n0 W32 rfl rfl) hZ (hw _ (mi 40 rfl)) (hw _ (mi 3 rfl)) (by decide) (by decide)) q33a q33c (g := K31.g) rfl (by rw [hml]; rfl) (Steps.refl _) (argsL := [(.int (0 : Int32))]) (rest := []) (lenOf pd_get rfl) rfl (by show 2 * 0 + _ ≤ _; exact Nat.le_of_eq rfl) (hb hby at_118) (fun _ _ => ⟨rfl, (rfl : T30.heap = T30.heap), (by decide : 3 + 0 ≤ _), (by decide : 266 + 0 ≤ _)⟩)
  dsimp only [Pt.U, Pt.locs, Pt.cells, Pt.slots] at X33 l33 y33 z33 st33 hQ33
  subst l33 y33 z33
  obtain ⟨rfl, N33q, W33⟩ := hQ33
  have N33 := Fr.app N30 N33q
  have K34 : Rch p e below s₁ F0 T33 (mkF m 167 #[sI p1, sI p2, sI p3, sI p4, sI p5, sI (p1).toInt8.toInt32, sI (p2).toInt8.toInt32, sI (p3).toInt8.toInt32, sI (p5).toInt8.toInt32, sI 1, sR a3] [(kI 1)]) := fun t k => K31 t (st33.trans (by
    refine XS.iload X33.here hx rfl (hb hby at_121) rfl ?_
    refine XS.icmpYes X33.here hx rfl (pc0 := 123) (pc' := 128) rfl (hb hby at_123) rfl (teq (own_b p1)).1 (by decide) (by decide) ?_
    refine XS.iload X33.here hx rfl (hb hby at_128) rfl ?_
    refine XS.iconst X33.here hx rfl (hb hby at_130) ?_
    refine XS.icmpYes X33.here hx rfl (pc0 := 131) (pc' := 147) rfl (hb hby at_131) rfl (by decide) (by decide) (by decide) ?_
    refine XS.iload X33.here hx rfl (hb hby at_147) rfl ?_
    show Steps p.tables e below (T33.setTop (mkF m 149 #[sI p1, sI p2, sI p3, sI p4, sI p5, sI (p1).toInt8.toInt32, sI (p2).toInt8.toInt32, sI (p3).toInt8.toInt32, sI (p5).toInt8.toInt32, sI 1, sR a3] [(kI 1)])) _
    refine XS.iconst X33.here hx rfl (hb hby at_149) ?_
    refine XS.icmpYes X33.here hx rfl (pc0 := 150) (pc' := 166) rfl (hb hby at_150) rfl (by decide) (by decide) (by decide) ?_
    refine XS.iconst X33.here hx rfl (hb hby at_166) ?_
    exact k))
  obtain ⟨fs, hr, hrun, hended, hWm, hsame⟩ := X33.leave (v := some (.int (1 : Int32))) (fun h => by rw [Bd.returns] at h; cases h)
  refine ⟨_, _, pre0 _ (K34 _ (retN X33 hx (t := .boolean) Bd.returns (by simp) (hb hby at_167) hr)), hrun, hended, _, _, rfl, ?_, ⟨_, rfl⟩, hWm, hsame.mono (by decide) (by decide)⟩
  show Qrm0_1 Z p1 p2 p3 p4 p5 n0 _ T33.heap _
  exact ⟨rfl, N33⟩
theorem ef_rm0_2 (m : MethodId) (p1 p2 p3 p4 p5 : Int32) : entryFrame m #[(.int p1), (.int p2), (.int p3), (.int p4), (.int p5)] maxLocals = mkF m 0 #[.val (.int p1), .val (.int p2), .val (.int p3), .val (.int p4), .val (.int p5), .unset, .unset, .unset, .unset, .unset, .unset] [] := by first | (simp [entryFrame, mkF, argsToLocals, Value.category, maxLocals]; done) | rfl
def Qrm0_2 (Z : State) (p1 p2 p3 p4 p5 : Int32) (n0 : Nat) (v : Option Value) (h : Heap) (L : List Loc) : Prop := v = some (.int (1 : Int32)) ∧ Fr n0 L
set_option maxRecDepth 65536 in
set_option maxHeartbeats 40000000 in
theorem rm0_2 (l : Launch) (Z : State) (a0 : Array Value) (hw : ∀ d ∈ tables_1, d.before a0 Z = true) (ws : List Jvm.Cond) (p1 p2 p3 p4 p5 : Int32) (h0 : Heap) (n0 : Nat) (W0 : Wo n0 h0 []) (hr0 : ((p4 &&& (2147483647 : Int32)) - ((p4 &&& (2147483647 : Int32)) / (4 : Int32)) * (4 : Int32)) = (2 : Int32)) :
    MetFree l x (head1 (Jvm.Cond.code x code maxLocals ret :: ws) room_1) (fun a U => a = #[(.int p1), (.int p2), (.int p3), (.int p4), (.int p5)] ∧ Z.Warmed39 U.vm ∧ U.heap = h0) (fun _ _ _ _ _ => True) (fun _ U ou U' => ∃ v L, ou = .returned v ∧ Qrm0_2 Z p1 p2 p3 p4 p5 n0 v U'.heap L ∧ FrameEnd U ou U' L room_1.cells room_1.slots) := by
  refine MetFree.of_bodySF (plainFor_of_name pn_PagedBytesTruncatePinLaw) hisR ?_
  intro p e s m args below meth c s₁ Bd hml0 hP hK
  obtain ⟨rfl, hZ, hh⟩ := hP
  have hx := Bd.exec
  have hby := Bd.bytes
  have hml : c.maxLocals = 11 := hml0
  have hown : s.vm.findClass "com/example/attribute_checker/attributechecker/checker/PagedBytesTruncatePinLaw" = some m.cls := findClass_of_methodNamed Bd.named
  have hnm := (name_of_methodNamed Bd.named Bd.method).1
  have X0 : Stand p l e room_1 s m #[(.int p1), (.int p2), (.int p3), (.int p4), (.int p5)] below meth c s₁ [] 0 0 := Stand.of_body Bd
  have e0 : s₁.heap = h0 := by rw [← hh, Bd.state]; rfl
  have N0 := Fr.nil n0
  obtain ⟨F0, hF0⟩ : ∃ F, F = mkF m 0 #[.val (.int p1), .val (.int p2), .val (.int p3), .val (.int p4), .val (.int p5), .unset, .unset, .unset, .unset, .unset, .unset] [] := ⟨_, rfl⟩
  have pre0 : ∀ t, Steps p.tables e below (s₁.setTop F0) t → Steps p.tables e below (s₁.setTop (entryFrame m #[(.int p1), (.int p2), (.int p3), (.int p4), (.int p5)] maxLocals)) t := fun t k => castTop ((ef_rm0_2 m p1 p2 p3 p4 p5).trans hF0.symm) k
  have K0 : Rch p e below s₁ F0 s₁ (mkF m 0 #[.val (.int p1), .val (.int p2), .val (.int p3), .val (.int p4), .val (.int p5), .unset, .unset, .unset, .unset, .unset, .unset] []) := fun t k => castTop hF0 k
  have K1 : Rch p e below s₁ F0 s₁ (mkF m 23 #[sI p1, sI p2, sI p3, sI p4, sI p5, sI (p1).toInt8.toInt32, sI (p2).toInt8.toInt32, sI (p3).toInt8.toInt32, sI (p5).toInt8.toInt32, sU, sU] [(kI ((p4 &&& (2147483647 : Int32)) - ((p4 &&& (2147483647 : Int32)) / (4 : Int32)) * (4 : Int32)))]) := fun t k => K0 t (by
    refine XS.iloadN X0.here hx rfl (hb hby at_0) rfl ?_
    refine XS.i2b X0.here hx rfl (hb hby at_1) rfl ?_
    refine XS.istore X0.here hx rfl (hb hby at_2) rfl (l' := #[sI p1, sI p2, sI p3, sI p4, sI p5, sI (p1).toInt8.toInt32, sU, sU, sU, sU, sU]) rfl ?_
    refine XS.iloadN X0.here hx rfl (hb hby at_4) rfl ?_
    refine XS.i2b X0.here hx rfl (hb hby at_5) rfl ?_
    refine XS.istore X0.here hx rfl (hb hby at_6) rfl (l' := #[sI p1, sI p2, sI p3, sI p4, sI p5, sI (p1).toInt8.toInt32, sI (p2).toInt8.toInt32, sU, sU, sU, sU]) rfl ?_
    show Steps p.tables e below (s₁.setTop (mkF m 8 #[sI p1, sI p2, sI p3, sI p4, sI p5, sI (p1).toInt8.toInt32, sI (p2).toInt8.toInt32, sU, sU, sU, sU] [])) _
    refine XS.iloadN X0.here hx rfl (hb hby at_8) rfl ?_
    refine XS.i2b X0.here hx rfl (hb hby at_9) rfl ?_
    refine XS.istore X0.here hx rfl (hb hby at_10) rfl (l' := #[sI p1, sI p2, sI p3, sI p4, sI p5, sI (p1).toInt8.toInt32, sI (p2).toInt8.toInt32, sI (p3).toInt8.toInt32, sU, sU, sU]) rfl ?_
    refine XS.iload X0.here hx rfl (hb hby at_12) rfl ?_
    refine XS.i2b X0.here hx rfl (hb hby at_14) rfl ?_
    refine XS.istore X0.here hx rfl (hb hby at_15) rfl (l' := #[sI p1, sI p2, sI p3, sI p4, sI p5, sI (p1).toInt8.toInt32, sI (p2).toInt8.toInt32, sI (p3).toInt8.toInt32, sI (p5).toInt8.toInt32, sU, sU]) rfl ?_
    show Steps p.tables e below (s₁.setTop (mkF m 17 #[sI p1, sI p2, sI p3, sI p4, sI p5, sI (p1).toInt8.toInt32, sI (p2).toInt8.toInt32, sI (p3).toInt8.toInt32, sI (p5).toInt8.toInt32, sU, sU] [])) _
    refine XS.iloadN X0.here hx rfl (hb hby at_17) rfl ?_
    refine X0.ldcInt hx hown (mvT hZ (hw _ (mi 0 rfl))) (g := (mkF m 18 #[sI p1, sI p2, sI p3, sI p4, sI p5, sI (p1).toInt8.toInt32, sI (p2).toInt8.toInt32, sI (p3).toInt8.toInt32, sI (p5).toInt8.toInt32, sU, sU] [(kI p4)])) rfl (hb hby at_18) _ ?_
    refine XS.iand X0.here hx rfl (hb hby at_20) rfl ?_
    refine XS.iconst X0.here hx rfl (hb hby at_21) ?_
    refine XS.irem X0.here hx rfl (hb hby at_22) rfl (by decide) ?_
    exact k)
  rw [show ((p4 &&& (2147483647 : Int32)) - ((p4 &&& (2147483647 : Int32)) / (4 : Int32)) * (4 : Int32)) = (2 : Int32) from hr0] at K1
  have K2 : Rch p e below s₁ F0 s₁ (mkF m 25 #[sI p1, sI p2, sI p3, sI p4, sI p5, sI (p1).toInt8.toInt32, sI (p2).toInt8.toInt32, sI (p3).toInt8.toInt32, sI (p5).toInt8.toInt32, sI 2, sU] []) := fun t k => K1 t (XS.istore X0.here hx rfl (hb hby at_23) rfl (l' := #[sI p1, sI p2, sI p3, sI p4, sI p5, sI (p1).toInt8.toInt32, sI (p2).toInt8.toInt32, sI (p3).toInt8.toInt32, sI (p5).toInt8.toInt32, sI 2, sU]) rfl k)
  obtain ⟨T3, h3, a3, X3, e3, W3q, st3⟩ := newWO X0 hx hZ hown (hw _ (mi 1 rfl)) (hw _ (mi 2 rfl)) (hw _ (mi 3 rfl)) e0 W0 (own_lPB hw) (vs := [.null, (.int (0 : Int32))]) own_vPB (g := K2.g) rfl (hb hby at_25) (by decide : 0 + 1 ≤ _) (by decide : 0 + 2 ≤ _)
  have W3 : Wo n0 h3 [(a3, oPB Z [.null, (kI 0)])] := W3q
  have K4 : Rch p e below s₁ F0 T3 (mkF m 29 #[sI p1, sI p2, sI p3, sI p4, sI p5, sI (p1).toInt8.toInt32, sI (p2).toInt8.toInt32, sI (p3).toInt8.toInt32, sI (p5).toInt8.toInt32, sI 2, sU] [(kR a3), (kR a3)]) := fun t k => K2 t (st3 t (XS.dup X3.here hx rfl (hb hby at_28) rfl rfl k))
  have W5 : Wo n0 h3 [(a3, oPB Z [.null, (kI 0)])] := (Wo.front W3 (i := 0) rfl)
  obtain ⟨_, _, ⟨T6, L6, k6, n6⟩, -, X6, ⟨Lc6, hQ6, l6, y6, z6⟩, st6⟩ := X3.specialBack hx (y := (⟨"com/example/attribute_checker/attributechecker/checker/PagedBytes", "<init>", "()V"⟩ : MethodName)) rfl hown (mvT hZ (hw _ (mi 4 rfl))) (mvT hZ (hw _ (mi 5 rfl))) (mvT hZ (hw _ (mi 6 rfl))) (by decide) (backOf (W := 1) (rmI l Z a0 hw [] a3 ([]) h3 n0 W5) hZ (hw _ (mi 6 rfl)) (hw _ (mi 3 rfl)) (by decide) (by decide)) (g := K4.g) rfl (by rw [hml]; rfl) (Steps.refl _) (a := a3) (argsL := []) (rest := [(.ref a3)]) (lenOf pd_init rfl) rfl (by show 2 * 0 + _ ≤ _; exact Nat.le_of_eq rfl) (hb hby at_29) (fun _ _ => ⟨rfl, e3, (by decide : 1 + 1 ≤ _), (by decide : 2 + 8 ≤ _)⟩)
  dsimp only [Pt.U, Pt.locs, Pt.cells, Pt.slots] at X6 l6 y6 z6 st6 hQ6
  subst l6 y6 z6
  obtain ⟨rfl, N6q, ⟨p6, W6⟩⟩ := hQ6
  have N6 := Fr.app N0 N6q
  have K7 : Rch p e below s₁ F0 T6 (mkF m 38 #[sI p1, sI p2, sI p3, sI p4, sI p5, sI (p1).toInt8.toInt32, sI (p2).toInt8.toInt32, sI (p3).toInt8.toInt32, sI (p5).toInt8.toInt32, sI 2, sR a3] [(kI (p1).toInt8.toInt32), (kR a3)]) := fun t k => K4 t (st6.trans (by
    refine XS.astore X6.here hx rfl (hb hby at_32) rfl rfl (l' := #[sI p1, sI p2, sI p3, sI p4, sI p5, sI (p1).toInt8.toInt32, sI (p2).toInt8.toInt32, sI (p3).toInt8.toInt32, sI (p5).toInt8.toInt32, sI 2, sR a3]) rfl ?_
    refine XS.aload X6.here hx rfl (hb hby at_34) rfl rfl ?_
    refine XS.iload X6.here hx rfl (hb hby at_36) rfl ?_
    exact k))
  have W8 : Wo n0 T6.heap [(a3, oPB Z [(kR p6), (kI 0)]), (p6, Pg Z .byte 8 zN)] := (Wo.front (Wo.front W6 (i := 0) rfl) (i := 1) rfl)
  obtain ⟨cq9, kq9, q9a, q9b, q9c⟩ := isOf hZ (rfl : T6.heap = T6.heap) (W8.exa (i := 0) rfl)
  obtain ⟨_, _, ⟨T9, L9, k9, n9⟩, -, X9, ⟨Lc9, hQ9, l9, y9, z9⟩, st9⟩ := X6.virtualBack hx (y := (⟨"com/example/attribute_checker/attributechecker/checker/PagedBytes", "add", "(B)V"⟩ : MethodName)) (z := (⟨"com/example/attribute_checker/attributechecker/checker/PagedBytes", "add", "(B)V"⟩ : MethodName)) hown (mvT hZ (hw _ (mi 14 rfl))) (mvT hZ (hw _ (mi 15 rfl))) (notFace_of_selects (args := #[]) (mvT hZ (hw _ (mi 17 rfl)))) (mvT hZ (hw _ (mi 17 rfl))) (mvT hZ (hw _ (mi 16 rfl))) (by decide) (backOf (W := 0) (rmA l Z a0 hw [] a3 p6 (p1).toInt8.toInt32 zN ([]) T6.heap n0 W8 rfl) hZ (hw _ (mi 18 rfl)) (hw _ (mi 3 rfl)) (by decide) (by decide)) q9a q9c (g := K7.g) rfl (by rw [hml]; rfl) (Steps.refl _) (argsL := [(.int (p1).toInt8.toInt32)]) (rest := []) (lenOf pd_add rfl) rfl (by show 2 * 0 + _ ≤ _; exact Nat.le_of_eq rfl) (hb hby at_38) (fun _ _ => ⟨rfl, (rfl : T6.heap = T6.heap), (by decide : 2 + 1 ≤ _), (by decide : 10 + 256 ≤ _)⟩)
  dsimp only [Pt.U, Pt.locs, Pt.cells, Pt.slots] at X9 l9 y9 z9 st9 hQ9
  subst l9 y9 z9
  obtain ⟨rfl, N9q, ⟨b9, W9⟩⟩ := hQ9
  have N9 := Fr.app N6 N9q
  have K10 : Rch p e below s₁ F0 T9 (mkF m 45 #[sI p1, sI p2, sI p3, sI p4, sI p5, sI (p1).toInt8.toInt32, sI (p2).toInt8.toInt32, sI (p3).toInt8.toInt32, sI (p5).toInt8.toInt32, sI 2, sR a3] [(kI (p2).toInt8.toInt32), (kR a3)]) := fun t k => K7 t (st9.trans (by
    refine XS.aload X9.here hx rfl (hb hby at_41) rfl rfl ?_
    refine XS.iload X9.here hx rfl (hb hby at_43) rfl ?_
    exact k))
  have W11 : Wo n0 T9.heap [(a3, oPB Z [(kR p6), (kI 1)]), (p6, Pg Z .byte 8 (upd zN 0 (kR b9))), (b9, Ar Z .byte 256 (upd zI 0 (kI ((p1).toInt8.toInt32).toInt8.toInt32)))] := (Wo.front (Wo.front (Wo.front W9 (i := 0) rfl) (i := 2) rfl) (i := 2) rfl)
  obtain ⟨cq12, kq12, q12a, q12b, q12c⟩ := isOf hZ (rfl : T9.heap = T9.heap) (W11.exa (i := 0) rfl)
  obtain ⟨_, _, ⟨T12, L12, k12, n12⟩, -, X12, ⟨Lc12, hQ12, l12, y12, z12⟩, st12⟩ := X9.virtualBack hx (y := (⟨"com/example/attribute_checker/attributechecker/checker/PagedBytes", "add", "(B)V"⟩ : MethodName)) (z := (⟨"com/example/attribute_checker/attributechecker/checker/PagedBytes", "add", "(B)V"⟩ : MethodName)) hown (mvT hZ (hw _ (mi 14 rfl))) (mvT hZ (hw _ (mi 15 rfl))) (notFace_of_selects (args := #[]) (mvT hZ (hw _ (mi 17 rfl)))) (mvT hZ (hw _ (mi 17 rfl))) (mvT hZ (hw _ (mi 16 rfl))) (by decide) (backOf (W := 0) (rmA1 l Z a0 hw [] a3 p6 b9 (p2).toInt8.toInt32 (upd zN 0 (kR b9)) (upd zI 0 (kI ((p1).toInt8.toInt32).toInt8.toInt32)) ([]) T9.heap n0 W11 rfl) hZ (hw _ (mi 18 rfl)) (hw _ (mi 3 rfl)) (by decide) (by decide)) q12a q12c (g := K10.g) rfl (by rw [hml]; rfl) (Steps.refl _) (argsL := [(.int (p2).toInt8.toInt32)]) (rest := []) (lenOf pd_add rfl) rfl (by show 2 * 0 + _ ≤ _; exact Nat.le_of_eq rfl) (hb hby at_45) (fun _ _ => ⟨rfl, (rfl : T9.heap = T9.heap), (by decide : 3 + 0 ≤ _), (by decide : 266 + 0 ≤ _)⟩)
  dsimp only [Pt.U, Pt.locs, Pt.cells, Pt.slots] at X12 l12 y12 z12 st12 hQ12
  subst l12 y12 z12
  obtain ⟨rfl, N12q, W12⟩ := hQ12
  have N12 := Fr.app N9 N12q
  have K13 : Rch p e below s₁ F0 T12 (mkF m 52 #[sI p1, sI p2, sI p3, sI p4, sI p5, sI (p1).toInt8.toInt32, sI (p2).toInt8.toInt32, sI (p3).toInt8.toInt32, sI (p5).toInt8.toInt32, sI 2, sR a3] [(kI (p3).toInt8.toInt32), (kR a3)]) := fun t k => K10 t (st12.trans (by
    refine XS.aload X12.here hx rfl (hb hby at_48) rfl rfl ?_
    refine XS.iload X12.here hx rfl (hb hby at_50) rfl ?_
    exact k))
  have W14 : Wo n0 T12.heap [(a3, oPB Z [(kR p6), (kI 2)]), (p6, Pg Z .byte 8 (upd zN 0 (kR b9))), (b9, Ar Z .byte 256 (upd (upd zI 0 (kI ((p1).toInt8.toInt32).toInt8.toInt32)) 1 (kI ((p2).toInt8.toInt32).toInt8.toInt32)))] := (Wo.front (Wo.front (Wo.front W12 (i := 2) rfl) (i := 2) rfl) (i := 2) rfl)
  obtain ⟨cq15, kq15, q15a, q15b, q15c⟩ := isOf hZ (rfl : T12.heap = T12.heap) (W14.exa (i := 0) rfl)
  obtain ⟨_, _, ⟨T15, L15, k15, n15⟩, -, X15, ⟨Lc15, hQ15, l15, y15, z15⟩, st15⟩ := X12.virtualBack hx (y := (⟨"com/example/attribute_checker/attributechecker/checker/PagedBytes", "add", "(B)V"⟩ : MethodName)) (z := (⟨"com/example/attribute_checker/attributechecker/checker/PagedBytes", "add", "(B)V"⟩ : MethodName)) hown (mvT hZ (hw _ (mi 14 rfl))) (mvT hZ (hw _ (mi 15 rfl))) (notFace_of_selects (args := #[]) (mvT hZ (hw _ (mi 17 rfl)))) (mvT hZ (hw _ (mi 17 rfl))) (mvT hZ (hw _ (mi 16 rfl))) (by decide) (backOf (W := 0) (rmA2 l Z a0 hw [] a3 p6 b9 (p3).toInt8.toInt32 (upd zN 0 (kR b9)) (upd (upd zI 0 (kI ((p1).toInt8.toInt32).toInt8.toInt32)) 1 (kI ((p2).toInt8.toInt32).toInt8.toInt32)) ([]) T12.heap n0 W14 rfl) hZ (hw _ (mi 18 rfl)) (hw _ (mi 3 rfl)) (by decide) (by decide)) q15a q15c (g := K13.g) rfl (by rw [hml]; rfl) (Steps.refl _) (argsL := [(.int (p3).toInt8.toInt32)]) (rest := []) (lenOf pd_add rfl) rfl (by show 2 * 0 + _ ≤ _; exact Nat.le_of_eq rfl) (hb hby at_52) (fun _ _ => ⟨rfl, (rfl : T12.heap = T12.heap), (by decide : 3 + 0 ≤ _), (by decide : 266 + 0 ≤ _)⟩)
  dsimp only [Pt.U, Pt.locs, Pt.cells, Pt.slots] at X15 l15 y15 z15 st15 hQ15
  subst l15 y15 z15
  obtain ⟨rfl, N15q, W15⟩ := hQ15
  have N15 := Fr.app N12 N15q
  have K16 : Rch p e below s₁ F0 T15 (mkF m 59 #[sI p1, sI p2, sI p3, sI p4, sI p5, sI (p1).toInt8.toInt32, sI (p2).toInt8.toInt32, sI (p3).toInt8.toInt32, sI (p5).toInt8.toInt32, sI 2, sR a3] [(kI 2), (kR a3)]) := fun t k => K13 t (st15.trans (by
    refine XS.aload X15.here hx rfl (hb hby at_55) rfl rfl ?_
    refine XS.iload X15.here hx rfl (hb hby at_57) rfl ?_
    exact k))
  have W17 : Wo n0 T15.heap [(a3, oPB Z [(kR p6), (kI 3)]), (p6, Pg Z .byte 8 (upd zN 0 (kR b9))), (b9, Ar Z .byte 256 (upd (upd (upd zI 0 (kI ((p1).toInt8.toInt32).toInt8.toInt32)) 1 (kI ((p2).toInt8.toInt32).toInt8.toInt32)) 2 (kI ((p3).toInt8.toInt32).toInt8.toInt32)))] := (Wo.front (Wo.front W15 (i := 1) rfl) (i := 1) rfl)
  obtain ⟨cq18, kq18, q18a, q18b, q18c⟩ := isOf hZ (rfl : T15.heap = T15.heap) (W17.exa (i := 0) rfl)
  obtain ⟨_, _, ⟨T18, L18, k18, n18⟩, -, X18, ⟨Lc18, hQ18, l18, y18, z18⟩, st18⟩ := X15.virtualBack hx (y := (⟨"com/example/attribute_checker/attributechecker/checker/PagedBytes", "truncate", "(I)V"⟩ : MethodName)) (z := (⟨"com/example/attribute_checker/attributechecker/checker/PagedBytes", "truncate", "(I)V"⟩ : MethodName)) hown (mvT hZ (hw _ (mi 25 rfl))) (mvT hZ (hw _ (mi 26 rfl))) (notFace_of_selects (args := #[]) (mvT hZ (hw _ (mi 28 rfl)))) (mvT hZ (hw _ (mi 28 rfl))) (mvT hZ (hw _ (mi 27 rfl))) (by decide) (backOf (W := 0) (rmT2 l Z a0 hw [] a3 p6 (3 : Int32) (upd zN 0 (kR b9)) ((b9, Ar Z .byte 256 (upd (upd (upd zI 0 (kI ((p1).toInt8.toInt32).toInt8.toInt32)) 1 (kI ((p2).toInt8.toInt32).toInt8.toInt32)) 2 (kI ((p3).toInt8.toInt32).toInt8.toInt32))) :: []) T15.heap n0 W17) hZ (hw _ (mi 29 rfl)) (hw _ (mi 3 rfl)) (by decide) (by decide)) q18a q18c (g := K16.g) rfl (by rw [hml]; rfl) (Steps.refl _) (argsL := [(.int (2 : Int32))]) (rest := []) (lenOf pd_tr rfl) rfl (by show 2 * 0 + _ ≤ _; exact Nat.le_of_eq rfl) (hb hby at_59) (fun _ _ => ⟨rfl, (rfl : T15.heap = T15.heap), (by decide : 3 + 0 ≤ _), (by decide : 266 + 0 ≤ _)⟩)
  dsimp only [Pt.U, Pt.locs, Pt.cells, Pt.slots] at X18 l18 y18 z18 st18 hQ18
  subst l18 y18 z18
  obtain ⟨rfl, N18q, W18⟩ := hQ18
  have N18 := Fr.app N15 N18q
  have K19 : Rch p e below s₁ F0 T18 (mkF m 64 #[sI p1, sI p2, sI p3, sI p4, sI p5, sI (p1).toInt8.toInt32, sI (p2).toInt8.toInt32, sI (p3).toInt8.toInt32, sI (p5).toInt8.toInt32, sI 2, sR a3] [(kR a3)]) := fun t k => K16 t (st18.trans (XS.aload X18.here hx rfl (hb hby at_62) rfl rfl k))
  have W20 : Wo n0 T18.heap [(a3, oPB Z [(kR p6), (kI 2)]), (p6, Pg Z .byte 8 (upd (upd (upd (upd (upd (upd (upd (upd zN 0 (kR b9)) 1 .null) 2 .null) 3 .null) 4 .null) 5 .null) 6 .null) 7 .null)), (b9, Ar Z .byte 256 (upd (upd (upd zI 0 (kI ((p1).toInt8.toInt32).toInt8.toInt32)) 1 (kI ((p2).toInt8.toInt32).toInt8.toInt32)) 2 (kI ((p3).toInt8.toInt32).toInt8.toInt32)))] := (Wo.front W18 (i := 0) rfl)
  obtain ⟨cq21, kq21, q21a, q21b, q21c⟩ := isOf hZ (rfl : T18.heap = T18.heap) (W20.exa (i := 0) rfl)
  obtain ⟨_, _, ⟨T21, L21, k21, n21⟩, -, X21, ⟨Lc21, hQ21, l21, y21, z21⟩, st21⟩ := X18.virtualBack hx (y := (⟨"com/example/attribute_checker/attributechecker/checker/PagedBytes", "size", "()I"⟩ : MethodName)) (z := (⟨"com/example/attribute_checker/attributechecker/checker/PagedBytes", "size", "()I"⟩ : MethodName)) hown (mvT hZ (hw _ (mi 31 rfl))) (mvT hZ (hw _ (mi 32 rfl))) (notFace_of_selects (args := #[]) (mvT hZ (hw _ (mi 34 rfl)))) (mvT hZ (hw _ (mi 34 rfl))) (mvT hZ (hw _ (mi 33 rfl))) (by decide) (backOf (W := 0) (rmS l Z a0 hw [] a3 p6 (2 : Int32) ((p6, Pg Z .byte 8 (upd (upd (upd (upd (upd (upd (upd (upd zN 0 (kR b9)) 1 .null) 2 .null) 3 .null) 4 .null) 5 .null) 6 .null) 7 .null)) :: (b9, Ar Z .byte 256 (upd (upd (upd zI 0 (kI ((p1).toInt8.toInt32).toInt8.toInt32)) 1 (kI ((p2).toInt8.toInt32).toInt8.toInt32)) 2 (kI ((p3).toInt8.toInt32).toInt8.toInt32))) :: []) T18.heap n0 W20) hZ (hw _ (mi 35 rfl)) (hw _ (mi 3 rfl)) (by decide) (by decide)) q21a q21c (g := K19.g) rfl (by rw [hml]; rfl) (Steps.refl _) (argsL := []) (rest := []) (lenOf pd_size rfl) rfl (by show 2 * 0 + _ ≤ _; exact Nat.le_of_eq rfl) (hb hby at_64) (fun _ _ => ⟨rfl, (rfl : T18.heap = T18.heap), (by decide : 3 + 0 ≤ _), (by decide : 266 + 0 ≤ _)⟩)
  dsimp only [Pt.U, Pt.locs, Pt.cells, Pt.slots] at X21 l21 y21 z21 st21 hQ21
  subst l21 y21 z21
  obtain ⟨rfl, N21q, W21⟩ := hQ21
  have N21 := Fr.app N18 N21q
  have K22 : Rch p e below s₁ F0 T21 (mkF m 78 #[sI p1, sI p2, sI p3, sI p4, sI p5, sI (p1).toInt8.toInt32, sI (p2).toInt8.toInt32, sI (p3).toInt8.toInt32, sI (p5).toInt8.toInt32, sI 2, sR a3] [(kI (p5).toInt8.toInt32), (kR a3)]) := fun t k => K19 t (st21.trans (by
    refine XS.iload X21.here hx rfl (hb hby at_67) rfl ?_
    refine XS.icmpYes X21.here hx rfl (pc0 := 69) (pc' := 74) rfl (hb hby at_69) rfl (by decide) (by decide) (by decide) ?_
    refine XS.aload X21.here hx rfl (hb hby at_74) rfl rfl ?_
    refine XS.iload X21.here hx rfl (hb hby at_76) rfl ?_
    exact k))
  have W23 : Wo n0 T21.heap [(a3, oPB Z [(kR p6), (kI 2)]), (p6, Pg Z .byte 8 (upd (upd (upd (upd (upd (upd (upd (upd zN 0 (kR b9)) 1 .null) 2 .null) 3 .null) 4 .null) 5 .null) 6 .null) 7 .null)), (b9, Ar Z .byte 256 (upd (upd (upd zI 0 (kI ((p1).toInt8.toInt32).toInt8.toInt32)) 1 (kI ((p2).toInt8.toInt32).toInt8.toInt32)) 2 (kI ((p3).toInt8.toInt32).toInt8.toInt32)))] := (Wo.front (Wo.front (Wo.front W21 (i := 2) rfl) (i := 2) rfl) (i := 2) rfl)
  obtain ⟨cq24, kq24, q24a, q24b, q24c⟩ := isOf hZ (rfl : T21.heap = T21.heap) (W23.exa (i := 0) rfl)
  obtain ⟨_, _, ⟨T24, L24, k24, n24⟩, -, X24, ⟨Lc24, hQ24, l24, y24, z24⟩, st24⟩ := X21.virtualBack hx (y := (⟨"com/example/attribute_checker/attributechecker/checker/PagedBytes", "add", "(B)V"⟩ : MethodName)) (z := (⟨"com/example/attribute_checker/attributechecker/checker/PagedBytes", "add", "(B)V"⟩ : MethodName)) hown (mvT hZ (hw _ (mi 14 rfl))) (mvT hZ (hw _ (mi 15 rfl))) (notFace_of_selects (args := #[]) (mvT hZ (hw _ (mi 17 rfl)))) (mvT hZ (hw _ (mi 17 rfl))) (mvT hZ (hw _ (mi 16 rfl))) (by decide) (backOf (W := 0) (rmA2 l Z a0 hw [] a3 p6 b9 (p5).toInt8.toInt32 (upd (upd (upd (upd (upd (upd (upd (upd zN 0 (kR b9)) 1 .null) 2 .null) 3 .null) 4 .null) 5 .null) 6 .null) 7 .null) (upd (upd (upd zI 0 (kI ((p1).toInt8.toInt32).toInt8.toInt32)) 1 (kI ((p2).toInt8.toInt32).toInt8.toInt32)) 2 (kI ((p3).toInt8.toInt32).toInt8.toInt32)) ([]) T21.heap n0 W23 rfl) hZ (hw _ (mi 18 rfl)) (hw _ (mi 3 rfl)) (by decide) (by decide)) q24a q24c (g := K22.g) rfl (by rw [hml]; rfl) (Steps.refl _) (argsL := [(.int (p5).toInt8.toInt32)]) (rest := []) (lenOf pd_add rfl) rfl (by show 2 * 0 + _ ≤ _; exact Nat.le_of_eq rfl) (hb hby at_78) (fun _ _ => ⟨rfl, (rfl : T21.heap = T21.heap), (by decide : 3 + 0 ≤ _), (by decide : 266 + 0 ≤ _)⟩)
  dsimp only [Pt.U, Pt.locs, Pt.cells, Pt.slots] at X24 l24 y24 z24 st24 hQ24
  subst l24 y24 z24
  obtain ⟨rfl, N24q, W24⟩ := hQ24
  have N24 := Fr.app N21 N24q
  have K25 : Rch p e below s₁ F0 T24 (mkF m 83 #[sI p1, sI p2, sI p3, sI p4, sI p5, sI (p1).toInt8.toInt32, sI (p2).toInt8.toInt32, sI (p3).toInt8.toInt32, sI (p5).toInt8.toInt32, sI 2, sR a3] [(kR a3)]) := fun t k => K22 t (st24.trans (XS.aload X24.here hx rfl (hb hby at_81) rfl rfl k))
  have W26 : Wo n0 T24.heap [(a3, oPB Z [(kR p6), (kI 3)]), (p6, Pg Z .byte 8 (upd (upd (upd (upd (upd (upd (upd (upd zN 0 (kR b9)) 1 .null) 2 .null) 3 .null) 4 .null) 5 .null) 6 .null) 7 .null)), (b9, Ar Z .byte 256 (upd (upd (upd (upd zI 0 (kI ((p1).toInt8.toInt32).toInt8.toInt32)) 1 (kI ((p2).toInt8.toInt32).toInt8.toInt32)) 2 (kI ((p3).toInt8.toInt32).toInt8.toInt32)) 2 (kI ((p5).toInt8.toInt32).toInt8.toInt32)))] := (Wo.front W24 (i := 0) rfl)
  obtain ⟨cq27, kq27, q27a, q27b, q27c⟩ := isOf hZ (rfl : T24.heap = T24.heap) (W26.exa (i := 0) rfl)
  obtain ⟨_, _, ⟨T27, L27, k27, n27⟩, -, X27, ⟨Lc27, hQ27, l27, y27, z27⟩, st27⟩ := X24.virtualBack hx (y := (⟨"com/example/attribute_checker/attributechecker/checker/PagedBytes", "size", "()I"⟩ : MethodName)) (z := (⟨"com/example/attribute_checker/attributechecker/checker/PagedBytes", "size", "()I"⟩ : MethodName)) hown (mvT hZ (hw _ (mi 31 rfl))) (mvT hZ (hw _ (mi 32 rfl))) (notFace_of_selects (args := #[]) (mvT hZ (hw _ (mi 34 rfl)))) (mvT hZ (hw _ (mi 34 rfl))) (mvT hZ (hw _ (mi 33 rfl))) (by decide) (backOf (W := 0) (rmS l Z a0 hw [] a3 p6 (3 : Int32) ((p6, Pg Z .byte 8 (upd (upd (upd (upd (upd (upd (upd (upd zN 0 (kR b9)) 1 .null) 2 .null) 3 .null) 4 .null) 5 .null) 6 .null) 7 .null)) :: (b9, Ar Z .byte 256 (upd (upd (upd (upd zI 0 (kI ((p1).toInt8.toInt32).toInt8.toInt32)) 1 (kI ((p2).toInt8.toInt32).toInt8.toInt32)) 2 (kI ((p3).toInt8.toInt32).toInt8.toInt32)) 2 (kI ((p5).toInt8.toInt32).toInt8.toInt32))) :: []) T24.heap n0 W26) hZ (hw _ (mi 35 rfl)) (hw _ (mi 3 rfl)) (by decide) (by decide)) q27a q27c (g := K25.g) rfl (by rw [hml]; rfl) (Steps.refl _) (argsL := []) (rest := []) (lenOf pd_size rfl) rfl (by show 2 * 0 + _ ≤ _; exact Nat.le_of_eq rfl) (hb hby at_83) (fun _ _ => ⟨rfl, (rfl : T24.heap = T24.heap), (by decide : 3 + 0 ≤ _), (by decide : 266 + 0 ≤ _)⟩)
  dsimp only [Pt.U, Pt.locs, Pt.cells, Pt.slots] at X27 l27 y27 z27 st27 hQ27
  subst l27 y27 z27
  obtain ⟨rfl, N27q, W27⟩ := hQ27
  have N27 := Fr.app N24 N27q
  have K28 : Rch p e below s₁ F0 T27 (mkF m 99 #[sI p1, sI p2, sI p3, sI p4, sI p5, sI (p1).toInt8.toInt32, sI (p2).toInt8.toInt32, sI (p3).toInt8.toInt32, sI (p5).toInt8.toInt32, sI 2, sR a3] [(kI 2), (kR a3)]) := fun t k => K25 t (st27.trans (by
    refine XS.iload X27.here hx rfl (hb hby at_86) rfl ?_
    refine XS.iconst X27.here hx rfl (hb hby at_88) ?_
    refine XS.iadd X27.here hx rfl (hb hby at_89) rfl ?_
    refine XS.icmpYes X27.here hx rfl (pc0 := 90) (pc' := 95) rfl (hb hby at_90) rfl (by decide) (by decide) (by decide) ?_
    refine XS.aload X27.here hx rfl (hb hby at_95) rfl rfl ?_
    refine XS.iload X27.here hx rfl (hb hby at_97) rfl ?_
    exact k))
  have W29 : Wo n0 T27.heap [(a3, oPB Z [(kR p6), (kI 3)]), (p6, Pg Z .byte 8 (upd (upd (upd (upd (upd (upd (upd (upd zN 0 (kR b9)) 1 .null) 2 .null) 3 .null) 4 .null) 5 .null) 6 .null) 7 .null)), (b9, Ar Z .byte 256 (upd (upd (upd (upd zI 0 (kI ((p1).toInt8.toInt32).toInt8.toInt32)) 1 (kI ((p2).toInt8.toInt32).toInt8.toInt32)) 2 (kI ((p3).toInt8.toInt32).toInt8.toInt32)) 2 (kI ((p5).toInt8.toInt32).toInt8.toInt32)))] := (Wo.front (Wo.front (Wo.front W27 (i := 2) rfl) (i := 2) rfl) (i := 2) rfl)
  obtain ⟨cq30, kq30, q30a, q30b, q30c⟩ := isOf hZ (rfl : T27.heap = T27.heap) (W29.exa (i := 0) rfl)
  obtain ⟨_, _, ⟨T30, L30, k30, n30⟩, -, X30, ⟨Lc30, hQ30, l30, y30, z30⟩, st30⟩ := X27.virtualBack hx (y := (⟨"com/example/attribute_checker/attributechecker/checker/PagedBytes", "get", "(I)B"⟩ : MethodName)) (z := (⟨"com/example/attribute_checker/attributechecker/checker/PagedBytes", "get", "(I)B"⟩ : MethodName)) hown (mvT hZ (hw _ (mi 36 rfl))) (mvT hZ (hw _ (mi 37 rfl))) (notFace_of_selects (args := #[]) (mvT hZ (hw _ (mi 39 rfl)))) (mvT hZ (hw _ (mi 39 rfl))) (mvT hZ (hw _ (mi 38 rfl))) (by decide) (backOf (W := 0) (rmG2 l Z a0 hw [] a3 p6 b9 (3 : Int32) ((p5).toInt8.toInt32).toInt8.toInt32 (upd (upd (upd (upd (upd (upd (upd (upd zN 0 (kR b9)) 1 .null) 2 .null) 3 .null) 4 .null) 5 .null) 6 .null) 7 .null) (upd (upd (upd (upd zI 0 (kI ((p1).toInt8.toInt32).toInt8.toInt32)) 1 (kI ((p2).toInt8.toInt32).toInt8.toInt32)) 2 (kI ((p3).toInt8.toInt32).toInt8.toInt32)) 2 (kI ((p5).toInt8.toInt32).toInt8.toInt32)) ([]) T27.heap n0 W29 rfl rfl) hZ (hw _ (mi 40 rfl)) (hw _ (mi 3 rfl)) (by decide) (by decide)) q30a q30c (g := K28.g) rfl (by rw [hml]; rfl) (Steps.refl _) (argsL := [(.int (2 : Int32))]) (rest := []) (lenOf pd_get rfl) rfl (by show 2 * 0 + _ ≤ _; exact Nat.le_of_eq rfl) (hb hby at_99) (fun _ _ => ⟨rfl, (rfl : T27.heap = T27.heap), (by decide : 3 + 0 ≤ _), (by decide : 266 + 0 ≤ _)⟩)
  dsimp only [Pt.U, Pt.locs, Pt.cells, Pt.slots] at X30 l30 y30 z30 st30 hQ30
  subst l30 y30 z30
  obtain ⟨rfl, N30q, W30⟩ := hQ30
  have N30 := Fr.app N27 N30q
  have K31 : Rch p e below s₁ F0 T30 (mkF m 118 #[sI p1, sI p2, sI p3, sI p4, sI p5, sI (p1).toInt8.toInt32, sI (p2).toInt8.toInt32, sI (p3).toInt8.toInt32, sI (p5).toInt8.toInt32, sI 2, sR a3] [(kI 0), (kR a3)]) := fun t k => K28 t (st30.trans (by
    refine XS.iload X30.here hx rfl (hb hby at_102) rfl ?_
    refine XS.icmpYes X30.here hx rfl (pc0 := 104) (pc' := 109) rfl (hb hby at_104) rfl (teq (own_b p5)).1 (by decide) (by decide) ?_
    refine XS.iload X30.here hx rfl (hb hby at_109) rfl ?_
    refine XS.iconst X30.here hx rfl (hb hby at_111) ?_
    refine XS.icmpNo X30.here hx rfl (hb hby at_112) rfl (by decide) ?_
    refine XS.aload X30.here hx rfl (hb hby at_115) rfl rfl ?_
    show Steps p.tables e below (T30.setTop (mkF m 117 #[sI p1, sI p2, sI p3, sI p4, sI p5, sI (p1).toInt8.toInt32, sI (p2).toInt8.toInt32, sI (p3).toInt8.toInt32, sI (p5).toInt8.toInt32, sI 2, sR a3] [(kR a3)])) _
    refine XS.iconst X30.here hx rfl (hb hby at_117) ?_
    exact k))
  have W32 : Wo n0 T30.heap [(a3, oPB Z [(kR p6), (kI 3)]), (p6, Pg Z .byte 8 (upd (upd (upd (upd (upd (upd (upd (upd zN 0 (kR b9)) 1 .null) 2 .null) 3 .null) 4 .null) 5 .null) 6 .null) 7 .null)), (b9, Ar Z .byte 256 (upd (upd (upd (upd zI 0 (kI ((p1).toInt8.toInt32).toInt8.toInt32)) 1 (kI ((p2).toInt8.toInt32).toInt8.toInt32)) 2 (kI ((p3).toInt8.toInt32).toInt8.toInt32)) 2 (kI ((p5).toInt8.toInt32).toInt8.toInt32)))] := (Wo.front (Wo.front (Wo.front W30 (i := 2) rfl) (i := 2) rfl) (i := 2) rfl)
  obtain ⟨cq33, kq33, q33a, q33b, q33c⟩ := isOf hZ (rfl : T30.heap = T30.heap) (W32.exa (i := 0) rfl)
  obtain ⟨_, _, ⟨T33, L33, k33, n33⟩, -, X33, ⟨Lc33, hQ33, l33, y33, z33⟩, st33⟩ := X30.virtualBack hx (y := (⟨"com/example/attribute_checker/attributechecker/checker/PagedBytes", "get", "(I)B"⟩ : MethodName)) (z := (⟨"com/example/attribute_checker/attributechecker/checker/PagedBytes", "get", "(I)B"⟩ : MethodName)) hown (mvT hZ (hw _ (mi 36 rfl))) (mvT hZ (hw _ (mi 37 rfl))) (notFace_of_selects (args := #[]) (mvT hZ (hw _ (mi 39 rfl)))) (mvT hZ (hw _ (mi 39 rfl))) (mvT hZ (hw _ (mi 38 rfl))) (by decide) (backOf (W := 0) (rmG0 l Z a0 hw [] a3 p6 b9 (3 : Int32) ((p1).toInt8.toInt32).toInt8.toInt32 (upd (upd (upd (upd (upd (upd (upd (upd zN 0 (kR b9)) 1 .null) 2 .null) 3 .null) 4 .null) 5 .null) 6 .null) 7 .null) (upd (upd (upd (upd zI 0 (kI ((p1).toInt8.toInt32).toInt8.toInt32)) 1 (kI ((p2).toInt8.toInt32).toInt8.toInt32)) 2 (kI ((p3).toInt8.toInt32).toInt8.toInt32)) 2 (kI ((p5).toInt8.toInt32).toInt8.toInt32)) ([]) T30.heap n0 W32 rfl rfl) hZ (hw _ (mi 40 rfl)) (hw _ (mi 3 rfl)) (by decide) (by decide)) q33a q33c (g := K31.g) rfl (by rw [hml]; rfl) (Steps.refl _) (argsL := [(.int (0 : Int32))]) (rest := []) (lenOf pd_get rfl) rfl (by show 2 * 0 + _ ≤ _; exact Nat.le_of_eq rfl) (hb hby at_118) (fun _ _ => ⟨rfl, (rfl : T30.heap = T30.heap), (by decide : 3 + 0 ≤ _), (by decide : 266 + 0 ≤ _)⟩)
  dsimp only [Pt.U, Pt.locs, Pt.cells, Pt.slots] at X33 l33 y33 z33 st33 hQ33
  subst l33 y33 z33
  obtain ⟨rfl, N33q, W33⟩ := hQ33
  have N33 := Fr.app N30 N33q
  have K34 : Rch p e below s₁ F0 T33 (mkF m 137 #[sI p1, sI p2, sI p3, sI p4, sI p5, sI (p1).toInt8.toInt32, sI (p2).toInt8.toInt32, sI (p3).toInt8.toInt32, sI (p5).toInt8.toInt32, sI 2, sR a3] [(kI 1), (kR a3)]) := fun t k => K31 t (st33.trans (by
    refine XS.iload X33.here hx rfl (hb hby at_121) rfl ?_
    refine XS.icmpYes X33.here hx rfl (pc0 := 123) (pc' := 128) rfl (hb hby at_123) rfl (teq (own_b p1)).1 (by decide) (by decide) ?_
    refine XS.iload X33.here hx rfl (hb hby at_128) rfl ?_
    refine XS.iconst X33.here hx rfl (hb hby at_130) ?_
    refine XS.icmpNo X33.here hx rfl (hb hby at_131) rfl (by decide) ?_
    refine XS.aload X33.here hx rfl (hb hby at_134) rfl rfl ?_
    show Steps p.tables e below (T33.setTop (mkF m 136 #[sI p1, sI p2, sI p3, sI p4, sI p5, sI (p1).toInt8.toInt32, sI (p2).toInt8.toInt32, sI (p3).toInt8.toInt32, sI (p5).toInt8.toInt32, sI 2, sR a3] [(kR a3)])) _
    refine XS.iconst X33.here hx rfl (hb hby at_136) ?_
    exact k))
  have W35 : Wo n0 T33.heap [(a3, oPB Z [(kR p6), (kI 3)]), (p6, Pg Z .byte 8 (upd (upd (upd (upd (upd (upd (upd (upd zN 0 (kR b9)) 1 .null) 2 .null) 3 .null) 4 .null) 5 .null) 6 .null) 7 .null)), (b9, Ar Z .byte 256 (upd (upd (upd (upd zI 0 (kI ((p1).toInt8.toInt32).toInt8.toInt32)) 1 (kI ((p2).toInt8.toInt32).toInt8.toInt32)) 2 (kI ((p3).toInt8.toInt32).toInt8.toInt32)) 2 (kI ((p5).toInt8.toInt32).toInt8.toInt32)))] := (Wo.front (Wo.front (Wo.front W33 (i := 2) rfl) (i := 2) rfl) (i := 2) rfl)
  obtain ⟨cq36, kq36, q36a, q36b, q36c⟩ := isOf hZ (rfl : T33.heap = T33.heap) (W35.exa (i := 0) rfl)
  obtain ⟨_, _, ⟨T36, L36, k36, n36⟩, -, X36, ⟨Lc36, hQ36, l36, y36, z36⟩, st36⟩ := X33.virtualBack hx (y := (⟨"com/example/attribute_checker/attributechecker/checker/PagedBytes", "get", "(I)B"⟩ : MethodName)) (z := (⟨"com/example/attribute_checker/attributechecker/checker/PagedBytes", "get", "(I)B"⟩ : MethodName)) hown (mvT hZ (hw _ (mi 36 rfl))) (mvT hZ (hw _ (mi 37 rfl))) (notFace_of_selects (args := #[]) (mvT hZ (hw _ (mi 39 rfl)))) (mvT hZ (hw _ (mi 39 rfl))) (mvT hZ (hw _ (mi 38 rfl))) (by decide) (backOf (W := 0) (rmG1 l Z a0 hw [] a3 p6 b9 (3 : Int32) ((p2).toInt8.toInt32).toInt8.toInt32 (upd (upd (upd (upd (upd (upd (upd (upd zN 0 (kR b9)) 1 .null) 2 .null) 3 .null) 4 .null) 5 .null) 6 .null) 7 .null) (upd (upd (upd (upd zI 0 (kI ((p1).toInt8.toInt32).toInt8.toInt32)) 1 (kI ((p2).toInt8.toInt32).toInt8.toInt32)) 2 (kI ((p3).toInt8.toInt32).toInt8.toInt32)) 2 (kI ((p5).toInt8.toInt32).toInt8.toInt32)) ([]) T33.heap n0 W35 rfl rfl) hZ (hw _ (mi 40 rfl)) (hw _ (mi 3 rfl)) (by decide) (by decide)) q36a q36c (g := K34.g) rfl (by rw [hml]; rfl) (Steps.refl _) (argsL := [(.int (1 : Int32))]) (rest := []) (lenOf pd_get rfl) rfl (by show 2 * 0 + _ ≤ _; exact Nat.le_of_eq rfl) (hb hby at_137) (fun _ _ => ⟨rfl, (rfl : T33.heap = T33.heap), (by decide : 3 + 0 ≤ _), (by decide : 266 + 0 ≤ _)⟩)
  dsimp only [Pt.U, Pt.locs, Pt.cells, Pt.slots] at X36 l36 y36 z36 st36 hQ36
  subst l36 y36 z36
  obtain ⟨rfl, N36q, W36⟩ := hQ36
  have N36 := Fr.app N33 N36q
  have K37 : Rch p e below s₁ F0 T36 (mkF m 167 #[sI p1, sI p2, sI p3, sI p4, sI p5, sI (p1).toInt8.toInt32, sI (p2).toInt8.toInt32, sI (p3).toInt8.toInt32, sI (p5).toInt8.toInt32, sI 2, sR a3] [(kI 1)]) := fun t k => K34 t (st36.trans (by
    refine XS.iload X36.here hx rfl (hb hby at_140) rfl ?_
    refine XS.icmpYes X36.here hx rfl (pc0 := 142) (pc' := 147) rfl (hb hby at_142) rfl (teq (own_b p2)).1 (by decide) (by decide) ?_
    refine XS.iload X36.here hx rfl (hb hby at_147) rfl ?_
    refine XS.iconst X36.here hx rfl (hb hby at_149) ?_
    refine XS.icmpYes X36.here hx rfl (pc0 := 150) (pc' := 166) rfl (hb hby at_150) rfl (by decide) (by decide) (by decide) ?_
    refine XS.iconst X36.here hx rfl (hb hby at_166) ?_
    exact k))
  obtain ⟨fs, hr, hrun, hended, hWm, hsame⟩ := X36.leave (v := some (.int (1 : Int32))) (fun h => by rw [Bd.returns] at h; cases h)
  refine ⟨_, _, pre0 _ (K37 _ (retN X36 hx (t := .boolean) Bd.returns (by simp) (hb hby at_167) hr)), hrun, hended, _, _, rfl, ?_, ⟨_, rfl⟩, hWm, hsame.mono (by decide) (by decide)⟩
  show Qrm0_2 Z p1 p2 p3 p4 p5 n0 _ T36.heap _
  exact ⟨rfl, N36⟩
theorem ef_rm0_3 (m : MethodId) (p1 p2 p3 p4 p5 : Int32) : entryFrame m #[(.int p1), (.int p2), (.int p3), (.int p4), (.int p5)] maxLocals = mkF m 0 #[.val (.int p1), .val (.int p2), .val (.int p3), .val (.int p4), .val (.int p5), .unset, .unset, .unset, .unset, .unset, .unset] [] := by first | (simp [entryFrame, mkF, argsToLocals, Value.category, maxLocals]; done) | rfl
def Qrm0_3 (Z : State) (p1 p2 p3 p4 p5 : Int32) (n0 : Nat) (v : Option Value) (h : Heap) (L : List Loc) : Prop := v = some (.int (1 : Int32)) ∧ Fr n0 L
set_option maxRecDepth 65536 in
set_option maxHeartbeats 40000000 in
theorem rm0_3 (l : Launch) (Z : State) (a0 : Array Value) (hw : ∀ d ∈ tables_1, d.before a0 Z = true) (ws : List Jvm.Cond) (p1 p2 p3 p4 p5 : Int32) (h0 : Heap) (n0 : Nat) (W0 : Wo n0 h0 []) (hr0 : ((p4 &&& (2147483647 : Int32)) - ((p4 &&& (2147483647 : Int32)) / (4 : Int32)) * (4 : Int32)) = (3 : Int32)) :
    MetFree l x (head1 (Jvm.Cond.code x code maxLocals ret :: ws) room_1) (fun a U => a = #[(.int p1), (.int p2), (.int p3), (.int p4), (.int p5)] ∧ Z.Warmed39 U.vm ∧ U.heap = h0) (fun _ _ _ _ _ => True) (fun _ U ou U' => ∃ v L, ou = .returned v ∧ Qrm0_3 Z p1 p2 p3 p4 p5 n0 v U'.heap L ∧ FrameEnd U ou U' L room_1.cells room_1.slots) := by
  refine MetFree.of_bodySF (plainFor_of_name pn_PagedBytesTruncatePinLaw) hisR ?_
  intro p e s m args below meth c s₁ Bd hml0 hP hK
  obtain ⟨rfl, hZ, hh⟩ := hP
  have hx := Bd.exec
  have hby := Bd.bytes
  have hml : c.maxLocals = 11 := hml0
  have hown : s.vm.findClass "com/example/attribute_checker/attributechecker/checker/PagedBytesTruncatePinLaw" = some m.cls := findClass_of_methodNamed Bd.named
  have hnm := (name_of_methodNamed Bd.named Bd.method).1
  have X0 : Stand p l e room_1 s m #[(.int p1), (.int p2), (.int p3), (.int p4), (.int p5)] below meth c s₁ [] 0 0 := Stand.of_body Bd
  have e0 : s₁.heap = h0 := by rw [← hh, Bd.state]; rfl
  have N0 := Fr.nil n0
  obtain ⟨F0, hF0⟩ : ∃ F, F = mkF m 0 #[.val (.int p1), .val (.int p2), .val (.int p3), .val (.int p4), .val (.int p5), .unset, .unset, .unset, .unset, .unset, .unset] [] := ⟨_, rfl⟩
  have pre0 : ∀ t, Steps p.tables e below (s₁.setTop F0) t → Steps p.tables e below (s₁.setTop (entryFrame m #[(.int p1), (.int p2), (.int p3), (.int p4), (.int p5)] maxLocals)) t := fun t k => castTop ((ef_rm0_3 m p1 p2 p3 p4 p5).trans hF0.symm) k
  have K0 : Rch p e below s₁ F0 s₁ (mkF m 0 #[.val (.int p1), .val (.int p2), .val (.int p3), .val (.int p4), .val (.int p5), .unset, .unset, .unset, .unset, .unset, .unset] []) := fun t k => castTop hF0 k
  have K1 : Rch p e below s₁ F0 s₁ (mkF m 23 #[sI p1, sI p2, sI p3, sI p4, sI p5, sI (p1).toInt8.toInt32, sI (p2).toInt8.toInt32, sI (p3).toInt8.toInt32, sI (p5).toInt8.toInt32, sU, sU] [(kI ((p4 &&& (2147483647 : Int32)) - ((p4 &&& (2147483647 : Int32)) / (4 : Int32)) * (4 : Int32)))]) := fun t k => K0 t (by
    refine XS.iloadN X0.here hx rfl (hb hby at_0) rfl ?_
    refine XS.i2b X0.here hx rfl (hb hby at_1) rfl ?_
    refine XS.istore X0.here hx rfl (hb hby at_2) rfl (l' := #[sI p1, sI p2, sI p3, sI p4, sI p5, sI (p1).toInt8.toInt32, sU, sU, sU, sU, sU]) rfl ?_
    refine XS.iloadN X0.here hx rfl (hb hby at_4) rfl ?_
    refine XS.i2b X0.here hx rfl (hb hby at_5) rfl ?_
    refine XS.istore X0.here hx rfl (hb hby at_6) rfl (l' := #[sI p1, sI p2, sI p3, sI p4, sI p5, sI (p1).toInt8.toInt32, sI (p2).toInt8.toInt32, sU, sU, sU, sU]) rfl ?_
    show Steps p.tables e below (s₁.setTop (mkF m 8 #[sI p1, sI p2, sI p3, sI p4, sI p5, sI (p1).toInt8.toInt32, sI (p2).toInt8.toInt32, sU, sU, sU, sU] [])) _
    refine XS.iloadN X0.here hx rfl (hb hby at_8) rfl ?_
    refine XS.i2b X0.here hx rfl (hb hby at_9) rfl ?_
    refine XS.istore X0.here hx rfl (hb hby at_10) rfl (l' := #[sI p1, sI p2, sI p3, sI p4, sI p5, sI (p1).toInt8.toInt32, sI (p2).toInt8.toInt32, sI (p3).toInt8.toInt32, sU, sU, sU]) rfl ?_
    refine XS.iload X0.here hx rfl (hb hby at_12) rfl ?_
    refine XS.i2b X0.here hx rfl (hb hby at_14) rfl ?_
    refine XS.istore X0.here hx rfl (hb hby at_15) rfl (l' := #[sI p1, sI p2, sI p3, sI p4, sI p5, sI (p1).toInt8.toInt32, sI (p2).toInt8.toInt32, sI (p3).toInt8.toInt32, sI (p5).toInt8.toInt32, sU, sU]) rfl ?_
    show Steps p.tables e below (s₁.setTop (mkF m 17 #[sI p1, sI p2, sI p3, sI p4, sI p5, sI (p1).toInt8.toInt32, sI (p2).toInt8.toInt32, sI (p3).toInt8.toInt32, sI (p5).toInt8.toInt32, sU, sU] [])) _
    refine XS.iloadN X0.here hx rfl (hb hby at_17) rfl ?_
    refine X0.ldcInt hx hown (mvT hZ (hw _ (mi 0 rfl))) (g := (mkF m 18 #[sI p1, sI p2, sI p3, sI p4, sI p5, sI (p1).toInt8.toInt32, sI (p2).toInt8.toInt32, sI (p3).toInt8.toInt32, sI (p5).toInt8.toInt32, sU, sU] [(kI p4)])) rfl (hb hby at_18) _ ?_
    refine XS.iand X0.here hx rfl (hb hby at_20) rfl ?_
    refine XS.iconst X0.here hx rfl (hb hby at_21) ?_
    refine XS.irem X0.here hx rfl (hb hby at_22) rfl (by decide) ?_
    exact k)
  rw [show ((p4 &&& (2147483647 : Int32)) - ((p4 &&& (2147483647 : Int32)) / (4 : Int32)) * (4 : Int32)) = (3 : Int32) from hr0] at K1
  have K2 : Rch p e below s₁ F0 s₁ (mkF m 25 #[sI p1, sI p2, sI p3, sI p4, sI p5, sI (p1).toInt8.toInt32, sI (p2).toInt8.toInt32, sI (p3).toInt8.toInt32, sI (p5).toInt8.toInt32, sI 3, sU] []) := fun t k => K1 t (XS.istore X0.here hx rfl (hb hby at_23) rfl (l' := #[sI p1, sI p2, sI p3, sI p4, sI p5, sI (p1).toInt8.toInt32, sI (p2).toInt8.toInt32, sI (p3).toInt8.toInt32, sI (p5).toInt8.toInt32, sI 3, sU]) rfl k)
  obtain ⟨T3, h3, a3, X3, e3, W3q, st3⟩ := newWO X0 hx hZ hown (hw _ (mi 1 rfl)) (hw _ (mi 2 rfl)) (hw _ (mi 3 rfl)) e0 W0 (own_lPB hw) (vs := [.null, (.int (0 : Int32))]) own_vPB (g := K2.g) rfl (hb hby at_25) (by decide : 0 + 1 ≤ _) (by decide : 0 + 2 ≤ _)
  have W3 : Wo n0 h3 [(a3, oPB Z [.null, (kI 0)])] := W3q
  have K4 : Rch p e below s₁ F0 T3 (mkF m 29 #[sI p1, sI p2, sI p3, sI p4, sI p5, sI (p1).toInt8.toInt32, sI (p2).toInt8.toInt32, sI (p3).toInt8.toInt32, sI (p5).toInt8.toInt32, sI 3, sU] [(kR a3), (kR a3)]) := fun t k => K2 t (st3 t (XS.dup X3.here hx rfl (hb hby at_28) rfl rfl k))
  have W5 : Wo n0 h3 [(a3, oPB Z [.null, (kI 0)])] := (Wo.front W3 (i := 0) rfl)
  obtain ⟨_, _, ⟨T6, L6, k6, n6⟩, -, X6, ⟨Lc6, hQ6, l6, y6, z6⟩, st6⟩ := X3.specialBack hx (y := (⟨"com/example/attribute_checker/attributechecker/checker/PagedBytes", "<init>", "()V"⟩ : MethodName)) rfl hown (mvT hZ (hw _ (mi 4 rfl))) (mvT hZ (hw _ (mi 5 rfl))) (mvT hZ (hw _ (mi 6 rfl))) (by decide) (backOf (W := 1) (rmI l Z a0 hw [] a3 ([]) h3 n0 W5) hZ (hw _ (mi 6 rfl)) (hw _ (mi 3 rfl)) (by decide) (by decide)) (g := K4.g) rfl (by rw [hml]; rfl) (Steps.refl _) (a := a3) (argsL := []) (rest := [(.ref a3)]) (lenOf pd_init rfl) rfl (by show 2 * 0 + _ ≤ _; exact Nat.le_of_eq rfl) (hb hby at_29) (fun _ _ => ⟨rfl, e3, (by decide : 1 + 1 ≤ _), (by decide : 2 + 8 ≤ _)⟩)
  dsimp only [Pt.U, Pt.locs, Pt.cells, Pt.slots] at X6 l6 y6 z6 st6 hQ6
  subst l6 y6 z6
  obtain ⟨rfl, N6q, ⟨p6, W6⟩⟩ := hQ6
  have N6 := Fr.app N0 N6q
  have K7 : Rch p e below s₁ F0 T6 (mkF m 38 #[sI p1, sI p2, sI p3, sI p4, sI p5, sI (p1).toInt8.toInt32, sI (p2).toInt8.toInt32, sI (p3).toInt8.toInt32, sI (p5).toInt8.toInt32, sI 3, sR a3] [(kI (p1).toInt8.toInt32), (kR a3)]) := fun t k => K4 t (st6.trans (by
    refine XS.astore X6.here hx rfl (hb hby at_32) rfl rfl (l' := #[sI p1, sI p2, sI p3, sI p4, sI p5, sI (p1).toInt8.toInt32, sI (p2).toInt8.toInt32, sI (p3).toInt8.toInt32, sI (p5).toInt8.toInt32, sI 3, sR a3]) rfl ?_
    refine XS.aload X6.here hx rfl (hb hby at_34) rfl rfl ?_
    refine XS.iload X6.here hx rfl (hb hby at_36) rfl ?_
    exact k))
  have W8 : Wo n0 T6.heap [(a3, oPB Z [(kR p6), (kI 0)]), (p6, Pg Z .byte 8 zN)] := (Wo.front (Wo.front W6 (i := 0) rfl) (i := 1) rfl)
  obtain ⟨cq9, kq9, q9a, q9b, q9c⟩ := isOf hZ (rfl : T6.heap = T6.heap) (W8.exa (i := 0) rfl)
  obtain ⟨_, _, ⟨T9, L9, k9, n9⟩, -, X9, ⟨Lc9, hQ9, l9, y9, z9⟩, st9⟩ := X6.virtualBack hx (y := (⟨"com/example/attribute_checker/attributechecker/checker/PagedBytes", "add", "(B)V"⟩ : MethodName)) (z := (⟨"com/example/attribute_checker/attributechecker/checker/PagedBytes", "add", "(B)V"⟩ : MethodName)) hown (mvT hZ (hw _ (mi 14 rfl))) (mvT hZ (hw _ (mi 15 rfl))) (notFace_of_selects (args := #[]) (mvT hZ (hw _ (mi 17 rfl)))) (mvT hZ (hw _ (mi 17 rfl))) (mvT hZ (hw _ (mi 16 rfl))) (by decide) (backOf (W := 0) (rmA l Z a0 hw [] a3 p6 (p1).toInt8.toInt32 zN ([]) T6.heap n0 W8 rfl) hZ (hw _ (mi 18 rfl)) (hw _ (mi 3 rfl)) (by decide) (by decide)) q9a q9c (g := K7.g) rfl (by rw [hml]; rfl) (Steps.refl _) (argsL := [(.int (p1).toInt8.toInt32)]) (rest := []) (lenOf pd_add rfl) rfl (by show 2 * 0 + _ ≤ _; exact Nat.le_of_eq rfl) (hb hby at_38) (fun _ _ => ⟨rfl, (rfl : T6.heap = T6.heap), (by decide : 2 + 1 ≤ _), (by decide : 10 + 256 ≤ _)⟩)
  dsimp only [Pt.U, Pt.locs, Pt.cells, Pt.slots] at X9 l9 y9 z9 st9 hQ9
  subst l9 y9 z9
  obtain ⟨rfl, N9q, ⟨b9, W9⟩⟩ := hQ9
  have N9 := Fr.app N6 N9q
  have K10 : Rch p e below s₁ F0 T9 (mkF m 45 #[sI p1, sI p2, sI p3, sI p4, sI p5, sI (p1).toInt8.toInt32, sI (p2).toInt8.toInt32, sI (p3).toInt8.toInt32, sI (p5).toInt8.toInt32, sI 3, sR a3] [(kI (p2).toInt8.toInt32), (kR a3)]) := fun t k => K7 t (st9.trans (by
    refine XS.aload X9.here hx rfl (hb hby at_41) rfl rfl ?_
    refine XS.iload X9.here hx rfl (hb hby at_43) rfl ?_
    exact k))
  have W11 : Wo n0 T9.heap [(a3, oPB Z [(kR p6), (kI 1)]), (p6, Pg Z .byte 8 (upd zN 0 (kR b9))), (b9, Ar Z .byte 256 (upd zI 0 (kI ((p1).toInt8.toInt32).toInt8.toInt32)))] := (Wo.front (Wo.front (Wo.front W9 (i := 0) rfl) (i := 2) rfl) (i := 2) rfl)
  obtain ⟨cq12, kq12, q12a, q12b, q12c⟩ := isOf hZ (rfl : T9.heap = T9.heap) (W11.exa (i := 0) rfl)
  obtain ⟨_, _, ⟨T12, L12, k12, n12⟩, -, X12, ⟨Lc12, hQ12, l12, y12, z12⟩, st12⟩ := X9.virtualBack hx (y := (⟨"com/example/attribute_checker/attributechecker/checker/PagedBytes", "add", "(B)V"⟩ : MethodName)) (z := (⟨"com/example/attribute_checker/attributechecker/checker/PagedBytes", "add", "(B)V"⟩ : MethodName)) hown (mvT hZ (hw _ (mi 14 rfl))) (mvT hZ (hw _ (mi 15 rfl))) (notFace_of_selects (args := #[]) (mvT hZ (hw _ (mi 17 rfl)))) (mvT hZ (hw _ (mi 17 rfl))) (mvT hZ (hw _ (mi 16 rfl))) (by decide) (backOf (W := 0) (rmA1 l Z a0 hw [] a3 p6 b9 (p2).toInt8.toInt32 (upd zN 0 (kR b9)) (upd zI 0 (kI ((p1).toInt8.toInt32).toInt8.toInt32)) ([]) T9.heap n0 W11 rfl) hZ (hw _ (mi 18 rfl)) (hw _ (mi 3 rfl)) (by decide) (by decide)) q12a q12c (g := K10.g) rfl (by rw [hml]; rfl) (Steps.refl _) (argsL := [(.int (p2).toInt8.toInt32)]) (rest := []) (lenOf pd_add rfl) rfl (by show 2 * 0 + _ ≤ _; exact Nat.le_of_eq rfl) (hb hby at_45) (fun _ _ => ⟨rfl, (rfl : T9.heap = T9.heap), (by decide : 3 + 0 ≤ _), (by decide : 266 + 0 ≤ _)⟩)
  dsimp only [Pt.U, Pt.locs, Pt.cells, Pt.slots] at X12 l12 y12 z12 st12 hQ12
  subst l12 y12 z12
  obtain ⟨rfl, N12q, W12⟩ := hQ12
  have N12 := Fr.app N9 N12q
  have K13 : Rch p e below s₁ F0 T12 (mkF m 52 #[sI p1, sI p2, sI p3, sI p4, sI p5, sI (p1).toInt8.toInt32, sI (p2).toInt8.toInt32, sI (p3).toInt8.toInt32, sI (p5).toInt8.toInt32, sI 3, sR a3] [(kI (p3).toInt8.toInt32), (kR a3)]) := fun t k => K10 t (st12.trans (by
    refine XS.aload X12.here hx rfl (hb hby at_48) rfl rfl ?_
    refine XS.iload X12.here hx rfl (hb hby at_50) rfl ?_
    exact k))
  have W14 : Wo n0 T12.heap [(a3, oPB Z [(kR p6), (kI 2)]), (p6, Pg Z .byte 8 (upd zN 0 (kR b9))), (b9, Ar Z .byte 256 (upd (upd zI 0 (kI ((p1).toInt8.toInt32).toInt8.toInt32)) 1 (kI ((p2).toInt8.toInt32).toInt8.toInt32)))] := (Wo.front (Wo.front (Wo.front W12 (i := 2) rfl) (i := 2) rfl) (i := 2) rfl)
  obtain ⟨cq15, kq15, q15a, q15b, q15c⟩ := isOf hZ (rfl : T12.heap = T12.heap) (W14.exa (i := 0) rfl)
  obtain ⟨_, _, ⟨T15, L15, k15, n15⟩, -, X15, ⟨Lc15, hQ15, l15, y15, z15⟩, st15⟩ := X12.virtualBack hx (y := (⟨"com/example/attribute_checker/attributechecker/checker/PagedBytes", "add", "(B)V"⟩ : MethodName)) (z := (⟨"com/example/attribute_checker/attributechecker/checker/PagedBytes", "add", "(B)V"⟩ : MethodName)) hown (mvT hZ (hw _ (mi 14 rfl))) (mvT hZ (hw _ (mi 15 rfl))) (notFace_of_selects (args := #[]) (mvT hZ (hw _ (mi 17 rfl)))) (mvT hZ (hw _ (mi 17 rfl))) (mvT hZ (hw _ (mi 16 rfl))) (by decide) (backOf (W := 0) (rmA2 l Z a0 hw [] a3 p6 b9 (p3).toInt8.toInt32 (upd zN 0 (kR b9)) (upd (upd zI 0 (kI ((p1).toInt8.toInt32).toInt8.toInt32)) 1 (kI ((p2).toInt8.toInt32).toInt8.toInt32)) ([]) T12.heap n0 W14 rfl) hZ (hw _ (mi 18 rfl)) (hw _ (mi 3 rfl)) (by decide) (by decide)) q15a q15c (g := K13.g) rfl (by rw [hml]; rfl) (Steps.refl _) (argsL := [(.int (p3).toInt8.toInt32)]) (rest := []) (lenOf pd_add rfl) rfl (by show 2 * 0 + _ ≤ _; exact Nat.le_of_eq rfl) (hb hby at_52) (fun _ _ => ⟨rfl, (rfl : T12.heap = T12.heap), (by decide : 3 + 0 ≤ _), (by decide : 266 + 0 ≤ _)⟩)
  dsimp only [Pt.U, Pt.locs, Pt.cells, Pt.slots] at X15 l15 y15 z15 st15 hQ15
  subst l15 y15 z15
  obtain ⟨rfl, N15q, W15⟩ := hQ15
  have N15 := Fr.app N12 N15q
  have K16 : Rch p e below s₁ F0 T15 (mkF m 59 #[sI p1, sI p2, sI p3, sI p4, sI p5, sI (p1).toInt8.toInt32, sI (p2).toInt8.toInt32, sI (p3).toInt8.toInt32, sI (p5).toInt8.toInt32, sI 3, sR a3] [(kI 3), (kR a3)]) := fun t k => K13 t (st15.trans (by
    refine XS.aload X15.here hx rfl (hb hby at_55) rfl rfl ?_
    refine XS.iload X15.here hx rfl (hb hby at_57) rfl ?_
    exact k))
  have W17 : Wo n0 T15.heap [(a3, oPB Z [(kR p6), (kI 3)]), (p6, Pg Z .byte 8 (upd zN 0 (kR b9))), (b9, Ar Z .byte 256 (upd (upd (upd zI 0 (kI ((p1).toInt8.toInt32).toInt8.toInt32)) 1 (kI ((p2).toInt8.toInt32).toInt8.toInt32)) 2 (kI ((p3).toInt8.toInt32).toInt8.toInt32)))] := (Wo.front (Wo.front W15 (i := 1) rfl) (i := 1) rfl)
  obtain ⟨cq18, kq18, q18a, q18b, q18c⟩ := isOf hZ (rfl : T15.heap = T15.heap) (W17.exa (i := 0) rfl)
  obtain ⟨_, _, ⟨T18, L18, k18, n18⟩, -, X18, ⟨Lc18, hQ18, l18, y18, z18⟩, st18⟩ := X15.virtualBack hx (y := (⟨"com/example/attribute_checker/attributechecker/checker/PagedBytes", "truncate", "(I)V"⟩ : MethodName)) (z := (⟨"com/example/attribute_checker/attributechecker/checker/PagedBytes", "truncate", "(I)V"⟩ : MethodName)) hown (mvT hZ (hw _ (mi 25 rfl))) (mvT hZ (hw _ (mi 26 rfl))) (notFace_of_selects (args := #[]) (mvT hZ (hw _ (mi 28 rfl)))) (mvT hZ (hw _ (mi 28 rfl))) (mvT hZ (hw _ (mi 27 rfl))) (by decide) (backOf (W := 0) (rmT3 l Z a0 hw [] a3 p6 (3 : Int32) (upd zN 0 (kR b9)) ((b9, Ar Z .byte 256 (upd (upd (upd zI 0 (kI ((p1).toInt8.toInt32).toInt8.toInt32)) 1 (kI ((p2).toInt8.toInt32).toInt8.toInt32)) 2 (kI ((p3).toInt8.toInt32).toInt8.toInt32))) :: []) T15.heap n0 W17) hZ (hw _ (mi 29 rfl)) (hw _ (mi 3 rfl)) (by decide) (by decide)) q18a q18c (g := K16.g) rfl (by rw [hml]; rfl) (Steps.refl _) (argsL := [(.int (3 : Int32))]) (rest := []) (lenOf pd_tr rfl) rfl (by show 2 * 0 + _ ≤ _; exact Nat.le_of_eq rfl) (hb hby at_59) (fun _ _ => ⟨rfl, (rfl : T15.heap = T15.heap), (by decide : 3 + 0 ≤ _), (by decide : 266 + 0 ≤ _)⟩)
  dsimp only [Pt.U, Pt.locs, Pt.cells, Pt.slots] at X18 l18 y18 z18 st18 hQ18
  subst l18 y18 z18
  obtain ⟨rfl, N18q, W18⟩ := hQ18
  have N18 := Fr.app N15 N18q
  have K19 : Rch p e below s₁ F0 T18 (mkF m 64 #[sI p1, sI p2, sI p3, sI p4, sI p5, sI (p1).toInt8.toInt32, sI (p2).toInt8.toInt32, sI (p3).toInt8.toInt32, sI (p5).toInt8.toInt32, sI 3, sR a3] [(kR a3)]) := fun t k => K16 t (st18.trans (XS.aload X18.here hx rfl (hb hby at_62) rfl rfl k))
  have W20 : Wo n0 T18.heap [(a3, oPB Z [(kR p6), (kI 3)]), (p6, Pg Z .byte 8 (upd (upd (upd (upd (upd (upd (upd (upd zN 0 (kR b9)) 1 .null) 2 .null) 3 .null) 4 .null) 5 .null) 6 .null) 7 .null)), (b9, Ar Z .byte 256 (upd (upd (upd zI 0 (kI ((p1).toInt8.toInt32).toInt8.toInt32)) 1 (kI ((p2).toInt8.toInt32).toInt8.toInt32)) 2 (kI ((p3).toInt8.toInt32).toInt8.toInt32)))] := (Wo.front W18 (i := 0) rfl)
  obtain ⟨cq21, kq21, q21a, q21b, q21c⟩ := isOf hZ (rfl : T18.heap = T18.heap) (W20.exa (i := 0) rfl)
  obtain ⟨_, _, ⟨T21, L21, k21, n21⟩, -, X21, ⟨Lc21, hQ21, l21, y21, z21⟩, st21⟩ := X18.virtualBack hx (y := (⟨"com/example/attribute_checker/attributechecker/checker/PagedBytes", "size", "()I"⟩ : MethodName)) (z := (⟨"com/example/attribute_checker/attributechecker/checker/PagedBytes", "size", "()I"⟩ : MethodName)) hown (mvT hZ (hw _ (mi 31 rfl))) (mvT hZ (hw _ (mi 32 rfl))) (notFace_of_selects (args := #[]) (mvT hZ (hw _ (mi 34 rfl)))) (mvT hZ (hw _ (mi 34 rfl))) (mvT hZ (hw _ (mi 33 rfl))) (by decide) (backOf (W := 0) (rmS l Z a0 hw [] a3 p6 (3 : Int32) ((p6, Pg Z .byte 8 (upd (upd (upd (upd (upd (upd (upd (upd zN 0 (kR b9)) 1 .null) 2 .null) 3 .null) 4 .null) 5 .null) 6 .null) 7 .null)) :: (b9, Ar Z .byte 256 (upd (upd (upd zI 0 (kI ((p1).toInt8.toInt32).toInt8.toInt32)) 1 (kI ((p2).toInt8.toInt32).toInt8.toInt32)) 2 (kI ((p3).toInt8.toInt32).toInt8.toInt32))) :: []) T18.heap n0 W20) hZ (hw _ (mi 35 rfl)) (hw _ (mi 3 rfl)) (by decide) (by decide)) q21a q21c (g := K19.g) rfl (by rw [hml]; rfl) (Steps.refl _) (argsL := []) (rest := []) (lenOf pd_size rfl) rfl (by show 2 * 0 + _ ≤ _; exact Nat.le_of_eq rfl) (hb hby at_64) (fun _ _ => ⟨rfl, (rfl : T18.heap = T18.heap), (by decide : 3 + 0 ≤ _), (by decide : 266 + 0 ≤ _)⟩)
  dsimp only [Pt.U, Pt.locs, Pt.cells, Pt.slots] at X21 l21 y21 z21 st21 hQ21
  subst l21 y21 z21
  obtain ⟨rfl, N21q, W21⟩ := hQ21
  have N21 := Fr.app N18 N21q
  have K22 : Rch p e below s₁ F0 T21 (mkF m 78 #[sI p1, sI p2, sI p3, sI p4, sI p5, sI (p1).toInt8.toInt32, sI (p2).toInt8.toInt32, sI (p3).toInt8.toInt32, sI (p5).toInt8.toInt32, sI 3, sR a3] [(kI (p5).toInt8.toInt32), (kR a3)]) := fun t k => K19 t (st21.trans (by
    refine XS.iload X21.here hx rfl (hb hby at_67) rfl ?_
    refine XS.icmpYes X21.here hx rfl (pc0 := 69) (pc' := 74) rfl (hb hby at_69) rfl (by decide) (by decide) (by decide) ?_
    refine XS.aload X21.here hx rfl (hb hby at_74) rfl rfl ?_
    refine XS.iload X21.here hx rfl (hb hby at_76) rfl ?_
    exact k))
  have W23 : Wo n0 T21.heap [(a3, oPB Z [(kR p6), (kI 3)]), (p6, Pg Z .byte 8 (upd (upd (upd (upd (upd (upd (upd (upd zN 0 (kR b9)) 1 .null) 2 .null) 3 .null) 4 .null) 5 .null) 6 .null) 7 .null)), (b9, Ar Z .byte 256 (upd (upd (upd zI 0 (kI ((p1).toInt8.toInt32).toInt8.toInt32)) 1 (kI ((p2).toInt8.toInt32).toInt8.toInt32)) 2 (kI ((p3).toInt8.toInt32).toInt8.toInt32)))] := (Wo.front (Wo.front (Wo.front W21 (i := 2) rfl) (i := 2) rfl) (i := 2) rfl)
  obtain ⟨cq24, kq24, q24a, q24b, q24c⟩ := isOf hZ (rfl : T21.heap = T21.heap) (W23.exa (i := 0) rfl)
  obtain ⟨_, _, ⟨T24, L24, k24, n24⟩, -, X24, ⟨Lc24, hQ24, l24, y24, z24⟩, st24⟩ := X21.virtualBack hx (y := (⟨"com/example/attribute_checker/attributechecker/checker/PagedBytes", "add", "(B)V"⟩ : MethodName)) (z := (⟨"com/example/attribute_checker/attributechecker/checker/PagedBytes", "add", "(B)V"⟩ : MethodName)) hown (mvT hZ (hw _ (mi 14 rfl))) (mvT hZ (hw _ (mi 15 rfl))) (notFace_of_selects (args := #[]) (mvT hZ (hw _ (mi 17 rfl)))) (mvT hZ (hw _ (mi 17 rfl))) (mvT hZ (hw _ (mi 16 rfl))) (by decide) (backOf (W := 0) (rmA3 l Z a0 hw [] a3 p6 b9 (p5).toInt8.toInt32 (upd (upd (upd (upd (upd (upd (upd (upd zN 0 (kR b9)) 1 .null) 2 .null) 3 .null) 4 .null) 5 .null) 6 .null) 7 .null) (upd (upd (upd zI 0 (kI ((p1).toInt8.toInt32).toInt8.toInt32)) 1 (kI ((p2).toInt8.toInt32).toInt8.toInt32)) 2 (kI ((p3).toInt8.toInt32).toInt8.toInt32)) ([]) T21.heap n0 W23 rfl) hZ (hw _ (mi 18 rfl)) (hw _ (mi 3 rfl)) (by decide) (by decide)) q24a q24c (g := K22.g) rfl (by rw [hml]; rfl) (Steps.refl _) (argsL := [(.int (p5).toInt8.toInt32)]) (rest := []) (lenOf pd_add rfl) rfl (by show 2 * 0 + _ ≤ _; exact Nat.le_of_eq rfl) (hb hby at_78) (fun _ _ => ⟨rfl, (rfl : T21.heap = T21.heap), (by decide : 3 + 0 ≤ _), (by decide : 266 + 0 ≤ _)⟩)
  dsimp only [Pt.U, Pt.locs, Pt.cells, Pt.slots] at X24 l24 y24 z24 st24 hQ24
  subst l24 y24 z24
  obtain ⟨rfl, N24q, W24⟩ := hQ24
  have N24 := Fr.app N21 N24q
  have K25 : Rch p e below s₁ F0 T24 (mkF m 83 #[sI p1, sI p2, sI p3, sI p4, sI p5, sI (p1).toInt8.toInt32, sI (p2).toInt8.toInt32, sI (p3).toInt8.toInt32, sI (p5).toInt8.toInt32, sI 3, sR a3] [(kR a3)]) := fun t k => K22 t (st24.trans (XS.aload X24.here hx rfl (hb hby at_81) rfl rfl k))
  have W26 : Wo n0 T24.heap [(a3, oPB Z [(kR p6), (kI 4)]), (p6, Pg Z .byte 8 (upd (upd (upd (upd (upd (upd (upd (upd zN 0 (kR b9)) 1 .null) 2 .null) 3 .null) 4 .null) 5 .null) 6 .null) 7 .null)), (b9, Ar Z .byte 256 (upd (upd (upd (upd zI 0 (kI ((p1).toInt8.toInt32).toInt8.toInt32)) 1 (kI ((p2).toInt8.toInt32).toInt8.toInt32)) 2 (kI ((p3).toInt8.toInt32).toInt8.toInt32)) 3 (kI ((p5).toInt8.toInt32).toInt8.toInt32)))] := (Wo.front W24 (i := 0) rfl)
  obtain ⟨cq27, kq27, q27a, q27b, q27c⟩ := isOf hZ (rfl : T24.heap = T24.heap) (W26.exa (i := 0) rfl)
  obtain ⟨_, _, ⟨T27, L27, k27, n27⟩, -, X27, ⟨Lc27, hQ27, l27, y27, z27⟩, st27⟩ := X24.virtualBack hx (y := (⟨"com/example/attribute_checker/attributechecker/checker/PagedBytes", "size", "()I"⟩ : MethodName)) (z := (⟨"com/example/attribute_checker/attributechecker/checker/PagedBytes", "size", "()I"⟩ : MethodName)) hown (mvT hZ (hw _ (mi 31 rfl))) (mvT hZ (hw _ (mi 32 rfl))) (notFace_of_selects (args := #[]) (mvT hZ (hw _ (mi 34 rfl)))) (mvT hZ (hw _ (mi 34 rfl))) (mvT hZ (hw _ (mi 33 rfl))) (by decide) (backOf (W := 0) (rmS l Z a0 hw [] a3 p6 (4 : Int32) ((p6, Pg Z .byte 8 (upd (upd (upd (upd (upd (upd (upd (upd zN 0 (kR b9)) 1 .null) 2 .null) 3 .null) 4 .null) 5 .null) 6 .null) 7 .null)) :: (b9, Ar Z .byte 256 (upd (upd (upd (upd zI 0 (kI ((p1).toInt8.toInt32).toInt8.toInt32)) 1 (kI ((p2).toInt8.toInt32).toInt8.toInt32)) 2 (kI ((p3).toInt8.toInt32).toInt8.toInt32)) 3 (kI ((p5).toInt8.toInt32).toInt8.toInt32))) :: []) T24.heap n0 W26) hZ (hw _ (mi 35 rfl)) (hw _ (mi 3 rfl)) (by decide) (by decide)) q27a q27c (g := K25.g) rfl (by rw [hml]; rfl) (Steps.refl _) (argsL := []) (rest := []) (lenOf pd_size rfl) rfl (by show 2 * 0 + _ ≤ _; exact Nat.le_of_eq rfl) (hb hby at_83) (fun _ _ => ⟨rfl, (rfl : T24.heap = T24.heap), (by decide : 3 + 0 ≤ _), (by decide : 266 + 0 ≤ _)⟩)
  dsimp only [Pt.U, Pt.locs, Pt.cells, Pt.slots] at X27 l27 y27 z27 st27 hQ27
  subst l27 y27 z27
  obtain ⟨rfl, N27q, W27⟩ := hQ27
  have N27 := Fr.app N24 N27q
  have K28 : Rch p e below s₁ F0 T27 (mkF m 99 #[sI p1, sI p2, sI p3, sI p4, sI p5, sI (p1).toInt8.toInt32, sI (p2).toInt8.toInt32, sI (p3).toInt8.toInt32, sI (p5).toInt8.toInt32, sI 3, sR a3] [(kI 3), (kR a3)]) := fun t k => K25 t (st27.trans (by
    refine XS.iload X27.here hx rfl (hb hby at_86) rfl ?_
    refine XS.iconst X27.here hx rfl (hb hby at_88) ?_
    refine XS.iadd X27.here hx rfl (hb hby at_89) rfl ?_
    refine XS.icmpYes X27.here hx rfl (pc0 := 90) (pc' := 95) rfl (hb hby at_90) rfl (by decide) (by decide) (by decide) ?_
    refine XS.aload X27.here hx rfl (hb hby at_95) rfl rfl ?_
    refine XS.iload X27.here hx rfl (hb hby at_97) rfl ?_
    exact k))
  have W29 : Wo n0 T27.heap [(a3, oPB Z [(kR p6), (kI 4)]), (p6, Pg Z .byte 8 (upd (upd (upd (upd (upd (upd (upd (upd zN 0 (kR b9)) 1 .null) 2 .null) 3 .null) 4 .null) 5 .null) 6 .null) 7 .null)), (b9, Ar Z .byte 256 (upd (upd (upd (upd zI 0 (kI ((p1).toInt8.toInt32).toInt8.toInt32)) 1 (kI ((p2).toInt8.toInt32).toInt8.toInt32)) 2 (kI ((p3).toInt8.toInt32).toInt8.toInt32)) 3 (kI ((p5).toInt8.toInt32).toInt8.toInt32)))] := (Wo.front (Wo.front (Wo.front W27 (i := 2) rfl) (i := 2) rfl) (i := 2) rfl)
  obtain ⟨cq30, kq30, q30a, q30b, q30c⟩ := isOf hZ (rfl : T27.heap = T27.heap) (W29.exa (i := 0) rfl)
  obtain ⟨_, _, ⟨T30, L30, k30, n30⟩, -, X30, ⟨Lc30, hQ30, l30, y30, z30⟩, st30⟩ := X27.virtualBack hx (y := (⟨"com/example/attribute_checker/attributechecker/checker/PagedBytes", "get", "(I)B"⟩ : MethodName)) (z := (⟨"com/example/attribute_checker/attributechecker/checker/PagedBytes", "get", "(I)B"⟩ : MethodName)) hown (mvT hZ (hw _ (mi 36 rfl))) (mvT hZ (hw _ (mi 37 rfl))) (notFace_of_selects (args := #[]) (mvT hZ (hw _ (mi 39 rfl)))) (mvT hZ (hw _ (mi 39 rfl))) (mvT hZ (hw _ (mi 38 rfl))) (by decide) (backOf (W := 0) (rmG3 l Z a0 hw [] a3 p6 b9 (4 : Int32) ((p5).toInt8.toInt32).toInt8.toInt32 (upd (upd (upd (upd (upd (upd (upd (upd zN 0 (kR b9)) 1 .null) 2 .null) 3 .null) 4 .null) 5 .null) 6 .null) 7 .null) (upd (upd (upd (upd zI 0 (kI ((p1).toInt8.toInt32).toInt8.toInt32)) 1 (kI ((p2).toInt8.toInt32).toInt8.toInt32)) 2 (kI ((p3).toInt8.toInt32).toInt8.toInt32)) 3 (kI ((p5).toInt8.toInt32).toInt8.toInt32)) ([]) T27.heap n0 W29 rfl rfl) hZ (hw _ (mi 40 rfl)) (hw _ (mi 3 rfl)) (by decide) (by decide)) q30a q30c (g := K28.g) rfl (by rw [hml]; rfl) (Steps.refl _) (argsL := [(.int (3 : Int32))]) (rest := []) (lenOf pd_get rfl) rfl (by show 2 * 0 + _ ≤ _; exact Nat.le_of_eq rfl) (hb hby at_99) (fun _ _ => ⟨rfl, (rfl : T27.heap = T27.heap), (by decide : 3 + 0 ≤ _), (by decide : 266 + 0 ≤ _)⟩)
  dsimp only [Pt.U, Pt.locs, Pt.cells, Pt.slots] at X30 l30 y30 z30 st30 hQ30
  subst l30 y30 z30
  obtain ⟨rfl, N30q, W30⟩ := hQ30
  have N30 := Fr.app N27 N30q
  have K31 : Rch p e below s₁ F0 T30 (mkF m 118 #[sI p1, sI p2, sI p3, sI p4, sI p5, sI (p1).toInt8.toInt32, sI (p2).toInt8.toInt32, sI (p3).toInt8.toInt32, sI (p5).toInt8.toInt32, sI 3, sR a3] [(kI 0), (kR a3)]) := fun t k => K28 t (st30.trans (by
    refine XS.iload X30.here hx rfl (hb hby at_102) rfl ?_
    refine XS.icmpYes X30.here hx rfl (pc0 := 104) (pc' := 109) rfl (hb hby at_104) rfl (teq (own_b p5)).1 (by decide) (by decide) ?_
    refine XS.iload X30.here hx rfl (hb hby at_109) rfl ?_
    refine XS.iconst X30.here hx rfl (hb hby at_111) ?_
    refine XS.icmpNo X30.here hx rfl (hb hby at_112) rfl (by decide) ?_
    refine XS.aload X30.here hx rfl (hb hby at_115) rfl rfl ?_
    show Steps p.tables e below (T30.setTop (mkF m 117 #[sI p1, sI p2, sI p3, sI p4, sI p5, sI (p1).toInt8.toInt32, sI (p2).toInt8.toInt32, sI (p3).toInt8.toInt32, sI (p5).toInt8.toInt32, sI 3, sR a3] [(kR a3)])) _
    refine XS.iconst X30.here hx rfl (hb hby at_117) ?_
    exact k))
  have W32 : Wo n0 T30.heap [(a3, oPB Z [(kR p6), (kI 4)]), (p6, Pg Z .byte 8 (upd (upd (upd (upd (upd (upd (upd (upd zN 0 (kR b9)) 1 .null) 2 .null) 3 .null) 4 .null) 5 .null) 6 .null) 7 .null)), (b9, Ar Z .byte 256 (upd (upd (upd (upd zI 0 (kI ((p1).toInt8.toInt32).toInt8.toInt32)) 1 (kI ((p2).toInt8.toInt32).toInt8.toInt32)) 2 (kI ((p3).toInt8.toInt32).toInt8.toInt32)) 3 (kI ((p5).toInt8.toInt32).toInt8.toInt32)))] := (Wo.front (Wo.front (Wo.front W30 (i := 2) rfl) (i := 2) rfl) (i := 2) rfl)
  obtain ⟨cq33, kq33, q33a, q33b, q33c⟩ := isOf hZ (rfl : T30.heap = T30.heap) (W32.exa (i := 0) rfl)
  obtain ⟨_, _, ⟨T33, L33, k33, n33⟩, -, X33, ⟨Lc33, hQ33, l33, y33, z33⟩, st33⟩ := X30.virtualBack hx (y := (⟨"com/example/attribute_checker/attributechecker/checker/PagedBytes", "get", "(I)B"⟩ : MethodName)) (z := (⟨"com/example/attribute_checker/attributechecker/checker/PagedBytes", "get", "(I)B"⟩ : MethodName)) hown (mvT hZ (hw _ (mi 36 rfl))) (mvT hZ (hw _ (mi 37 rfl))) (notFace_of_selects (args := #[]) (mvT hZ (hw _ (mi 39 rfl)))) (mvT hZ (hw _ (mi 39 rfl))) (mvT hZ (hw _ (mi 38 rfl))) (by decide) (backOf (W := 0) (rmG0 l Z a0 hw [] a3 p6 b9 (4 : Int32) ((p1).toInt8.toInt32).toInt8.toInt32 (upd (upd (upd (upd (upd (upd (upd (upd zN 0 (kR b9)) 1 .null) 2 .null) 3 .null) 4 .null) 5 .null) 6 .null) 7 .null) (upd (upd (upd (upd zI 0 (kI ((p1).toInt8.toInt32).toInt8.toInt32)) 1 (kI ((p2).toInt8.toInt32).toInt8.toInt32)) 2 (kI ((p3).toInt8.toInt32).toInt8.toInt32)) 3 (kI ((p5).toInt8.toInt32).toInt8.toInt32)) ([]) T30.heap n0 W32 rfl rfl) hZ (hw _ (mi 40 rfl)) (hw _ (mi 3 rfl)) (by decide) (by decide)) q33a q33c (g := K31.g) rfl (by rw [hml]; rfl) (Steps.refl _) (argsL := [(.int (0 : Int32))]) (rest := []) (lenOf pd_get rfl) rfl (by show 2 * 0 + _ ≤ _; exact Nat.le_of_eq rfl) (hb hby at_118) (fun _ _ => ⟨rfl, (rfl : T30.heap = T30.heap), (by decide : 3 + 0 ≤ _), (by decide : 266 + 0 ≤ _)⟩)
  dsimp only [Pt.U, Pt.locs, Pt.cells, Pt.slots] at X33 l33 y33 z33 st33 hQ33
  subst l33 y33 z33
  obtain ⟨rfl, N33q, W33⟩ := hQ33
  have N33 := Fr.app N30 N33q
  have K34 : Rch p e below s₁ F0 T33 (mkF m 137 #[sI p1, sI p2, sI p3, sI p4, sI p5, sI (p1).toInt8.toInt32, sI (p2).toInt8.toInt32, sI (p3).toInt8.toInt32, sI (p5).toInt8.toInt32, sI 3, sR a3] [(kI 1), (kR a3)]) := fun t k => K31 t (st33.trans (by
    refine XS.iload X33.here hx rfl (hb hby at_121) rfl ?_
    refine XS.icmpYes X33.here hx rfl (pc0 := 123) (pc' := 128) rfl (hb hby at_123) rfl (teq (own_b p1)).1 (by decide) (by decide) ?_
    refine XS.iload X33.here hx rfl (hb hby at_128) rfl ?_
    refine XS.iconst X33.here hx rfl (hb hby at_130) ?_
    refine XS.icmpNo X33.here hx rfl (hb hby at_131) rfl (by decide) ?_
    refine XS.aload X33.here hx rfl (hb hby at_134) rfl rfl ?_
    show Steps p.tables e below (T33.setTop (mkF m 136 #[sI p1, sI p2, sI p3, sI p4, sI p5, sI (p1).toInt8.toInt32, sI (p2).toInt8.toInt32, sI (p3).toInt8.toInt32, sI (p5).toInt8.toInt32, sI 3, sR a3] [(kR a3)])) _
    refine XS.iconst X33.here hx rfl (hb hby at_136) ?_
    exact k))
  have W35 : Wo n0 T33.heap [(a3, oPB Z [(kR p6), (kI 4)]), (p6, Pg Z .byte 8 (upd (upd (upd (upd (upd (upd (upd (upd zN 0 (kR b9)) 1 .null) 2 .null) 3 .null) 4 .null) 5 .null) 6 .null) 7 .null)), (b9, Ar Z .byte 256 (upd (upd (upd (upd zI 0 (kI ((p1).toInt8.toInt32).toInt8.toInt32)) 1 (kI ((p2).toInt8.toInt32).toInt8.toInt32)) 2 (kI ((p3).toInt8.toInt32).toInt8.toInt32)) 3 (kI ((p5).toInt8.toInt32).toInt8.toInt32)))] := (Wo.front (Wo.front (Wo.front W33 (i := 2) rfl) (i := 2) rfl) (i := 2) rfl)
  obtain ⟨cq36, kq36, q36a, q36b, q36c⟩ := isOf hZ (rfl : T33.heap = T33.heap) (W35.exa (i := 0) rfl)
  obtain ⟨_, _, ⟨T36, L36, k36, n36⟩, -, X36, ⟨Lc36, hQ36, l36, y36, z36⟩, st36⟩ := X33.virtualBack hx (y := (⟨"com/example/attribute_checker/attributechecker/checker/PagedBytes", "get", "(I)B"⟩ : MethodName)) (z := (⟨"com/example/attribute_checker/attributechecker/checker/PagedBytes", "get", "(I)B"⟩ : MethodName)) hown (mvT hZ (hw _ (mi 36 rfl))) (mvT hZ (hw _ (mi 37 rfl))) (notFace_of_selects (args := #[]) (mvT hZ (hw _ (mi 39 rfl)))) (mvT hZ (hw _ (mi 39 rfl))) (mvT hZ (hw _ (mi 38 rfl))) (by decide) (backOf (W := 0) (rmG1 l Z a0 hw [] a3 p6 b9 (4 : Int32) ((p2).toInt8.toInt32).toInt8.toInt32 (upd (upd (upd (upd (upd (upd (upd (upd zN 0 (kR b9)) 1 .null) 2 .null) 3 .null) 4 .null) 5 .null) 6 .null) 7 .null) (upd (upd (upd (upd zI 0 (kI ((p1).toInt8.toInt32).toInt8.toInt32)) 1 (kI ((p2).toInt8.toInt32).toInt8.toInt32)) 2 (kI ((p3).toInt8.toInt32).toInt8.toInt32)) 3 (kI ((p5).toInt8.toInt32).toInt8.toInt32)) ([]) T33.heap n0 W35 rfl rfl) hZ (hw _ (mi 40 rfl)) (hw _ (mi 3 rfl)) (by decide) (by decide)) q36a q36c (g := K34.g) rfl (by rw [hml]; rfl) (Steps.refl _) (argsL := [(.int (1 : Int32))]) (rest := []) (lenOf pd_get rfl) rfl (by show 2 * 0 + _ ≤ _; exact Nat.le_of_eq rfl) (hb hby at_137) (fun _ _ => ⟨rfl, (rfl : T33.heap = T33.heap), (by decide : 3 + 0 ≤ _), (by decide : 266 + 0 ≤ _)⟩)
  dsimp only [Pt.U, Pt.locs, Pt.cells, Pt.slots] at X36 l36 y36 z36 st36 hQ36
  subst l36 y36 z36
  obtain ⟨rfl, N36q, W36⟩ := hQ36
  have N36 := Fr.app N33 N36q
  have K37 : Rch p e below s₁ F0 T36 (mkF m 156 #[sI p1, sI p2, sI p3, sI p4, sI p5, sI (p1).toInt8.toInt32, sI (p2).toInt8.toInt32, sI (p3).toInt8.toInt32, sI (p5).toInt8.toInt32, sI 3, sR a3] [(kI 2), (kR a3)]) := fun t k => K34 t (st36.trans (by
    refine XS.iload X36.here hx rfl (hb hby at_140) rfl ?_
    refine XS.icmpYes X36.here hx rfl (pc0 := 142) (pc' := 147) rfl (hb hby at_142) rfl (teq (own_b p2)).1 (by decide) (by decide) ?_
    refine XS.iload X36.here hx rfl (hb hby at_147) rfl ?_
    refine XS.iconst X36.here hx rfl (hb hby at_149) ?_
    refine XS.icmpNo X36.here hx rfl (hb hby at_150) rfl (by decide) ?_
    refine XS.aload X36.here hx rfl (hb hby at_153) rfl rfl ?_
    show Steps p.tables e below (T36.setTop (mkF m 155 #[sI p1, sI p2, sI p3, sI p4, sI p5, sI (p1).toInt8.toInt32, sI (p2).toInt8.toInt32, sI (p3).toInt8.toInt32, sI (p5).toInt8.toInt32, sI 3, sR a3] [(kR a3)])) _
    refine XS.iconst X36.here hx rfl (hb hby at_155) ?_
    exact k))
  have W38 : Wo n0 T36.heap [(a3, oPB Z [(kR p6), (kI 4)]), (p6, Pg Z .byte 8 (upd (upd (upd (upd (upd (upd (upd (upd zN 0 (kR b9)) 1 .null) 2 .null) 3 .null) 4 .null) 5 .null) 6 .null) 7 .null)), (b9, Ar Z .byte 256 (upd (upd (upd (upd zI 0 (kI ((p1).toInt8.toInt32).toInt8.toInt32)) 1 (kI ((p2).toInt8.toInt32).toInt8.toInt32)) 2 (kI ((p3).toInt8.toInt32).toInt8.toInt32)) 3 (kI ((p5).toInt8.toInt32).toInt8.toInt32)))] := (Wo.front (Wo.front (Wo.front W36 (i := 2) rfl) (i := 2) rfl) (i := 2) rfl)
  obtain ⟨cq39, kq39, q39a, q39b, q39c⟩ := isOf hZ (rfl : T36.heap = T36.heap) (W38.exa (i := 0) rfl)
  obtain ⟨_, _, ⟨T39, L39, k39, n39⟩, -, X39, ⟨Lc39, hQ39, l39, y39, z39⟩, st39⟩ := X36.virtualBack hx (y := (⟨"com/example/attribute_checker/attributechecker/checker/PagedBytes", "get", "(I)B"⟩ : MethodName)) (z := (⟨"com/example/attribute_checker/attributechecker/checker/PagedBytes", "get", "(I)B"⟩ : MethodName)) hown (mvT hZ (hw _ (mi 36 rfl))) (mvT hZ (hw _ (mi 37 rfl))) (notFace_of_selects (args := #[]) (mvT hZ (hw _ (mi 39 rfl)))) (mvT hZ (hw _ (mi 39 rfl))) (mvT hZ (hw _ (mi 38 rfl))) (by decide) (backOf (W := 0) (rmG2 l Z a0 hw [] a3 p6 b9 (4 : Int32) ((p3).toInt8.toInt32).toInt8.toInt32 (upd (upd (upd (upd (upd (upd (upd (upd zN 0 (kR b9)) 1 .null) 2 .null) 3 .null) 4 .null) 5 .null) 6 .null) 7 .null) (upd (upd (upd (upd zI 0 (kI ((p1).toInt8.toInt32).toInt8.toInt32)) 1 (kI ((p2).toInt8.toInt32).toInt8.toInt32)) 2 (kI ((p3).toInt8.toInt32).toInt8.toInt32)) 3 (kI ((p5).toInt8.toInt32).toInt8.toInt32)) ([]) T36.heap n0 W38 rfl rfl) hZ (hw _ (mi 40 rfl)) (hw _ (mi 3 rfl)) (by decide) (by decide)) q39a q39c (g := K37.g) rfl (by rw [hml]; rfl) (Steps.refl _) (argsL := [(.int (2 : Int32))]) (rest := []) (lenOf pd_get rfl) rfl (by show 2 * 0 + _ ≤ _; exact Nat.le_of_eq rfl) (hb hby at_156) (fun _ _ => ⟨rfl, (rfl : T36.heap = T36.heap), (by decide : 3 + 0 ≤ _), (by decide : 266 + 0 ≤ _)⟩)
  dsimp only [Pt.U, Pt.locs, Pt.cells, Pt.slots] at X39 l39 y39 z39 st39 hQ39
  subst l39 y39 z39
  obtain ⟨rfl, N39q, W39⟩ := hQ39
  have N39 := Fr.app N36 N39q
  have K40 : Rch p e below s₁ F0 T39 (mkF m 167 #[sI p1, sI p2, sI p3, sI p4, sI p5, sI (p1).toInt8.toInt32, sI (p2).toInt8.toInt32, sI (p3).toInt8.toInt32, sI (p5).toInt8.toInt32, sI 3, sR a3] [(kI 1)]) := fun t k => K37 t (st39.trans (by
    refine XS.iload X39.here hx rfl (hb hby at_159) rfl ?_
    refine XS.icmpYes X39.here hx rfl (pc0 := 161) (pc' := 166) rfl (hb hby at_161) rfl (teq (own_b p3)).1 (by decide) (by decide) ?_
    refine XS.iconst X39.here hx rfl (hb hby at_166) ?_
    exact k))
  obtain ⟨fs, hr, hrun, hended, hWm, hsame⟩ := X39.leave (v := some (.int (1 : Int32))) (fun h => by rw [Bd.returns] at h; cases h)
  refine ⟨_, _, pre0 _ (K40 _ (retN X39 hx (t := .boolean) Bd.returns (by simp) (hb hby at_167) hr)), hrun, hended, _, _, rfl, ?_, ⟨_, rfl⟩, hWm, hsame.mono (by decide) (by decide)⟩
  show Qrm0_3 Z p1 p2 p3 p4 p5 n0 _ T39.heap _
  exact ⟨rfl, N39⟩
theorem rm0 (l : Launch) (Z : State) (a0 : Array Value) (hw : ∀ d ∈ tables_1, d.before a0 Z = true) (ws : List Jvm.Cond) (p1 p2 p3 p4 p5 : Int32) (h0 : Heap) (n0 : Nat) (W0 : Wo n0 h0 []) :
    MetFree l x (head1 (Jvm.Cond.code x code maxLocals ret :: ws) room_1) (fun a U => a = #[(.int p1), (.int p2), (.int p3), (.int p4), (.int p5)] ∧ Z.Warmed39 U.vm ∧ U.heap = h0) (fun _ _ _ _ _ => True) (fun _ U ou U' => ∃ v L, ou = .returned v ∧ Qrm0_0 Z p1 p2 p3 p4 p5 n0 v U'.heap L ∧ FrameEnd U ou U' L room_1.cells room_1.slots) := by
  obtain ⟨r, hr, e⟩ := own_four p4
  match r, hr, e with
  | 0, _, e => exact rm0_0 l Z a0 hw ws p1 p2 p3 p4 p5 h0 n0 W0 e
  | 1, _, e => exact rm0_1 l Z a0 hw ws p1 p2 p3 p4 p5 h0 n0 W0 e
  | 2, _, e => exact rm0_2 l Z a0 hw ws p1 p2 p3 p4 p5 h0 n0 W0 e
  | 3, _, e => exact rm0_3 l Z a0 hw ws p1 p2 p3 p4 p5 h0 n0 W0 e
  | r + 4, hr, _ => exact absurd hr (by omega)
set_option maxRecDepth 65536 in
set_option maxHeartbeats 40000000 in
theorem comes_1 {Post : Tables → Env → Array Value → State → Outcome → State → Prop} (hpost : ∀ tb e args s v u, (limb_1_1.after args s (.returned v) u = true ∧ limb_1_2.after args s (.returned v) u = true ∧ True) → FrameEnd s (.returned v) u (Jvm.fieldLocs frame_1_writes args s ++ Jvm.arrayLocs frame_1_arrays args s ++ Jvm.staticLocs frame_1_statics s) 16 1152 → Post tb e args s (.returned v) u) :
    ArmFor flags0 classFile x code maxLocals ret World_1 tables_1 room_1 Calls_1 rest_1 Pre_1 Post := by
  intro l hfl _ _ p e ha hc hk s m args below hf hA hF happ hP
  obtain ⟨hcalls, hrest, hpre⟩ := hP
  obtain ⟨-, -, -, hnamed, -, -, -, hat⟩ := (Spec.applies_iff hf).mp happ
  obtain ⟨hg, hn⟩ := and_e (Cond.before_iff.mp (show (Jvm.Cond.and given_1 narrow_1).before args s = true from hpre))
  obtain ⟨gc, g0⟩ := and_e hg
  obtain ⟨q0, g1⟩ := and_e g0
  obtain ⟨q1, g2⟩ := and_e g1
  obtain ⟨q2, g3⟩ := and_e g2
  obtain ⟨q3, g4⟩ := and_e g3
  obtain ⟨w0, w1, w2, w3, w4, rfl⟩ : ∃ w0 w1 w2 w3 w4 : Value, args = #[w0, w1, w2, w3, w4] := by
    have hs : args.size = 5 := by simpa [Cond.value, given_1] using gc
    obtain ⟨L⟩ := args
    match L, hs with
    | [w0, w1, w2, w3, w4], _ => exact ⟨w0, w1, w2, w3, w4, rfl⟩
  have hw := fun d (hd : d ∈ tables_1) => atoms_spec (ws := Jvm.Cond.code x code maxLocals ret :: tables_1) hat d (List.mem_cons_of_mem _ hd)
  obtain ⟨i0, ei0⟩ := is_v q0
  obtain rfl : w0 = (.int i0) := Option.some.inj ei0
  obtain ⟨i1, ei1⟩ := is_v q1
  obtain rfl : w1 = (.int i1) := Option.some.inj ei1
  obtain ⟨i2, ei2⟩ := is_v q2
  obtain rfl : w2 = (.int i2) := Option.some.inj ei2
  obtain ⟨i3, ei3⟩ := is_v q3
  obtain rfl : w3 = (.int i3) := Option.some.inj ei3
  obtain ⟨i4, ei4⟩ := is_v g4
  obtain rfl : w4 = (.int i4) := Option.some.inj ei4
  obtain ⟨n, o, h1, h2, h3, _, L, rfl, ⟨rfl, N⟩, hq⟩ := rm0 l s _ hw tables_1 i0 i1 i2 i3 i4 s.heap s.heap.size (Wo.nil (Nat.le_refl _)) p e ha hc hk s m _ below hf ((Spec.applies_iff_loose hf).mp happ).1 ⟨rfl, State.Warmed39.refl s, rfl⟩ trivial
  refine ⟨n, _, h1, h2, h3, hpost _ _ _ _ _ _ ⟨Cond.after_iff.mpr rfl, Cond.after_iff.mpr (eq_i res_at (Term.int_eval (1)) rfl), trivial⟩ ⟨hq.1, hq.2.1, (hq.2.2.sift fun y hy => Or.inr (N y hy)).mono (by decide) (by decide)⟩⟩
theorem main_1_1 : Claimed_1_1 := comes_1 fun _ _ _ _ _ _ h hF => ⟨h.1, hF⟩
theorem main_1_2 : Claimed_1_2 := comes_1 fun _ _ _ _ _ _ h hF => ⟨h.2.1, hF⟩
end Jvm.Pilot.@@N@@
namespace Jvm.Pilot.@@N@@
open Jvm Jvm.ClassFile Sem Op Lib Jvm.Free Jvm.Stand Jvm.Pilot.@@N@@.Jvm.D
/-! MADE BY PROGRAM (witnessworld.py) out of the Statement's table words and the real class files: 7 classes; the members and pool entries that the words name. The judged class is class 1, her method 1. -/
namespace start1
open Jvm.ClassFile
def u (s : String) : CpInfo := .utf8 (stringToUtf16 s)
/-- a pool by its gaps: so many unusable entries, then the entry; so many at the end -/
def gap : Nat → List CpInfo → List CpInfo
  | 0, r => r
  | n + 1, r => .unusable :: gap n r
def poolList (es : List (Nat × CpInfo)) (last : Nat) : List CpInfo := es.foldr (fun e r => gap e.1 (e.2 :: r)) (gap last [])
def pool (es : List (Nat × CpInfo)) (last : Nat) : Array CpInfo := ⟨poolList es last⟩
def fileOf (pool : Array CpInfo) (this : Nat) (attrs : Array Attribute := #[]) (ms : Array MethodInfo := #[]) (fl : Nat := 33) (sup : Nat := 0) (ifs : Array Nat := #[]) (fds : Array FieldInfo := #[]) : ClassFile where
  minorVersion := 0
  majorVersion := 65
  constantPool := pool
  accessFlags := fl
  thisClass := this
  superClass := sup
  interfaces := ifs
  fields := fds
  methods := ms
  attributes := attrs
def plain (name : String) (sup : Option ClassId) : Class where
  name := name
  kind := .ordinary
  loader := none
  accessFlags := 33
  super := sup
  interfaces := #[]
  cf := none
  fields := #[]
  methods := #[]
  instanceTypes := #[]
  staticTypes := #[]
  resolved := #[]
  callSites := []
  init := .initialized
  statics := none
  mirror := none

def pool0 : Array CpInfo := pool [(5, u "<init>"), (0, u "()V"), (1, .class_ 10), (1, u "java/lang/Object")] 113

def k0c0 : Code := { maxStack := 0, maxLocals := 1, code := object_method_1_code, exceptionTable := #[], attributes := #[] }
def k0m0 : Method := { name := "<init>", desc := "()V", sig := { parameters := [], returnType := none }, accessFlags := 1, code := some k0c0 }
/-- java/lang/Object -/
def k0 : Class := { plain "java/lang/Object" none with
  accessFlags := 33
  interfaces := #[]
  cf := some (fileOf pool0 8 #[] #[{ accessFlags := 1, nameIndex := 5, descriptorIndex := 6, attributes := #[] }] 33 0 #[] #[])
  fields := #[]
  methods := #[k0m0]
  instanceTypes := #[]
  staticTypes := #[]
  resolved := Array.replicate 124 none
  statics := none }

def pool1 : Array CpInfo := pool [(2, .class_ 4), (0, .nameAndType 5 6), (0, u "java/lang/Object"), (0, u "<init>"), (0, u "()V"), (0, .integer 2147483647), (0, .class_ 9), (0, u "com/example/attribute_checker/attributechecker/checker/PagedBytes"), (0, .methodref 8 3), (0, .methodref 8 12), (0, .nameAndType 13 14), (0, u "add"), (0, u "(B)V"), (0, .methodref 8 16), (0, .nameAndType 17 18), (0, u "truncate"), (0, u "(I)V"), (0, .methodref 8 20), (0, .nameAndType 21 22), (0, u "size"), (0, u "()I"), (0, .methodref 8 24), (0, .nameAndType 25 26), (0, u "get"), (0, u "(I)B"), (0, .class_ 28), (0, u "com/example/attribute_checker/attributechecker/checker/PagedBytesTruncatePinLaw"), (2, u "law"), (0, u "(IIIII)Z")] 3

def k1m0 : Method := { name := "<init>", desc := "()V", sig := { parameters := [], returnType := none }, accessFlags := 1, code := none }
def k1c1 : Code := { maxStack := 3, maxLocals := 11, code := code, exceptionTable := #[], attributes := #[] }
def k1m1 : Method := { name := "law", desc := "(IIIII)Z", sig := { parameters := [.int, .int, .int, .int, .int], returnType := some .boolean }, accessFlags := 9, code := some k1c1 }
/-- com/example/attribute_checker/attributechecker/checker/PagedBytesTruncatePinLaw -/
def k1 : Class := { plain "com/example/attribute_checker/attributechecker/checker/PagedBytesTruncatePinLaw" (some 0) with
  accessFlags := 49
  interfaces := #[]
  cf := some (fileOf pool1 27 #[] #[{ accessFlags := 1, nameIndex := 5, descriptorIndex := 6, attributes := #[] }, { accessFlags := 9, nameIndex := 31, descriptorIndex := 32, attributes := #[] }] 49 2 #[] #[])
  fields := #[]
  methods := #[k1m0, k1m1]
  instanceTypes := #[]
  staticTypes := #[]
  resolved := Array.replicate 36 none
  statics := none }

def pool2 : Array CpInfo := pool [(1, .class_ 2), (0, u "com/example/attribute_checker/attributechecker/checker/PagedBytes"), (0, .methodref 4 5), (0, .class_ 6), (0, .nameAndType 7 8), (0, u "java/lang/Object"), (0, u "<init>"), (0, u "()V"), (0, .class_ 10), (0, u "[B"), (0, .fieldref 1 12), (0, .nameAndType 13 14), (0, u "pages"), (0, u "[[B"), (0, .fieldref 1 16), (0, .nameAndType 17 18), (0, u "size"), (0, u "I"), (0, .integer 65535), (0, .integer 65536), (14, .integer 2147483647), (23, u "add"), (0, u "(B)V"), (2, u "get"), (0, u "(I)B"), (0, .long 65535), (1, u "PAGE_BITS"), (2, u "PAGE_SIZE"), (0, u "PAGE_MASK"), (0, u "FIRST_PAGE_SIZE"), (3, u "()I"), (11, u "truncate"), (0, u "(I)V")] 2

def k2c0 : Code := { maxStack := 2, maxLocals := 1, code := prog_13_method_1_code, exceptionTable := #[], attributes := #[] }
def k2m0 : Method := { name := "<init>", desc := "()V", sig := { parameters := [], returnType := none }, accessFlags := 0, code := some k2c0 }
def k2c1 : Code := { maxStack := 1, maxLocals := 1, code := prog_13_method_2_code, exceptionTable := #[], attributes := #[] }
def k2m1 : Method := { name := "size", desc := "()I", sig := { parameters := [], returnType := some .int }, accessFlags := 0, code := some k2c1 }
def k2c2 : Code := { maxStack := 3, maxLocals := 2, code := prog_13_method_3_code, exceptionTable := #[], attributes := #[] }
def k2m2 : Method := { name := "get", desc := "(I)B", sig := { parameters := [.int], returnType := some .byte }, accessFlags := 0, code := some k2c2 }
def k2c3 : Code := { maxStack := 5, maxLocals := 4, code := prog_13_method_6_code, exceptionTable := #[], attributes := #[] }
def k2m3 : Method := { name := "add", desc := "(B)V", sig := { parameters := [.byte], returnType := none }, accessFlags := 0, code := some k2c3 }
def k2c4 : Code := { maxStack := 4, maxLocals := 4, code := prog_13_method_10_code, exceptionTable := #[], attributes := #[] }
def k2m4 : Method := { name := "truncate", desc := "(I)V", sig := { parameters := [.int], returnType := none }, accessFlags := 0, code := some k2c4 }
/-- com/example/attribute_checker/attributechecker/checker/PagedBytes -/
def k2 : Class := { plain "com/example/attribute_checker/attributechecker/checker/PagedBytes" (some 0) with
  accessFlags := 48
  interfaces := #[]
  cf := some (fileOf pool2 1 #[] #[{ accessFlags := 0, nameIndex := 7, descriptorIndex := 8, attributes := #[] }, { accessFlags := 0, nameIndex := 17, descriptorIndex := 76, attributes := #[] }, { accessFlags := 0, nameIndex := 63, descriptorIndex := 64, attributes := #[] }, { accessFlags := 0, nameIndex := 59, descriptorIndex := 60, attributes := #[] }, { accessFlags := 0, nameIndex := 88, descriptorIndex := 89, attributes := #[] }] 48 4 #[] #[{ accessFlags := 26, nameIndex := 67, descriptorIndex := 18, attributes := #[] }, { accessFlags := 26, nameIndex := 70, descriptorIndex := 18, attributes := #[] }, { accessFlags := 26, nameIndex := 71, descriptorIndex := 18, attributes := #[] }, { accessFlags := 26, nameIndex := 72, descriptorIndex := 18, attributes := #[] }, { accessFlags := 2, nameIndex := 13, descriptorIndex := 14, attributes := #[] }, { accessFlags := 2, nameIndex := 17, descriptorIndex := 18, attributes := #[] }])
  fields := #[{ name := "PAGE_BITS", type := .int, accessFlags := 26, slot := 0, constantValue := 0 }, { name := "PAGE_SIZE", type := .int, accessFlags := 26, slot := 1, constantValue := 0 }, { name := "PAGE_MASK", type := .int, accessFlags := 26, slot := 2, constantValue := 0 }, { name := "FIRST_PAGE_SIZE", type := .int, accessFlags := 26, slot := 3, constantValue := 0 }, { name := "pages", type := (.array (.array .byte)), accessFlags := 2, slot := 0, constantValue := 0 }, { name := "size", type := .int, accessFlags := 2, slot := 1, constantValue := 0 }]
  methods := #[k2m0, k2m1, k2m2, k2m3, k2m4]
  instanceTypes := #[(.array (.array .byte)), .int]
  staticTypes := #[.int, .int, .int, .int]
  resolved := Array.replicate 92 none
  statics := none }

def pool3 : Array CpInfo := pool [(1, u "java/lang/Cloneable"), (0, .class_ 1), (0, u "java/lang/Object"), (0, .class_ 3)] 3

/-- java/lang/Cloneable -/
def k3 : Class := { plain "java/lang/Cloneable" (some 0) with
  accessFlags := 1537
  interfaces := #[]
  cf := some (fileOf pool3 2 #[] #[] 1537 4 #[] #[])
  fields := #[]
  methods := #[]
  instanceTypes := #[]
  staticTypes := #[]
  resolved := Array.replicate 8 none
  statics := none }

def pool4 : Array CpInfo := pool [(1, u "java/io/Serializable"), (0, .class_ 1), (0, u "java/lang/Object"), (0, .class_ 3)] 3

/-- java/io/Serializable -/
def k4 : Class := { plain "java/io/Serializable" (some 0) with
  accessFlags := 1537
  interfaces := #[]
  cf := some (fileOf pool4 2 #[] #[] 1537 4 #[] #[])
  fields := #[]
  methods := #[]
  instanceTypes := #[]
  staticTypes := #[]
  resolved := Array.replicate 8 none
  statics := none }

/-- the primitive byte -/
def k5 : Class := { plain "byte" none with kind := .primitive 'B', accessFlags := 0x411 }
/-- [B -/
def k6 : Class := { plain "[B" (some 0) with kind := .array 5 .byte, interfaces := #[3, 4], accessFlags := 1041 }

/-- [[B -/
def k7 : Class := { plain "[[B" (some 0) with kind := .array 6 (.array .byte), interfaces := #[3, 4], accessFlags := 1041 }

def heap : Heap := #[]
def classes : Array Class := #[k0, k1, k2, k3, k4, k5, k6, k7]
def interned : List (Array UInt16 × Addr) := []
def slotsUsed : Nat := 0
def theMethod : MethodId := ⟨1, 1⟩
def args0 : Array Value := #[.int 5, .int 6, .int 7, .int 2, .int 9]
def aboutOver (below : List Frame) : State where
  vm := { classes := classes, interned := interned.toArray }
  heap := heap
  slotsUsed := slotsUsed
  threads := #[{ frames := .invoking theMethod args0 :: below }]
def below0 : List Frame := [.native { method := ⟨0, 0⟩, args := #[] }]
def about1 : State := aboutOver below0
def p0 : Program := .bare "" "" ""
def e0 : Env := launch0.env 0 0 0
theorem w_frames : about1.frames = Frame.invoking theMethod args0 :: below0 := rfl
set_option maxRecDepth 65536 in
theorem w_args : argsFit about1.vm theMethod args0 = true := by decide +kernel
set_option maxRecDepth 65536 in
theorem w_heap : heapFits about1 = true := by decide +kernel
set_option maxRecDepth 65536 in
theorem w_runnable : about1.curStatus? = some .runnable := by decide +kernel
set_option maxRecDepth 65536 in
theorem w_alone : about1.alone = true := by decide +kernel
set_option maxRecDepth 65536 in
theorem w_named : about1.methodNamed? x = some theMethod := by decide +kernel
set_option maxRecDepth 65536 in
theorem w_hears : about1.hears theMethod below0 = true := by decide +kernel
set_option maxRecDepth 65536 in
theorem w_ripe : about1.ripe theMethod args0 below0 = true := by decide +kernel
theorem w_running : about1.status = .running := rfl
set_option maxRecDepth 65536 in
theorem w_room : about1.hasRoom e0.platform room_1 = true :=
  launch0.hasRoom_least _ room_1 (by decide +kernel) (by decide +kernel) (by decide +kernel) (by decide +kernel) (by decide +kernel) (by decide +kernel)
theorem allAtoms_all (ts : List Jvm.Cond) (a : Array Jvm.Value) (st : Jvm.State) : (allAtoms ts).before a st = ts.all (fun c => c.before a st) := by
  induction ts with
  | nil => rfl
  | cons c t ih =>
    show (Jvm.Cond.and c (allAtoms t)).before a st = _
    rw [Jvm.Cond.before_and, ih, List.all_cons]
def words1 : List Jvm.Cond := Jvm.Cond.code x code maxLocals ret :: tables_1
/-- a 'code' word, met by the world's own term for the bytes: nothing is compared byte by byte -/
theorem code_word {y : MethodName} {bytes : ByteArray} {mx : Nat} {rt : Option FieldType} {a : Array Value} {s : State} {m : MethodId} {meth : Method} {c : Code} (h1 : s.methodNamed? y = some m) (h2 : s.vm.method? m = some meth) (h3 : meth.code = some c) (h4 : c.code = bytes)
    (h5 : (c.maxLocals == mx && c.exceptionTable.isEmpty && decide (c.maxStack ≤ mostOperands) && decide (meth.sig.returnType = rt) && !meth.locks && decide (parseMethodDescriptor y.desc = some meth.sig)) = true) : (Jvm.Cond.code y bytes mx rt).before a s = true := by
  simp only [Bool.and_eq_true, beq_iff_eq, Bool.not_eq_true', decide_eq_true_eq] at h5
  obtain ⟨⟨⟨⟨⟨g1, g2⟩, g3⟩, g4⟩, g5⟩, g6⟩ := h5
  simp [Cond.before, Cond.holds, Cond.value, h1, h2, h3, h4, g1, g2, g3, g4, g5, g6]
def isCode : Jvm.Cond → Bool
  | .code _ _ _ _ => true
  | _ => false
theorem all_split {L : List Jvm.Cond} {P : Jvm.Cond → Bool} (h1 : L.all (fun c => isCode c || P c) = true) (h2 : ∀ c ∈ L.filter isCode, P c = true) : L.all P = true := by
  refine List.all_eq_true.mpr fun c hc => ?_
  have h := List.all_eq_true.mp h1 c hc
  rcases Bool.eq_false_or_eq_true (isCode c) with hi | hi
  · exact h2 c (List.mem_filter.mpr ⟨hc, hi⟩)
  · simpa [hi] using h
set_option maxRecDepth 65536 in
theorem w_c0 : (Jvm.Cond.code x code maxLocals ret).before args0 about1 = true := code_word (m := ⟨1, 1⟩) (meth := k1m1) (c := k1c1) (by decide +kernel) rfl rfl rfl (by decide +kernel)
set_option maxRecDepth 65536 in
theorem w_c1 : (Jvm.Cond.code ({ cls := "com/example/attribute_checker/attributechecker/checker/PagedBytes", name := "<init>", desc := "()V" } : Jvm.MethodName) prog_13_method_1_code (1 : Nat) (Option.none : Option Jvm.ClassFile.FieldType)).before args0 about1 = true := code_word (m := ⟨2, 0⟩) (meth := k2m0) (c := k2c0) (by decide +kernel) rfl rfl rfl (by decide +kernel)
set_option maxRecDepth 65536 in
theorem w_c2 : (Jvm.Cond.code ({ cls := "java/lang/Object", name := "<init>", desc := "()V" } : Jvm.MethodName) object_method_1_code (1 : Nat) (Option.none : Option Jvm.ClassFile.FieldType)).before args0 about1 = true := code_word (m := ⟨0, 0⟩) (meth := k0m0) (c := k0c0) (by decide +kernel) rfl rfl rfl (by decide +kernel)
set_option maxRecDepth 65536 in
theorem w_c3 : (Jvm.Cond.code ({ cls := "com/example/attribute_checker/attributechecker/checker/PagedBytes", name := "add", desc := "(B)V" } : Jvm.MethodName) prog_13_method_6_code (4 : Nat) (Option.none : Option Jvm.ClassFile.FieldType)).before args0 about1 = true := code_word (m := ⟨2, 3⟩) (meth := k2m3) (c := k2c3) (by decide +kernel) rfl rfl rfl (by decide +kernel)
set_option maxRecDepth 65536 in
theorem w_c4 : (Jvm.Cond.code ({ cls := "com/example/attribute_checker/attributechecker/checker/PagedBytes", name := "truncate", desc := "(I)V" } : Jvm.MethodName) prog_13_method_10_code (4 : Nat) (Option.none : Option Jvm.ClassFile.FieldType)).before args0 about1 = true := code_word (m := ⟨2, 4⟩) (meth := k2m4) (c := k2c4) (by decide +kernel) rfl rfl rfl (by decide +kernel)
set_option maxRecDepth 65536 in
theorem w_c5 : (Jvm.Cond.code ({ cls := "com/example/attribute_checker/attributechecker/checker/PagedBytes", name := "size", desc := "()I" } : Jvm.MethodName) prog_13_method_2_code (1 : Nat) (Option.some Jvm.ClassFile.FieldType.int)).before args0 about1 = true := code_word (m := ⟨2, 1⟩) (meth := k2m1) (c := k2c1) (by decide +kernel) rfl rfl rfl (by decide +kernel)
set_option maxRecDepth 65536 in
theorem w_c6 : (Jvm.Cond.code ({ cls := "com/example/attribute_checker/attributechecker/checker/PagedBytes", name := "get", desc := "(I)B" } : Jvm.MethodName) prog_13_method_3_code (2 : Nat) (Option.some Jvm.ClassFile.FieldType.byte)).before args0 about1 = true := code_word (m := ⟨2, 2⟩) (meth := k2m2) (c := k2c2) (by decide +kernel) rfl rfl rfl (by decide +kernel)
def codes1 : List Jvm.Cond := [Jvm.Cond.code x code maxLocals ret, Jvm.Cond.code ({ cls := "com/example/attribute_checker/attributechecker/checker/PagedBytes", name := "<init>", desc := "()V" } : Jvm.MethodName) prog_13_method_1_code (1 : Nat) (Option.none : Option Jvm.ClassFile.FieldType), Jvm.Cond.code ({ cls := "java/lang/Object", name := "<init>", desc := "()V" } : Jvm.MethodName) object_method_1_code (1 : Nat) (Option.none : Option Jvm.ClassFile.FieldType), Jvm.Cond.code ({ cls := "com/example/attribute_checker/attributechecker/checker/PagedBytes", name := "add", desc := "(B)V" } : Jvm.MethodName) prog_13_method_6_code (4 : Nat) (Option.none : Option Jvm.ClassFile.FieldType), Jvm.Cond.code ({ cls := "com/example/attribute_checker/attributechecker/checker/PagedBytes", name := "truncate", desc := "(I)V" } : Jvm.MethodName) prog_13_method_10_code (4 : Nat) (Option.none : Option Jvm.ClassFile.FieldType), Jvm.Cond.code ({ cls := "com/example/attribute_checker/attributechecker/checker/PagedBytes", name := "size", desc := "()I" } : Jvm.MethodName) prog_13_method_2_code (1 : Nat) (Option.some Jvm.ClassFile.FieldType.int), Jvm.Cond.code ({ cls := "com/example/attribute_checker/attributechecker/checker/PagedBytes", name := "get", desc := "(I)B" } : Jvm.MethodName) prog_13_method_3_code (2 : Nat) (Option.some Jvm.ClassFile.FieldType.byte)]
set_option maxRecDepth 65536 in
theorem codes_eq : words1.filter isCode = codes1 := rfl
theorem w_codes : ∀ c ∈ words1.filter isCode, c.before args0 about1 = true := by
  rw [codes_eq]
  intro c hc
  simp only [codes1, List.mem_cons, List.not_mem_nil, or_false] at hc
  rcases hc with rfl | rfl | rfl | rfl | rfl | rfl | rfl
  · exact w_c0
  · exact w_c1
  · exact w_c2
  · exact w_c3
  · exact w_c4
  · exact w_c5
  · exact w_c6
set_option maxRecDepth 65536 in
theorem w_t1 : (words1.take 24).all (fun c => isCode c || c.before args0 about1) = true := by decide +kernel
set_option maxRecDepth 65536 in
theorem w_t2 : (words1.drop 24).all (fun c => isCode c || c.before args0 about1) = true := by decide +kernel
theorem w_tables : (allAtoms (Jvm.Cond.code x code maxLocals ret :: tables_1)).before args0 about1 = true := by
  rw [allAtoms_all]
  show words1.all (fun c => c.before args0 about1) = true
  refine all_split ?_ w_codes
  rw [← List.take_append_drop 24 words1, List.all_append, w_t1, w_t2]
  rfl
set_option maxRecDepth 65536 in
theorem w_case : (Jvm.Cond.and given_1 narrow_1).before args0 about1 = true := by decide +kernel
theorem w_applies : (headSpec (Jvm.Cond.code x code maxLocals ret :: tables_1) room_1).applies x e0.platform about1 = true :=
  (Spec.applies_iff w_frames).mpr ⟨w_running, w_runnable, w_alone, w_named, w_hears, w_ripe, w_room, w_tables⟩
theorem atStart : AtStart classFile x code maxLocals ret World_1 tables_1 room_1 Calls_1 rest_1 Pre_1 launch0 p0 e0 about1 theMethod args0 below0 :=
  ⟨lists_1, trivial, launch0.admits_env _ _ _, launch0.least_env, fairChoices_fair.cas, fairChoices_fair.clock, w_frames, w_args, w_heap, w_applies, trivial, trivial, w_case⟩
end start1
theorem witness_1 : WitnessClaimed_1 := ⟨start1.p0, start1.e0, start1.about1, start1.theMethod, start1.args0, start1.below0, start1.atStart⟩
end Jvm.Pilot.@@N@@
