import JvmDerived
import JvmDerived.Pilot.@@N@@Statement
import JvmDerived.Pilot.@@N@@Code
set_option linter.unusedVariables false
set_option linter.unusedSimpArgs false
namespace Jvm.RoadKit
open Sem ClassFile Op Lib Jvm.Stand Jvm.Free Jvm.LawKit
section New
variable {p : Program} {l : Launch} {e : Env} {R : Room} {s : State} {m : MethodId} {args : Array Value} {below : List Frame} {meth : Method} {c : Code} {T : State} {locs : List Loc} {cells slots : Nat}
theorem retI (X : Stand p l e R s m args below meth c T locs cells slots) (hx : p.tables.exec = Jvm.exec) {pc : Nat} {Ls : Array Slot} {z : Int32} {rest : List Value} (hret : meth.sig.returnType = some .int) (hd : decode c.code pc = .ok (.ireturn, 1)) {fs : List Frame}
    (hl : ∀ (f : JFrame) (acts : List Action), f.method = m → f.locked = none → f.entered = [] → (doReturn e (T.setTop f) acts (some (.int z))).1 = T.setFrames fs) : Steps p.tables e below (T.setTop (mkF m pc Ls (.int z :: rest))) (T.setFrames fs) := by
  have hm' : T.vm.method? m = some meth := X.method'
  have hn : narrow .int (.int z) = .int z := rfl
  show Steps p.tables e below (T.setTop { method := m, pc := pc, locals := Ls, stack := _ :: rest, locked := none }) _
  jvm_step X.here [X.here.top, hx, hd, hm', hret, hn]
  first | (intro acts; rw [hl _ acts rfl rfl rfl]) | rw [hl _ _ rfl rfl rfl]
  exact Steps.refl _
end New
end Jvm.RoadKit
namespace Jvm.Pilot.@@N@@
open Jvm Jvm.ClassFile Sem Op Lib Jvm.Free Jvm.Stand Jvm.LawKit Jvm.RoadKit Bundle Jvm.Pilot.@@N@@.Jvm.D
def own_shr (x : Int64) (n : Int32) : Int64 := (x.toUInt64 >>> (n &&& 0x3f).toInt64.toUInt64).toInt64
def own_cnt : Nat → Int64 → Int32 → Int32
  | 0, _, i => i
  | k + 1, j, i => if j = 0 then i else own_cnt k (own_shr j 7) (i + 1)
def own_exp (v : Int64) : Int32 :=
  if own_shr v 7 = 0 then 1 else if own_shr v 14 = 0 then 2 else if own_shr v 21 = 0 then 3 else if own_shr v 28 = 0 then 4
  else if own_shr v 35 = 0 then 5 else if own_shr v 42 = 0 then 6 else if own_shr v 49 = 0 then 7 else if own_shr v 56 = 0 then 8
  else if own_shr v 63 = 0 then 9 else 10
theorem own_nat (x : Int64) (n : Int32) (k : Nat) (hk : ((n &&& 0x3f).toInt64.toUInt64).toNat % 64 = k) : (own_shr x n).toUInt64.toNat = x.toUInt64.toNat / 2 ^ k := by
  show (x.toUInt64 >>> (n &&& 0x3f).toInt64.toUInt64).toNat = _
  rw [UInt64.toNat_shiftRight, hk, Nat.shiftRight_eq_div_pow]
theorem own_inj {x y : Int64} (h : x.toUInt64.toNat = y.toUInt64.toNat) : x = y := by
  have h1 : x.toUInt64 = y.toUInt64 := UInt64.toNat_inj.mp h
  cases x; cases y; exact congrArg Int64.ofUInt64 h1
theorem own_two (x : Int64) (n n' : Int32) (k : Nat) (hk : ((n &&& 0x3f).toInt64.toUInt64).toNat % 64 = k) (hk' : ((n' &&& 0x3f).toInt64.toUInt64).toNat % 64 = k + 7) : own_shr (own_shr x n) 7 = own_shr x n' := by
  apply own_inj
  rw [own_nat _ 7 7 (by decide +kernel), own_nat _ n k hk, own_nat _ n' (k + 7) hk', Nat.div_div_eq_div_mul, ← Nat.pow_add]
theorem own_law (v : Int64) : own_cnt 9 (own_shr v 7) 1 = own_exp v := by
  have e2 := own_two v 7 14 7 (by decide +kernel) (by decide +kernel)
  have e3 := own_two v 14 21 14 (by decide +kernel) (by decide +kernel)
  have e4 := own_two v 21 28 21 (by decide +kernel) (by decide +kernel)
  have e5 := own_two v 28 35 28 (by decide +kernel) (by decide +kernel)
  have e6 := own_two v 35 42 35 (by decide +kernel) (by decide +kernel)
  have e7 := own_two v 42 49 42 (by decide +kernel) (by decide +kernel)
  have e8 := own_two v 49 56 49 (by decide +kernel) (by decide +kernel)
  have e9 := own_two v 56 63 56 (by decide +kernel) (by decide +kernel)
  simp only [own_cnt, e2, e3, e4, e5, e6, e7, e8, e9, own_exp]
  rfl
theorem own_zero {j : Int64} (h : j.toUInt64.toNat < 2 ^ (7 * 0)) : j = 0 := own_inj (by
  have h0 : (0 : Int64).toUInt64.toNat = 0 := by decide +kernel
  rw [h0]; omega)
theorem own_less {j : Int64} {k : Nat} (h : j.toUInt64.toNat < 2 ^ (7 * (k + 1))) : (own_shr j 7).toUInt64.toNat < 2 ^ (7 * k) := by
  rw [own_nat _ 7 7 (by decide +kernel)]
  apply Nat.div_lt_of_lt_mul
  rw [← Nat.pow_add]
  have e : 7 + 7 * k = 7 * (k + 1) := by omega
  rw [e]; exact h
theorem own_first (v : Int64) : (own_shr v 7).toUInt64.toNat < 2 ^ (7 * 9) := by
  rw [own_nat _ 7 7 (by decide +kernel)]
  have h := UInt64.toNat_lt v.toUInt64
  apply Nat.div_lt_of_lt_mul
  exact Nat.lt_of_lt_of_le h (by decide)
theorem d1_0 : decode prog_13_method_9_code 0 = .ok (.iconst 1, 1) := by decide +kernel
theorem d1_1 : decode prog_13_method_9_code 1 = .ok (.istore_n 2, 1) := by decide +kernel
theorem d1_2 : decode prog_13_method_9_code 2 = .ok (.lload_n 0, 1) := by decide +kernel
theorem d1_3 : decode prog_13_method_9_code 3 = .ok (.bipush 7, 2) := by decide +kernel
theorem d1_5 : decode prog_13_method_9_code 5 = .ok (.lushr, 1) := by decide +kernel
theorem d1_6 : decode prog_13_method_9_code 6 = .ok (.lstore_n 3, 1) := by decide +kernel
theorem d1_7 : decode prog_13_method_9_code 7 = .ok (.lload_n 3, 1) := by decide +kernel
theorem d1_8 : decode prog_13_method_9_code 8 = .ok (.lconst 0, 1) := by decide +kernel
theorem d1_9 : decode prog_13_method_9_code 9 = .ok (.lcmp, 1) := by decide +kernel
theorem d1_10 : decode prog_13_method_9_code 10 = .ok (.ifCond .eq 14, 3) := by decide +kernel
theorem d1_24 : decode prog_13_method_9_code 24 = .ok (.iload_n 2, 1) := by decide +kernel
theorem d1_25 : decode prog_13_method_9_code 25 = .ok (.ireturn, 1) := by decide +kernel
theorem d1_13 : decode prog_13_method_9_code 13 = .ok (.iinc 2 1, 3) := by decide +kernel
theorem d1_16 : decode prog_13_method_9_code 16 = .ok (.lload_n 3, 1) := by decide +kernel
theorem d1_17 : decode prog_13_method_9_code 17 = .ok (.bipush 7, 2) := by decide +kernel
theorem d1_19 : decode prog_13_method_9_code 19 = .ok (.lushr, 1) := by decide +kernel
theorem d1_20 : decode prog_13_method_9_code 20 = .ok (.lstore_n 3, 1) := by decide +kernel
theorem d1_21 : decode prog_13_method_9_code 21 = .ok (.goto (-14), 3) := by decide +kernel
set_option maxRecDepth 65536 in
set_option maxHeartbeats 40000000 in
theorem tn1_7_7 {p : Program} {l : Launch} {e : Env} {R : Room} {s : State} {m : MethodId} {args : Array Value} {below : List Frame} {meth : Method} {c : Code} {T0 : State} {locs : List Loc} {cells slots : Nat} {Z : State} {a0 : Array Value} {h0 : Heap} (s0 : Slot) (s1 : Slot) (i2 : Int32) (j3 : Int64)
    (X0 : Stand p l e R s m args below meth c T0 locs cells slots) (hx : p.tables.exec = Jvm.exec) (hZ : Z.Warmed39 s.vm) (hw : ∀ d ∈ tables_1, d.before a0 Z = true) (hby : c.code = prog_13_method_9_code) (hml : c.maxLocals = 5) (hown : s.vm.findClass "com/example/attribute_checker/attributechecker/checker/PagedBytes" = some m.cls) (e0 : T0.heap = h0) (hc10 : ¬ ((lcmpW j3 (0 : Int64)) = (0 : Int32))) :
    ∃ (T' : State), Stand p l e R s m args below meth c T' locs cells slots ∧ T'.heap = h0 ∧
      ∀ target, Steps p.tables e below (T'.setTop (mkF m 7 #[s0, s1, .val (.int (i2 + (1 : Int32))), .val (.long ((j3.toUInt64 >>> ((7 : Int32) &&& 0x3f).toInt64.toUInt64).toInt64)), .second] [])) target → Steps p.tables e below (T0.setTop (mkF m 7 #[s0, s1, .val (.int i2), .val (.long j3), .second] [])) target := by

  refine ⟨T0, X0, e0, fun target kt => ?_⟩
  show Steps p.tables e below (T0.setTop (mkF m 7 #[s0, s1, .val (.int i2), .val (.long j3), .second] [])) _
  refine XS.lloadN X0.here hx rfl (hb hby d1_7) rfl ?_
  show Steps p.tables e below (T0.setTop (mkF m 8 #[s0, s1, .val (.int i2), .val (.long j3), .second] [(.long j3)])) _
  refine XS.lconst X0.here hx rfl (hb hby d1_8) ?_
  show Steps p.tables e below (T0.setTop (mkF m 9 #[s0, s1, .val (.int i2), .val (.long j3), .second] [(.long (0 : Int64)), (.long j3)])) _
  refine XS.lcmp X0.here hx rfl (hb hby d1_9) rfl ?_
  show Steps p.tables e below (T0.setTop (mkF m 10 #[s0, s1, .val (.int i2), .val (.long j3), .second] [(.int (lcmpW j3 (0 : Int64)))])) _
  refine XS.ifNo X0.here hx rfl (hb hby d1_10) rfl ((if0 _ _).trans (feq hc10).1) ?_
  show Steps p.tables e below (T0.setTop (mkF m 13 #[s0, s1, .val (.int i2), .val (.long j3), .second] [])) _
  refine XS.iinc X0.here hx rfl (hb hby d1_13) rfl (l' := #[s0, s1, .val (.int (i2 + (1 : Int32))), .val (.long j3), .second]) rfl ?_
  show Steps p.tables e below (T0.setTop (mkF m 16 #[s0, s1, .val (.int (i2 + (1 : Int32))), .val (.long j3), .second] [])) _
  refine XS.lloadN X0.here hx rfl (hb hby d1_16) rfl ?_
  show Steps p.tables e below (T0.setTop (mkF m 17 #[s0, s1, .val (.int (i2 + (1 : Int32))), .val (.long j3), .second] [(.long j3)])) _
  refine XS.bipush X0.here hx rfl (hb hby d1_17) ?_
  show Steps p.tables e below (T0.setTop (mkF m 19 #[s0, s1, .val (.int (i2 + (1 : Int32))), .val (.long j3), .second] [(.int (7 : Int32)), (.long j3)])) _
  refine XS.lushr X0.here hx rfl (hb hby d1_19) rfl ?_
  show Steps p.tables e below (T0.setTop (mkF m 20 #[s0, s1, .val (.int (i2 + (1 : Int32))), .val (.long j3), .second] [(.long ((j3.toUInt64 >>> ((7 : Int32) &&& 0x3f).toInt64.toUInt64).toInt64))])) _
  refine XS.lstoreN X0.here hx rfl (hb hby d1_20) rfl (l' := #[s0, s1, .val (.int (i2 + (1 : Int32))), .val (.long ((j3.toUInt64 >>> ((7 : Int32) &&& 0x3f).toInt64.toUInt64).toInt64)), .second]) rfl ?_
  show Steps p.tables e below (T0.setTop (mkF m 21 #[s0, s1, .val (.int (i2 + (1 : Int32))), .val (.long ((j3.toUInt64 >>> ((7 : Int32) &&& 0x3f).toInt64.toUInt64).toInt64)), .second] [])) _
  refine XS.goto X0.here hx rfl (pc0 := 21) (pc' := 7) rfl (hb hby d1_21) (by decide) (by decide) ?_
  exact kt
set_option maxRecDepth 65536 in
set_option maxHeartbeats 40000000 in
theorem tn1_7_24 {p : Program} {l : Launch} {e : Env} {R : Room} {s : State} {m : MethodId} {args : Array Value} {below : List Frame} {meth : Method} {c : Code} {T0 : State} {locs : List Loc} {cells slots : Nat} {Z : State} {a0 : Array Value} {h0 : Heap} (s0 : Slot) (s1 : Slot) (s2 : Slot) (j3 : Int64)
    (X0 : Stand p l e R s m args below meth c T0 locs cells slots) (hx : p.tables.exec = Jvm.exec) (hZ : Z.Warmed39 s.vm) (hw : ∀ d ∈ tables_1, d.before a0 Z = true) (hby : c.code = prog_13_method_9_code) (hml : c.maxLocals = 5) (hown : s.vm.findClass "com/example/attribute_checker/attributechecker/checker/PagedBytes" = some m.cls) (e0 : T0.heap = h0) (hc10 : (lcmpW j3 (0 : Int64)) = (0 : Int32)) :
    ∃ (T' : State), Stand p l e R s m args below meth c T' locs cells slots ∧ T'.heap = h0 ∧
      ∀ target, Steps p.tables e below (T'.setTop (mkF m 24 #[s0, s1, s2, .val (.long j3), .second] [])) target → Steps p.tables e below (T0.setTop (mkF m 7 #[s0, s1, s2, .val (.long j3), .second] [])) target := by

  refine ⟨T0, X0, e0, fun target kt => ?_⟩
  show Steps p.tables e below (T0.setTop (mkF m 7 #[s0, s1, s2, .val (.long j3), .second] [])) _
  refine XS.lloadN X0.here hx rfl (hb hby d1_7) rfl ?_
  show Steps p.tables e below (T0.setTop (mkF m 8 #[s0, s1, s2, .val (.long j3), .second] [(.long j3)])) _
  refine XS.lconst X0.here hx rfl (hb hby d1_8) ?_
  show Steps p.tables e below (T0.setTop (mkF m 9 #[s0, s1, s2, .val (.long j3), .second] [(.long (0 : Int64)), (.long j3)])) _
  refine XS.lcmp X0.here hx rfl (hb hby d1_9) rfl ?_
  show Steps p.tables e below (T0.setTop (mkF m 10 #[s0, s1, s2, .val (.long j3), .second] [(.int (lcmpW j3 (0 : Int64)))])) _
  refine XS.ifYes X0.here hx rfl (pc0 := 10) (pc' := 24) rfl (hb hby d1_10) rfl ((if0 _ _).trans (teq hc10).1) (by decide) (by decide) ?_
  exact kt
theorem own_loop {p : Program} {l : Launch} {e : Env} {R : Room} {s : State} {m : MethodId} {args : Array Value} {below : List Frame} {meth : Method} {c : Code} {locs : List Loc} {cells slots : Nat} {Z : State} {a0 : Array Value} {h0 : Heap} (s0 s1 : Slot) (hx : p.tables.exec = Jvm.exec) (hZ : Z.Warmed39 s.vm) (hw : ∀ d ∈ tables_1, d.before a0 Z = true) (hby : c.code = prog_13_method_9_code) (hml : c.maxLocals = 5) (hown : s.vm.findClass "com/example/attribute_checker/attributechecker/checker/PagedBytes" = some m.cls) :
    ∀ (k : Nat) (i : Int32) (j : Int64) (T0 : State), Stand p l e R s m args below meth c T0 locs cells slots → T0.heap = h0 → j.toUInt64.toNat < 2 ^ (7 * k) →
      ∃ (T' : State), Stand p l e R s m args below meth c T' locs cells slots ∧ T'.heap = h0 ∧
        ∀ target, Steps p.tables e below (T'.setTop (mkF m 24 #[s0, s1, .val (.int (own_cnt k j i)), .val (.long 0), .second] [])) target → Steps p.tables e below (T0.setTop (mkF m 7 #[s0, s1, .val (.int i), .val (.long j), .second] [])) target := by
  intro k
  induction k with
  | zero =>
    intro i j T0 X0 e0 hj
    obtain rfl := own_zero hj
    exact tn1_7_24 s0 s1 (.val (.int i)) 0 X0 hx hZ hw hby hml hown e0 ((lw_eq _ _).mpr rfl)
  | succ k ih =>
    intro i j T0 X0 e0 hj
    by_cases hz : j = 0
    · subst hz
      have ec : own_cnt (k + 1) 0 i = i := by simp [own_cnt]
      rw [ec]
      exact tn1_7_24 s0 s1 (.val (.int i)) 0 X0 hx hZ hw hby hml hown e0 ((lw_eq _ _).mpr rfl)
    · have ec : own_cnt (k + 1) j i = own_cnt k (own_shr j 7) (i + 1) := by simp [own_cnt, hz]
      rw [ec]
      obtain ⟨T1, X1, e1, st1⟩ := tn1_7_7 s0 s1 i j X0 hx hZ hw hby hml hown e0 (fun h => hz ((lw_eq _ _).mp h))
      obtain ⟨T2, X2, e2, st2⟩ := ih (i + 1) (own_shr j 7) T1 X1 e1 (own_less hj)
      exact ⟨T2, X2, e2, fun target h => st1 target (st2 target h)⟩
theorem pn_1 : plainName "com/example/attribute_checker/attributechecker/checker/PagedBytes" = true := by first | (simp [plainName, overriddenIn]; done) | decide +kernel
theorem ef_1 (m : MethodId) (x0 : Int64) : entryFrame m #[(.long x0)] 5 = mkF m 0 #[.val (.long x0), .second, .unset, .unset, .unset] [] := by first | (simp [entryFrame, mkF, argsToLocals, Value.category]; done) | rfl
def Q1 (Z : State) (q1 : Int64) (h0 : Heap) (n0 : Nat) (v : Option Value) (h : Heap) (L : List Loc) : Prop := v = some (.int (own_cnt 9 (own_shr q1 7) 1)) ∧ Fr n0 L ∧ h = h0
set_option maxRecDepth 65536 in
set_option maxHeartbeats 40000000 in
theorem rm1 (l : Launch) (Z : State) (a0 : Array Value) (hw : ∀ d ∈ tables_1, d.before a0 Z = true) (ws : List Jvm.Cond) (q1 : Int64) (h0 : Heap) (n0 : Nat) (Z0 : n0 ≤ h0.size) :
    MetFree l (⟨"com/example/attribute_checker/attributechecker/checker/PagedBytes", "varintSize", "(J)I"⟩ : MethodName) (head1 (Jvm.Cond.code (⟨"com/example/attribute_checker/attributechecker/checker/PagedBytes", "varintSize", "(J)I"⟩ : MethodName) prog_13_method_9_code 5 (some .int) :: ws) ({ frames := 0, cells := 0, slots := 0, locals := 0 } : Room)) (fun a U => a = #[(.long q1)] ∧ Z.Warmed39 U.vm ∧ U.heap = h0) (fun _ _ _ _ _ => True) (fun _ U o U' => ∃ v L, o = .returned v ∧ Q1 Z q1 h0 n0 v U'.heap L ∧ FrameEnd U o U' L ({ frames := 0, cells := 0, slots := 0, locals := 0 } : Room).cells ({ frames := 0, cells := 0, slots := 0, locals := 0 } : Room).slots) := by
  refine MetFree.of_bodySF (plainFor_of_name pn_1) hisR ?_
  intro p e s m args below meth c s₁ Bd hml0 hP hK
  obtain ⟨rfl, hZ, hh⟩ := hP
  have hx := Bd.exec
  have hby := Bd.bytes
  have hml : c.maxLocals = 5 := hml0
  have hown : s.vm.findClass "com/example/attribute_checker/attributechecker/checker/PagedBytes" = some m.cls := findClass_of_methodNamed Bd.named
  have hnm := (name_of_methodNamed Bd.named Bd.method).1
  have X0 : Stand p l e ({ frames := 0, cells := 0, slots := 0, locals := 0 } : Room) s m #[(.long q1)] below meth c s₁ [] 0 0 := Stand.of_body Bd
  have e0 : s₁.heap = h0 := by rw [← hh, Bd.state]; rfl
  have N0 := Fr.nil n0
  have pre0 : ∀ t, Steps p.tables e below (s₁.setTop (mkF m 0 #[.val (.long q1), .second, .unset, .unset, .unset] [])) t → Steps p.tables e below (s₁.setTop (entryFrame m #[(.long q1)] 5)) t := fun t k => castTop (ef_1 m q1) k

  obtain ⟨TL, XL, eL, stL⟩ := own_loop (.val (.long q1)) .second hx hZ hw hby hml hown 9 1 (own_shr q1 7) s₁ X0 e0 (own_first q1)
  obtain ⟨fs, hr, hrun, hended, hW, hsame⟩ := XL.leave (v := some (.int (own_cnt 9 (own_shr q1 7) 1))) (fun h => by rw [Bd.returns] at h; cases h)
  refine ⟨_, _, pre0 _ ?_, hrun, hended, _, _, rfl, ?_, ⟨_, rfl⟩, hW, hsame.mono (by decide) (by decide)⟩
  · show Steps p.tables e below (s₁.setTop (mkF m 0 #[.val (.long q1), .second, .unset, .unset, .unset] [])) _
    refine XS.iconst X0.here hx rfl (hb hby d1_0) ?_
    show Steps p.tables e below (s₁.setTop (mkF m 1 #[.val (.long q1), .second, .unset, .unset, .unset] [(.int (1 : Int32))])) _
    refine XS.istoreN X0.here hx rfl (hb hby d1_1) rfl (l' := #[.val (.long q1), .second, .val (.int (1 : Int32)), .unset, .unset]) rfl ?_
    show Steps p.tables e below (s₁.setTop (mkF m 2 #[.val (.long q1), .second, .val (.int (1 : Int32)), .unset, .unset] [])) _
    refine XS.lloadN X0.here hx rfl (hb hby d1_2) rfl ?_
    show Steps p.tables e below (s₁.setTop (mkF m 3 #[.val (.long q1), .second, .val (.int (1 : Int32)), .unset, .unset] [(.long q1)])) _
    refine XS.bipush X0.here hx rfl (hb hby d1_3) ?_
    show Steps p.tables e below (s₁.setTop (mkF m 5 #[.val (.long q1), .second, .val (.int (1 : Int32)), .unset, .unset] [(.int (7 : Int32)), (.long q1)])) _
    refine XS.lushr X0.here hx rfl (hb hby d1_5) rfl ?_
    show Steps p.tables e below (s₁.setTop (mkF m 6 #[.val (.long q1), .second, .val (.int (1 : Int32)), .unset, .unset] [(.long ((q1.toUInt64 >>> ((7 : Int32) &&& 0x3f).toInt64.toUInt64).toInt64))])) _
    refine XS.lstoreN X0.here hx rfl (hb hby d1_6) rfl (l' := #[.val (.long q1), .second, .val (.int (1 : Int32)), .val (.long ((q1.toUInt64 >>> ((7 : Int32) &&& 0x3f).toInt64.toUInt64).toInt64)), .second]) rfl ?_
    show Steps p.tables e below (s₁.setTop (mkF m 7 #[.val (.long q1), .second, .val (.int (1 : Int32)), .val (.long ((q1.toUInt64 >>> ((7 : Int32) &&& 0x3f).toInt64.toUInt64).toInt64)), .second] [])) _
    refine stL _ ?_
    show Steps p.tables e below (TL.setTop (mkF m 24 #[.val (.long q1), .second, .val (.int (own_cnt 9 (own_shr q1 7) 1)), .val (.long 0), .second] [])) _
    refine XS.iloadN XL.here hx rfl (hb hby d1_24) rfl ?_
    show Steps p.tables e below (TL.setTop (mkF m 25 #[.val (.long q1), .second, .val (.int (own_cnt 9 (own_shr q1 7) 1)), .val (.long 0), .second] [(.int (own_cnt 9 (own_shr q1 7) 1))])) _
    exact retI XL hx Bd.returns (hb hby d1_25) hr
  · show Q1 Z q1 h0 n0 _ TL.heap _
    rw [eL]
    exact ⟨rfl, N0, rfl⟩
theorem d2_0 : decode method_2_code 0 = .ok (.lload_n 0, 1) := by decide +kernel
theorem d2_1 : decode method_2_code 1 = .ok (.bipush 7, 2) := by decide +kernel
theorem d2_3 : decode method_2_code 3 = .ok (.lushr, 1) := by decide +kernel
theorem d2_4 : decode method_2_code 4 = .ok (.lconst 0, 1) := by decide +kernel
theorem d2_5 : decode method_2_code 5 = .ok (.lcmp, 1) := by decide +kernel
theorem d2_6 : decode method_2_code 6 = .ok (.ifCond .ne 5, 3) := by decide +kernel
theorem d2_11 : decode method_2_code 11 = .ok (.lload_n 0, 1) := by decide +kernel
theorem d2_12 : decode method_2_code 12 = .ok (.bipush 14, 2) := by decide +kernel
theorem d2_14 : decode method_2_code 14 = .ok (.lushr, 1) := by decide +kernel
theorem d2_15 : decode method_2_code 15 = .ok (.lconst 0, 1) := by decide +kernel
theorem d2_16 : decode method_2_code 16 = .ok (.lcmp, 1) := by decide +kernel
theorem d2_17 : decode method_2_code 17 = .ok (.ifCond .ne 5, 3) := by decide +kernel
theorem d2_22 : decode method_2_code 22 = .ok (.lload_n 0, 1) := by decide +kernel
theorem d2_23 : decode method_2_code 23 = .ok (.bipush 21, 2) := by decide +kernel
theorem d2_25 : decode method_2_code 25 = .ok (.lushr, 1) := by decide +kernel
theorem d2_26 : decode method_2_code 26 = .ok (.lconst 0, 1) := by decide +kernel
theorem d2_27 : decode method_2_code 27 = .ok (.lcmp, 1) := by decide +kernel
theorem d2_28 : decode method_2_code 28 = .ok (.ifCond .ne 5, 3) := by decide +kernel
theorem d2_33 : decode method_2_code 33 = .ok (.lload_n 0, 1) := by decide +kernel
theorem d2_34 : decode method_2_code 34 = .ok (.bipush 28, 2) := by decide +kernel
theorem d2_36 : decode method_2_code 36 = .ok (.lushr, 1) := by decide +kernel
theorem d2_37 : decode method_2_code 37 = .ok (.lconst 0, 1) := by decide +kernel
theorem d2_38 : decode method_2_code 38 = .ok (.lcmp, 1) := by decide +kernel
theorem d2_39 : decode method_2_code 39 = .ok (.ifCond .ne 5, 3) := by decide +kernel
theorem d2_44 : decode method_2_code 44 = .ok (.lload_n 0, 1) := by decide +kernel
theorem d2_45 : decode method_2_code 45 = .ok (.bipush 35, 2) := by decide +kernel
theorem d2_47 : decode method_2_code 47 = .ok (.lushr, 1) := by decide +kernel
theorem d2_48 : decode method_2_code 48 = .ok (.lconst 0, 1) := by decide +kernel
theorem d2_49 : decode method_2_code 49 = .ok (.lcmp, 1) := by decide +kernel
theorem d2_50 : decode method_2_code 50 = .ok (.ifCond .ne 5, 3) := by decide +kernel
theorem d2_55 : decode method_2_code 55 = .ok (.lload_n 0, 1) := by decide +kernel
theorem d2_56 : decode method_2_code 56 = .ok (.bipush 42, 2) := by decide +kernel
theorem d2_58 : decode method_2_code 58 = .ok (.lushr, 1) := by decide +kernel
theorem d2_59 : decode method_2_code 59 = .ok (.lconst 0, 1) := by decide +kernel
theorem d2_60 : decode method_2_code 60 = .ok (.lcmp, 1) := by decide +kernel
theorem d2_61 : decode method_2_code 61 = .ok (.ifCond .ne 6, 3) := by decide +kernel
theorem d2_67 : decode method_2_code 67 = .ok (.lload_n 0, 1) := by decide +kernel
theorem d2_68 : decode method_2_code 68 = .ok (.bipush 49, 2) := by decide +kernel
theorem d2_70 : decode method_2_code 70 = .ok (.lushr, 1) := by decide +kernel
theorem d2_71 : decode method_2_code 71 = .ok (.lconst 0, 1) := by decide +kernel
theorem d2_72 : decode method_2_code 72 = .ok (.lcmp, 1) := by decide +kernel
theorem d2_73 : decode method_2_code 73 = .ok (.ifCond .ne 6, 3) := by decide +kernel
theorem d2_79 : decode method_2_code 79 = .ok (.lload_n 0, 1) := by decide +kernel
theorem d2_80 : decode method_2_code 80 = .ok (.bipush 56, 2) := by decide +kernel
theorem d2_82 : decode method_2_code 82 = .ok (.lushr, 1) := by decide +kernel
theorem d2_83 : decode method_2_code 83 = .ok (.lconst 0, 1) := by decide +kernel
theorem d2_84 : decode method_2_code 84 = .ok (.lcmp, 1) := by decide +kernel
theorem d2_85 : decode method_2_code 85 = .ok (.ifCond .ne 6, 3) := by decide +kernel
theorem d2_91 : decode method_2_code 91 = .ok (.lload_n 0, 1) := by decide +kernel
theorem d2_92 : decode method_2_code 92 = .ok (.bipush 63, 2) := by decide +kernel
theorem d2_94 : decode method_2_code 94 = .ok (.lushr, 1) := by decide +kernel
theorem d2_95 : decode method_2_code 95 = .ok (.lconst 0, 1) := by decide +kernel
theorem d2_96 : decode method_2_code 96 = .ok (.lcmp, 1) := by decide +kernel
theorem d2_97 : decode method_2_code 97 = .ok (.ifCond .ne 6, 3) := by decide +kernel
theorem d2_103 : decode method_2_code 103 = .ok (.bipush 10, 2) := by decide +kernel
theorem d2_105 : decode method_2_code 105 = .ok (.ireturn, 1) := by decide +kernel
theorem d2_9 : decode method_2_code 9 = .ok (.iconst 1, 1) := by decide +kernel
theorem d2_10 : decode method_2_code 10 = .ok (.ireturn, 1) := by decide +kernel
theorem d2_20 : decode method_2_code 20 = .ok (.iconst 2, 1) := by decide +kernel
theorem d2_21 : decode method_2_code 21 = .ok (.ireturn, 1) := by decide +kernel
theorem d2_31 : decode method_2_code 31 = .ok (.iconst 3, 1) := by decide +kernel
theorem d2_32 : decode method_2_code 32 = .ok (.ireturn, 1) := by decide +kernel
theorem d2_42 : decode method_2_code 42 = .ok (.iconst 4, 1) := by decide +kernel
theorem d2_43 : decode method_2_code 43 = .ok (.ireturn, 1) := by decide +kernel
theorem d2_53 : decode method_2_code 53 = .ok (.iconst 5, 1) := by decide +kernel
theorem d2_54 : decode method_2_code 54 = .ok (.ireturn, 1) := by decide +kernel
theorem d2_64 : decode method_2_code 64 = .ok (.bipush 6, 2) := by decide +kernel
theorem d2_66 : decode method_2_code 66 = .ok (.ireturn, 1) := by decide +kernel
theorem d2_76 : decode method_2_code 76 = .ok (.bipush 7, 2) := by decide +kernel
theorem d2_78 : decode method_2_code 78 = .ok (.ireturn, 1) := by decide +kernel
theorem d2_88 : decode method_2_code 88 = .ok (.bipush 8, 2) := by decide +kernel
theorem d2_90 : decode method_2_code 90 = .ok (.ireturn, 1) := by decide +kernel
theorem d2_100 : decode method_2_code 100 = .ok (.bipush 9, 2) := by decide +kernel
theorem d2_102 : decode method_2_code 102 = .ok (.ireturn, 1) := by decide +kernel
theorem pn_2 : plainName "com/example/attribute_checker/attributechecker/checker/PagedBytesVarintSizePinLaw" = true := by first | (simp [plainName, overriddenIn]; done) | decide +kernel
theorem ef_2 (m : MethodId) (x0 : Int64) : entryFrame m #[(.long x0)] 2 = mkF m 0 #[.val (.long x0), .second] [] := by first | (simp [entryFrame, mkF, argsToLocals, Value.category]; done) | rfl
def Q2 (Z : State) (q1 : Int64) (h0 : Heap) (n0 : Nat) (v : Option Value) (h : Heap) (L : List Loc) : Prop := v = some (.int (own_exp q1)) ∧ Fr n0 L ∧ h = h0
set_option maxRecDepth 65536 in
set_option maxHeartbeats 40000000 in
theorem rm2 (l : Launch) (Z : State) (a0 : Array Value) (hw : ∀ d ∈ tables_1, d.before a0 Z = true) (ws : List Jvm.Cond) (q1 : Int64) (h0 : Heap) (n0 : Nat) (Z0 : n0 ≤ h0.size) :
    MetFree l (⟨"com/example/attribute_checker/attributechecker/checker/PagedBytesVarintSizePinLaw", "expected", "(J)I"⟩ : MethodName) (head1 (Jvm.Cond.code (⟨"com/example/attribute_checker/attributechecker/checker/PagedBytesVarintSizePinLaw", "expected", "(J)I"⟩ : MethodName) method_2_code 2 (some .int) :: ws) ({ frames := 0, cells := 0, slots := 0, locals := 0 } : Room)) (fun a U => a = #[(.long q1)] ∧ Z.Warmed39 U.vm ∧ U.heap = h0) (fun _ _ _ _ _ => True) (fun _ U o U' => ∃ v L, o = .returned v ∧ Q2 Z q1 h0 n0 v U'.heap L ∧ FrameEnd U o U' L ({ frames := 0, cells := 0, slots := 0, locals := 0 } : Room).cells ({ frames := 0, cells := 0, slots := 0, locals := 0 } : Room).slots) := by
  refine MetFree.of_bodySF (plainFor_of_name pn_2) hisR ?_
  intro p e s m args below meth c s₁ Bd hml0 hP hK
  obtain ⟨rfl, hZ, hh⟩ := hP
  have hx := Bd.exec
  have hby := Bd.bytes
  have hml : c.maxLocals = 2 := hml0
  have hown : s.vm.findClass "com/example/attribute_checker/attributechecker/checker/PagedBytesVarintSizePinLaw" = some m.cls := findClass_of_methodNamed Bd.named
  have hnm := (name_of_methodNamed Bd.named Bd.method).1
  have X0 : Stand p l e ({ frames := 0, cells := 0, slots := 0, locals := 0 } : Room) s m #[(.long q1)] below meth c s₁ [] 0 0 := Stand.of_body Bd
  have e0 : s₁.heap = h0 := by rw [← hh, Bd.state]; rfl
  have N0 := Fr.nil n0
  have pre0 : ∀ t, Steps p.tables e below (s₁.setTop (mkF m 0 #[.val (.long q1), .second] [])) t → Steps p.tables e below (s₁.setTop (entryFrame m #[(.long q1)] 2)) t := fun t k => castTop (ef_2 m q1) k

  obtain ⟨fs, hr, hrun, hended, hW, hsame⟩ := X0.leave (v := some (.int (own_exp q1))) (fun h => by rw [Bd.returns] at h; cases h)
  refine ⟨_, _, pre0 _ ?_, hrun, hended, _, _, rfl, ?_, ⟨_, rfl⟩, hW, hsame.mono (by decide) (by decide)⟩
  · show Steps p.tables e below (s₁.setTop (mkF m 0 #[.val (.long q1), .second] [])) _
    refine XS.lloadN X0.here hx rfl (hb hby d2_0) rfl ?_
    show Steps p.tables e below (s₁.setTop (mkF m 1 #[.val (.long q1), .second] [(.long q1)])) _
    refine XS.bipush X0.here hx rfl (hb hby d2_1) ?_
    show Steps p.tables e below (s₁.setTop (mkF m 3 #[.val (.long q1), .second] [(.int (7 : Int32)), (.long q1)])) _
    refine XS.lushr X0.here hx rfl (hb hby d2_3) rfl ?_
    show Steps p.tables e below (s₁.setTop (mkF m 4 #[.val (.long q1), .second] [(.long ((q1.toUInt64 >>> ((7 : Int32) &&& 0x3f).toInt64.toUInt64).toInt64))])) _
    refine XS.lconst X0.here hx rfl (hb hby d2_4) ?_
    show Steps p.tables e below (s₁.setTop (mkF m 5 #[.val (.long q1), .second] [(.long (0 : Int64)), (.long ((q1.toUInt64 >>> ((7 : Int32) &&& 0x3f).toInt64.toUInt64).toInt64))])) _
    refine XS.lcmp X0.here hx rfl (hb hby d2_5) rfl ?_
    show Steps p.tables e below (s₁.setTop (mkF m 6 #[.val (.long q1), .second] [(.int (lcmpW ((q1.toUInt64 >>> ((7 : Int32) &&& 0x3f).toInt64.toUInt64).toInt64) (0 : Int64)))])) _
    by_cases hc6 : lcmpW (own_shr q1 7) (0 : Int64) = (0 : Int32)
    · rw [show own_exp q1 = 1 from by simp [own_exp, (lw_eq _ _).mp hc6]] at hr
      refine XS.ifNo X0.here hx rfl (hb hby d2_6) rfl ((if0 _ _).trans (teq hc6).2) ?_
      show Steps p.tables e below (s₁.setTop (mkF m 9 #[.val (.long q1), .second] [])) _
      refine XS.iconst X0.here hx rfl (hb hby d2_9) ?_
      show Steps p.tables e below (s₁.setTop (mkF m 10 #[.val (.long q1), .second] [(.int (1 : Int32))])) _
      exact retI X0 hx Bd.returns (hb hby d2_10) hr
    refine XS.ifYes X0.here hx rfl (pc0 := 6) (pc' := 11) rfl (hb hby d2_6) rfl ((if0 _ _).trans (feq hc6).2) (by decide) (by decide) ?_
    show Steps p.tables e below (s₁.setTop (mkF m 11 #[.val (.long q1), .second] [])) _
    refine XS.lloadN X0.here hx rfl (hb hby d2_11) rfl ?_
    show Steps p.tables e below (s₁.setTop (mkF m 12 #[.val (.long q1), .second] [(.long q1)])) _
    refine XS.bipush X0.here hx rfl (hb hby d2_12) ?_
    show Steps p.tables e below (s₁.setTop (mkF m 14 #[.val (.long q1), .second] [(.int (14 : Int32)), (.long q1)])) _
    refine XS.lushr X0.here hx rfl (hb hby d2_14) rfl ?_
    show Steps p.tables e below (s₁.setTop (mkF m 15 #[.val (.long q1), .second] [(.long ((q1.toUInt64 >>> ((14 : Int32) &&& 0x3f).toInt64.toUInt64).toInt64))])) _
    refine XS.lconst X0.here hx rfl (hb hby d2_15) ?_
    show Steps p.tables e below (s₁.setTop (mkF m 16 #[.val (.long q1), .second] [(.long (0 : Int64)), (.long ((q1.toUInt64 >>> ((14 : Int32) &&& 0x3f).toInt64.toUInt64).toInt64))])) _
    refine XS.lcmp X0.here hx rfl (hb hby d2_16) rfl ?_
    show Steps p.tables e below (s₁.setTop (mkF m 17 #[.val (.long q1), .second] [(.int (lcmpW ((q1.toUInt64 >>> ((14 : Int32) &&& 0x3f).toInt64.toUInt64).toInt64) (0 : Int64)))])) _
    by_cases hc17 : lcmpW (own_shr q1 14) (0 : Int64) = (0 : Int32)
    · rw [show own_exp q1 = 2 from by simp [own_exp, (show ¬ own_shr q1 7 = 0 from fun q => hc6 ((lw_eq _ _).mpr q)), (lw_eq _ _).mp hc17]] at hr
      refine XS.ifNo X0.here hx rfl (hb hby d2_17) rfl ((if0 _ _).trans (teq hc17).2) ?_
      show Steps p.tables e below (s₁.setTop (mkF m 20 #[.val (.long q1), .second] [])) _
      refine XS.iconst X0.here hx rfl (hb hby d2_20) ?_
      show Steps p.tables e below (s₁.setTop (mkF m 21 #[.val (.long q1), .second] [(.int (2 : Int32))])) _
      exact retI X0 hx Bd.returns (hb hby d2_21) hr
    refine XS.ifYes X0.here hx rfl (pc0 := 17) (pc' := 22) rfl (hb hby d2_17) rfl ((if0 _ _).trans (feq hc17).2) (by decide) (by decide) ?_
    show Steps p.tables e below (s₁.setTop (mkF m 22 #[.val (.long q1), .second] [])) _
    refine XS.lloadN X0.here hx rfl (hb hby d2_22) rfl ?_
    show Steps p.tables e below (s₁.setTop (mkF m 23 #[.val (.long q1), .second] [(.long q1)])) _
    refine XS.bipush X0.here hx rfl (hb hby d2_23) ?_
    show Steps p.tables e below (s₁.setTop (mkF m 25 #[.val (.long q1), .second] [(.int (21 : Int32)), (.long q1)])) _
    refine XS.lushr X0.here hx rfl (hb hby d2_25) rfl ?_
    show Steps p.tables e below (s₁.setTop (mkF m 26 #[.val (.long q1), .second] [(.long ((q1.toUInt64 >>> ((21 : Int32) &&& 0x3f).toInt64.toUInt64).toInt64))])) _
    refine XS.lconst X0.here hx rfl (hb hby d2_26) ?_
    show Steps p.tables e below (s₁.setTop (mkF m 27 #[.val (.long q1), .second] [(.long (0 : Int64)), (.long ((q1.toUInt64 >>> ((21 : Int32) &&& 0x3f).toInt64.toUInt64).toInt64))])) _
    refine XS.lcmp X0.here hx rfl (hb hby d2_27) rfl ?_
    show Steps p.tables e below (s₁.setTop (mkF m 28 #[.val (.long q1), .second] [(.int (lcmpW ((q1.toUInt64 >>> ((21 : Int32) &&& 0x3f).toInt64.toUInt64).toInt64) (0 : Int64)))])) _
    by_cases hc28 : lcmpW (own_shr q1 21) (0 : Int64) = (0 : Int32)
    · rw [show own_exp q1 = 3 from by simp [own_exp, (show ¬ own_shr q1 7 = 0 from fun q => hc6 ((lw_eq _ _).mpr q)), (show ¬ own_shr q1 14 = 0 from fun q => hc17 ((lw_eq _ _).mpr q)), (lw_eq _ _).mp hc28]] at hr
      refine XS.ifNo X0.here hx rfl (hb hby d2_28) rfl ((if0 _ _).trans (teq hc28).2) ?_
      show Steps p.tables e below (s₁.setTop (mkF m 31 #[.val (.long q1), .second] [])) _
      refine XS.iconst X0.here hx rfl (hb hby d2_31) ?_
      show Steps p.tables e below (s₁.setTop (mkF m 32 #[.val (.long q1), .second] [(.int (3 : Int32))])) _
      exact retI X0 hx Bd.returns (hb hby d2_32) hr
    refine XS.ifYes X0.here hx rfl (pc0 := 28) (pc' := 33) rfl (hb hby d2_28) rfl ((if0 _ _).trans (feq hc28).2) (by decide) (by decide) ?_
    show Steps p.tables e below (s₁.setTop (mkF m 33 #[.val (.long q1), .second] [])) _
    refine XS.lloadN X0.here hx rfl (hb hby d2_33) rfl ?_
    show Steps p.tables e below (s₁.setTop (mkF m 34 #[.val (.long q1), .second] [(.long q1)])) _
    refine XS.bipush X0.here hx rfl (hb hby d2_34) ?_
    show Steps p.tables e below (s₁.setTop (mkF m 36 #[.val (.long q1), .second] [(.int (28 : Int32)), (.long q1)])) _
    refine XS.lushr X0.here hx rfl (hb hby d2_36) rfl ?_
    show Steps p.tables e below (s₁.setTop (mkF m 37 #[.val (.long q1), .second] [(.long ((q1.toUInt64 >>> ((28 : Int32) &&& 0x3f).toInt64.toUInt64).toInt64))])) _
    refine XS.lconst X0.here hx rfl (hb hby d2_37) ?_
    show Steps p.tables e below (s₁.setTop (mkF m 38 #[.val (.long q1), .second] [(.long (0 : Int64)), (.long ((q1.toUInt64 >>> ((28 : Int32) &&& 0x3f).toInt64.toUInt64).toInt64))])) _
    refine XS.lcmp X0.here hx rfl (hb hby d2_38) rfl ?_
    show Steps p.tables e below (s₁.setTop (mkF m 39 #[.val (.long q1), .second] [(.int (lcmpW ((q1.toUInt64 >>> ((28 : Int32) &&& 0x3f).toInt64.toUInt64).toInt64) (0 : Int64)))])) _
    by_cases hc39 : lcmpW (own_shr q1 28) (0 : Int64) = (0 : Int32)
    · rw [show own_exp q1 = 4 from by simp [own_exp, (show ¬ own_shr q1 7 = 0 from fun q => hc6 ((lw_eq _ _).mpr q)), (show ¬ own_shr q1 14 = 0 from fun q => hc17 ((lw_eq _ _).mpr q)), (show ¬ own_shr q1 21 = 0 from fun q => hc28 ((lw_eq _ _).mpr q)), (lw_eq _ _).mp hc39]] at hr
      refine XS.ifNo X0.here hx rfl (hb hby d2_39) rfl ((if0 _ _).trans (teq hc39).2) ?_
      show Steps p.tables e below (s₁.setTop (mkF m 42 #[.val (.long q1), .second] [])) _
      refine XS.iconst X0.here hx rfl (hb hby d2_42) ?_
      show Steps p.tables e below (s₁.setTop (mkF m 43 #[.val (.long q1), .second] [(.int (4 : Int32))])) _
      exact retI X0 hx Bd.returns (hb hby d2_43) hr
    refine XS.ifYes X0.here hx rfl (pc0 := 39) (pc' := 44) rfl (hb hby d2_39) rfl ((if0 _ _).trans (feq hc39).2) (by decide) (by decide) ?_
    show Steps p.tables e below (s₁.setTop (mkF m 44 #[.val (.long q1), .second] [])) _
    refine XS.lloadN X0.here hx rfl (hb hby d2_44) rfl ?_
    show Steps p.tables e below (s₁.setTop (mkF m 45 #[.val (.long q1), .second] [(.long q1)])) _
    refine XS.bipush X0.here hx rfl (hb hby d2_45) ?_
    show Steps p.tables e below (s₁.setTop (mkF m 47 #[.val (.long q1), .second] [(.int (35 : Int32)), (.long q1)])) _
    refine XS.lushr X0.here hx rfl (hb hby d2_47) rfl ?_
    show Steps p.tables e below (s₁.setTop (mkF m 48 #[.val (.long q1), .second] [(.long ((q1.toUInt64 >>> ((35 : Int32) &&& 0x3f).toInt64.toUInt64).toInt64))])) _
    refine XS.lconst X0.here hx rfl (hb hby d2_48) ?_
    show Steps p.tables e below (s₁.setTop (mkF m 49 #[.val (.long q1), .second] [(.long (0 : Int64)), (.long ((q1.toUInt64 >>> ((35 : Int32) &&& 0x3f).toInt64.toUInt64).toInt64))])) _
    refine XS.lcmp X0.here hx rfl (hb hby d2_49) rfl ?_
    show Steps p.tables e below (s₁.setTop (mkF m 50 #[.val (.long q1), .second] [(.int (lcmpW ((q1.toUInt64 >>> ((35 : Int32) &&& 0x3f).toInt64.toUInt64).toInt64) (0 : Int64)))])) _
    by_cases hc50 : lcmpW (own_shr q1 35) (0 : Int64) = (0 : Int32)
    · rw [show own_exp q1 = 5 from by simp [own_exp, (show ¬ own_shr q1 7 = 0 from fun q => hc6 ((lw_eq _ _).mpr q)), (show ¬ own_shr q1 14 = 0 from fun q => hc17 ((lw_eq _ _).mpr q)), (show ¬ own_shr q1 21 = 0 from fun q => hc28 ((lw_eq _ _).mpr q)), (show ¬ own_shr q1 28 = 0 from fun q => hc39 ((lw_eq _ _).mpr q)), (lw_eq _ _).mp hc50]] at hr
      refine XS.ifNo X0.here hx rfl (hb hby d2_50) rfl ((if0 _ _).trans (teq hc50).2) ?_
      show Steps p.tables e below (s₁.setTop (mkF m 53 #[.val (.long q1), .second] [])) _
      refine XS.iconst X0.here hx rfl (hb hby d2_53) ?_
      show Steps p.tables e below (s₁.setTop (mkF m 54 #[.val (.long q1), .second] [(.int (5 : Int32))])) _
      exact retI X0 hx Bd.returns (hb hby d2_54) hr
    refine XS.ifYes X0.here hx rfl (pc0 := 50) (pc' := 55) rfl (hb hby d2_50) rfl ((if0 _ _).trans (feq hc50).2) (by decide) (by decide) ?_
    show Steps p.tables e below (s₁.setTop (mkF m 55 #[.val (.long q1), .second] [])) _
    refine XS.lloadN X0.here hx rfl (hb hby d2_55) rfl ?_
    show Steps p.tables e below (s₁.setTop (mkF m 56 #[.val (.long q1), .second] [(.long q1)])) _
    refine XS.bipush X0.here hx rfl (hb hby d2_56) ?_
    show Steps p.tables e below (s₁.setTop (mkF m 58 #[.val (.long q1), .second] [(.int (42 : Int32)), (.long q1)])) _
    refine XS.lushr X0.here hx rfl (hb hby d2_58) rfl ?_
    show Steps p.tables e below (s₁.setTop (mkF m 59 #[.val (.long q1), .second] [(.long ((q1.toUInt64 >>> ((42 : Int32) &&& 0x3f).toInt64.toUInt64).toInt64))])) _
    refine XS.lconst X0.here hx rfl (hb hby d2_59) ?_
    show Steps p.tables e below (s₁.setTop (mkF m 60 #[.val (.long q1), .second] [(.long (0 : Int64)), (.long ((q1.toUInt64 >>> ((42 : Int32) &&& 0x3f).toInt64.toUInt64).toInt64))])) _
    refine XS.lcmp X0.here hx rfl (hb hby d2_60) rfl ?_
    show Steps p.tables e below (s₁.setTop (mkF m 61 #[.val (.long q1), .second] [(.int (lcmpW ((q1.toUInt64 >>> ((42 : Int32) &&& 0x3f).toInt64.toUInt64).toInt64) (0 : Int64)))])) _
    by_cases hc61 : lcmpW (own_shr q1 42) (0 : Int64) = (0 : Int32)
    · rw [show own_exp q1 = 6 from by simp [own_exp, (show ¬ own_shr q1 7 = 0 from fun q => hc6 ((lw_eq _ _).mpr q)), (show ¬ own_shr q1 14 = 0 from fun q => hc17 ((lw_eq _ _).mpr q)), (show ¬ own_shr q1 21 = 0 from fun q => hc28 ((lw_eq _ _).mpr q)), (show ¬ own_shr q1 28 = 0 from fun q => hc39 ((lw_eq _ _).mpr q)), (show ¬ own_shr q1 35 = 0 from fun q => hc50 ((lw_eq _ _).mpr q)), (lw_eq _ _).mp hc61]] at hr
      refine XS.ifNo X0.here hx rfl (hb hby d2_61) rfl ((if0 _ _).trans (teq hc61).2) ?_
      show Steps p.tables e below (s₁.setTop (mkF m 64 #[.val (.long q1), .second] [])) _
      refine XS.bipush X0.here hx rfl (hb hby d2_64) ?_
      show Steps p.tables e below (s₁.setTop (mkF m 66 #[.val (.long q1), .second] [(.int (6 : Int32))])) _
      exact retI X0 hx Bd.returns (hb hby d2_66) hr
    refine XS.ifYes X0.here hx rfl (pc0 := 61) (pc' := 67) rfl (hb hby d2_61) rfl ((if0 _ _).trans (feq hc61).2) (by decide) (by decide) ?_
    show Steps p.tables e below (s₁.setTop (mkF m 67 #[.val (.long q1), .second] [])) _
    refine XS.lloadN X0.here hx rfl (hb hby d2_67) rfl ?_
    show Steps p.tables e below (s₁.setTop (mkF m 68 #[.val (.long q1), .second] [(.long q1)])) _
    refine XS.bipush X0.here hx rfl (hb hby d2_68) ?_
    show Steps p.tables e below (s₁.setTop (mkF m 70 #[.val (.long q1), .second] [(.int (49 : Int32)), (.long q1)])) _
    refine XS.lushr X0.here hx rfl (hb hby d2_70) rfl ?_
    show Steps p.tables e below (s₁.setTop (mkF m 71 #[.val (.long q1), .second] [(.long ((q1.toUInt64 >>> ((49 : Int32) &&& 0x3f).toInt64.toUInt64).toInt64))])) _
    refine XS.lconst X0.here hx rfl (hb hby d2_71) ?_
    show Steps p.tables e below (s₁.setTop (mkF m 72 #[.val (.long q1), .second] [(.long (0 : Int64)), (.long ((q1.toUInt64 >>> ((49 : Int32) &&& 0x3f).toInt64.toUInt64).toInt64))])) _
    refine XS.lcmp X0.here hx rfl (hb hby d2_72) rfl ?_
    show Steps p.tables e below (s₁.setTop (mkF m 73 #[.val (.long q1), .second] [(.int (lcmpW ((q1.toUInt64 >>> ((49 : Int32) &&& 0x3f).toInt64.toUInt64).toInt64) (0 : Int64)))])) _
    by_cases hc73 : lcmpW (own_shr q1 49) (0 : Int64) = (0 : Int32)
    · rw [show own_exp q1 = 7 from by simp [own_exp, (show ¬ own_shr q1 7 = 0 from fun q => hc6 ((lw_eq _ _).mpr q)), (show ¬ own_shr q1 14 = 0 from fun q => hc17 ((lw_eq _ _).mpr q)), (show ¬ own_shr q1 21 = 0 from fun q => hc28 ((lw_eq _ _).mpr q)), (show ¬ own_shr q1 28 = 0 from fun q => hc39 ((lw_eq _ _).mpr q)), (show ¬ own_shr q1 35 = 0 from fun q => hc50 ((lw_eq _ _).mpr q)), (show ¬ own_shr q1 42 = 0 from fun q => hc61 ((lw_eq _ _).mpr q)), (lw_eq _ _).mp hc73]] at hr
      refine XS.ifNo X0.here hx rfl (hb hby d2_73) rfl ((if0 _ _).trans (teq hc73).2) ?_
      show Steps p.tables e below (s₁.setTop (mkF m 76 #[.val (.long q1), .second] [])) _
      refine XS.bipush X0.here hx rfl (hb hby d2_76) ?_
      show Steps p.tables e below (s₁.setTop (mkF m 78 #[.val (.long q1), .second] [(.int (7 : Int32))])) _
      exact retI X0 hx Bd.returns (hb hby d2_78) hr
    refine XS.ifYes X0.here hx rfl (pc0 := 73) (pc' := 79) rfl (hb hby d2_73) rfl ((if0 _ _).trans (feq hc73).2) (by decide) (by decide) ?_
    show Steps p.tables e below (s₁.setTop (mkF m 79 #[.val (.long q1), .second] [])) _
    refine XS.lloadN X0.here hx rfl (hb hby d2_79) rfl ?_
    show Steps p.tables e below (s₁.setTop (mkF m 80 #[.val (.long q1), .second] [(.long q1)])) _
    refine XS.bipush X0.here hx rfl (hb hby d2_80) ?_
    show Steps p.tables e below (s₁.setTop (mkF m 82 #[.val (.long q1), .second] [(.int (56 : Int32)), (.long q1)])) _
    refine XS.lushr X0.here hx rfl (hb hby d2_82) rfl ?_
    show Steps p.tables e below (s₁.setTop (mkF m 83 #[.val (.long q1), .second] [(.long ((q1.toUInt64 >>> ((56 : Int32) &&& 0x3f).toInt64.toUInt64).toInt64))])) _
    refine XS.lconst X0.here hx rfl (hb hby d2_83) ?_
    show Steps p.tables e below (s₁.setTop (mkF m 84 #[.val (.long q1), .second] [(.long (0 : Int64)), (.long ((q1.toUInt64 >>> ((56 : Int32) &&& 0x3f).toInt64.toUInt64).toInt64))])) _
    refine XS.lcmp X0.here hx rfl (hb hby d2_84) rfl ?_
    show Steps p.tables e below (s₁.setTop (mkF m 85 #[.val (.long q1), .second] [(.int (lcmpW ((q1.toUInt64 >>> ((56 : Int32) &&& 0x3f).toInt64.toUInt64).toInt64) (0 : Int64)))])) _
    by_cases hc85 : lcmpW (own_shr q1 56) (0 : Int64) = (0 : Int32)
    · rw [show own_exp q1 = 8 from by simp [own_exp, (show ¬ own_shr q1 7 = 0 from fun q => hc6 ((lw_eq _ _).mpr q)), (show ¬ own_shr q1 14 = 0 from fun q => hc17 ((lw_eq _ _).mpr q)), (show ¬ own_shr q1 21 = 0 from fun q => hc28 ((lw_eq _ _).mpr q)), (show ¬ own_shr q1 28 = 0 from fun q => hc39 ((lw_eq _ _).mpr q)), (show ¬ own_shr q1 35 = 0 from fun q => hc50 ((lw_eq _ _).mpr q)), (show ¬ own_shr q1 42 = 0 from fun q => hc61 ((lw_eq _ _).mpr q)), (show ¬ own_shr q1 49 = 0 from fun q => hc73 ((lw_eq _ _).mpr q)), (lw_eq _ _).mp hc85]] at hr
      refine XS.ifNo X0.here hx rfl (hb hby d2_85) rfl ((if0 _ _).trans (teq hc85).2) ?_
      show Steps p.tables e below (s₁.setTop (mkF m 88 #[.val (.long q1), .second] [])) _
      refine XS.bipush X0.here hx rfl (hb hby d2_88) ?_
      show Steps p.tables e below (s₁.setTop (mkF m 90 #[.val (.long q1), .second] [(.int (8 : Int32))])) _
      exact retI X0 hx Bd.returns (hb hby d2_90) hr
    refine XS.ifYes X0.here hx rfl (pc0 := 85) (pc' := 91) rfl (hb hby d2_85) rfl ((if0 _ _).trans (feq hc85).2) (by decide) (by decide) ?_
    show Steps p.tables e below (s₁.setTop (mkF m 91 #[.val (.long q1), .second] [])) _
    refine XS.lloadN X0.here hx rfl (hb hby d2_91) rfl ?_
    show Steps p.tables e below (s₁.setTop (mkF m 92 #[.val (.long q1), .second] [(.long q1)])) _
    refine XS.bipush X0.here hx rfl (hb hby d2_92) ?_
    show Steps p.tables e below (s₁.setTop (mkF m 94 #[.val (.long q1), .second] [(.int (63 : Int32)), (.long q1)])) _
    refine XS.lushr X0.here hx rfl (hb hby d2_94) rfl ?_
    show Steps p.tables e below (s₁.setTop (mkF m 95 #[.val (.long q1), .second] [(.long ((q1.toUInt64 >>> ((63 : Int32) &&& 0x3f).toInt64.toUInt64).toInt64))])) _
    refine XS.lconst X0.here hx rfl (hb hby d2_95) ?_
    show Steps p.tables e below (s₁.setTop (mkF m 96 #[.val (.long q1), .second] [(.long (0 : Int64)), (.long ((q1.toUInt64 >>> ((63 : Int32) &&& 0x3f).toInt64.toUInt64).toInt64))])) _
    refine XS.lcmp X0.here hx rfl (hb hby d2_96) rfl ?_
    show Steps p.tables e below (s₁.setTop (mkF m 97 #[.val (.long q1), .second] [(.int (lcmpW ((q1.toUInt64 >>> ((63 : Int32) &&& 0x3f).toInt64.toUInt64).toInt64) (0 : Int64)))])) _
    by_cases hc97 : lcmpW (own_shr q1 63) (0 : Int64) = (0 : Int32)
    · rw [show own_exp q1 = 9 from by simp [own_exp, (show ¬ own_shr q1 7 = 0 from fun q => hc6 ((lw_eq _ _).mpr q)), (show ¬ own_shr q1 14 = 0 from fun q => hc17 ((lw_eq _ _).mpr q)), (show ¬ own_shr q1 21 = 0 from fun q => hc28 ((lw_eq _ _).mpr q)), (show ¬ own_shr q1 28 = 0 from fun q => hc39 ((lw_eq _ _).mpr q)), (show ¬ own_shr q1 35 = 0 from fun q => hc50 ((lw_eq _ _).mpr q)), (show ¬ own_shr q1 42 = 0 from fun q => hc61 ((lw_eq _ _).mpr q)), (show ¬ own_shr q1 49 = 0 from fun q => hc73 ((lw_eq _ _).mpr q)), (show ¬ own_shr q1 56 = 0 from fun q => hc85 ((lw_eq _ _).mpr q)), (lw_eq _ _).mp hc97]] at hr
      refine XS.ifNo X0.here hx rfl (hb hby d2_97) rfl ((if0 _ _).trans (teq hc97).2) ?_
      show Steps p.tables e below (s₁.setTop (mkF m 100 #[.val (.long q1), .second] [])) _
      refine XS.bipush X0.here hx rfl (hb hby d2_100) ?_
      show Steps p.tables e below (s₁.setTop (mkF m 102 #[.val (.long q1), .second] [(.int (9 : Int32))])) _
      exact retI X0 hx Bd.returns (hb hby d2_102) hr
    refine XS.ifYes X0.here hx rfl (pc0 := 97) (pc' := 103) rfl (hb hby d2_97) rfl ((if0 _ _).trans (feq hc97).2) (by decide) (by decide) ?_
    show Steps p.tables e below (s₁.setTop (mkF m 103 #[.val (.long q1), .second] [])) _
    refine XS.bipush X0.here hx rfl (hb hby d2_103) ?_
    show Steps p.tables e below (s₁.setTop (mkF m 105 #[.val (.long q1), .second] [(.int (10 : Int32))])) _
    rw [show own_exp q1 = 10 from by simp [own_exp, (show ¬ own_shr q1 7 = 0 from fun q => hc6 ((lw_eq _ _).mpr q)), (show ¬ own_shr q1 14 = 0 from fun q => hc17 ((lw_eq _ _).mpr q)), (show ¬ own_shr q1 21 = 0 from fun q => hc28 ((lw_eq _ _).mpr q)), (show ¬ own_shr q1 28 = 0 from fun q => hc39 ((lw_eq _ _).mpr q)), (show ¬ own_shr q1 35 = 0 from fun q => hc50 ((lw_eq _ _).mpr q)), (show ¬ own_shr q1 42 = 0 from fun q => hc61 ((lw_eq _ _).mpr q)), (show ¬ own_shr q1 49 = 0 from fun q => hc73 ((lw_eq _ _).mpr q)), (show ¬ own_shr q1 56 = 0 from fun q => hc85 ((lw_eq _ _).mpr q)), (show ¬ own_shr q1 63 = 0 from fun q => hc97 ((lw_eq _ _).mpr q))]] at hr
    exact retI X0 hx Bd.returns (hb hby d2_105) hr
  · show Q2 Z q1 h0 n0 _ s₁.heap _
    rw [e0]
    exact ⟨rfl, N0, rfl⟩
theorem pn_0 : plainName "com/example/attribute_checker/attributechecker/checker/PagedBytesVarintSizePinLaw" = true := by first | (simp [plainName, overriddenIn]; done) | decide +kernel
theorem pd_0_0 : parseMethodDescriptor "(J)I" = some ⟨[.long], some .int⟩ := by decide +kernel
theorem ef_0 (m : MethodId) (x0 : Int64) (x1 : Int32) : entryFrame m #[(.long x0), (.int x1)] maxLocals = mkF m 0 #[.val (.long x0), .second, .val (.int x1), .unset, .unset] [] := by first | (simp [entryFrame, mkF, argsToLocals, Value.category, maxLocals]; done) | rfl
def Q0 (Z : State) (q1 : Int64) (p2 : Int32) (h0 : Heap) (n0 : Nat) (v : Option Value) (h : Heap) (L : List Loc) : Prop := v = some (.int (1 : Int32)) ∧ Fr n0 L
set_option maxRecDepth 65536 in
set_option maxHeartbeats 40000000 in
theorem rm0 (l : Launch) (Z : State) (a0 : Array Value) (hw : ∀ d ∈ tables_1, d.before a0 Z = true) (ws : List Jvm.Cond) (q1 : Int64) (p2 : Int32) (h0 : Heap) (n0 : Nat) (Z0 : n0 ≤ h0.size) :
    MetFree l x (head1 (Jvm.Cond.code x code maxLocals ret :: ws) room_1) (fun a U => a = #[(.long q1), (.int p2)] ∧ Z.Warmed39 U.vm ∧ U.heap = h0) (fun _ _ _ _ _ => True) (fun _ U o U' => ∃ v L, o = .returned v ∧ Q0 Z q1 p2 h0 n0 v U'.heap L ∧ FrameEnd U o U' L room_1.cells room_1.slots) := by
  refine MetFree.of_bodySF (plainFor_of_name pn_0) hisR ?_
  intro p e s m args below meth c s₁ Bd hml0 hP hK
  obtain ⟨rfl, hZ, hh⟩ := hP
  have hx := Bd.exec
  have hby := Bd.bytes
  have hml : c.maxLocals = 5 := hml0
  have hown : s.vm.findClass "com/example/attribute_checker/attributechecker/checker/PagedBytesVarintSizePinLaw" = some m.cls := findClass_of_methodNamed Bd.named
  have hnm := (name_of_methodNamed Bd.named Bd.method).1
  have X0 : Stand p l e room_1 s m #[(.long q1), (.int p2)] below meth c s₁ [] 0 0 := Stand.of_body Bd
  have e0 : s₁.heap = h0 := by rw [← hh, Bd.state]; rfl
  have N0 := Fr.nil n0
  have pre0 : ∀ t, Steps p.tables e below (s₁.setTop (mkF m 0 #[.val (.long q1), .second, .val (.int p2), .unset, .unset] [])) t → Steps p.tables e below (s₁.setTop (entryFrame m #[(.long q1), (.int p2)] maxLocals)) t := fun t k => castTop (ef_0 m q1 p2) k
  obtain ⟨_, _, ⟨T3, L3, k3, n3⟩, -, X3, ⟨Lc3, hQ3, l3, y3, z3⟩, st3⟩ := Jvm.LawKit.callS X0 hx (y := (⟨"com/example/attribute_checker/attributechecker/checker/PagedBytes", "varintSize", "(J)I"⟩ : MethodName)) hown (mvT hZ (hw _ (List.mem_of_getElem? (i := 0) rfl))) (mvT hZ (hw _ (List.mem_of_getElem? (i := 1) rfl))) (mvT hZ (hw _ (List.mem_of_getElem? (i := 2) rfl))) (mvT hZ (hw _ (List.mem_of_getElem? (i := 3) rfl))) (by decide) (backOf (W := 0) (rm1 l Z a0 hw [] ((q1.toUInt64 >>> ((p2 &&& (63 : Int32)) &&& 0x3f).toInt64.toUInt64).toInt64) h0 n0 Z0) hZ (hw _ (List.mem_of_getElem? (i := 3) rfl)) (hw _ (List.mem_of_getElem? (i := 2) rfl)) (by decide) (by decide)) (g := (mkF m 8 #[.val (.long q1), .second, .val (.int p2), .val (.long ((q1.toUInt64 >>> ((p2 &&& (63 : Int32)) &&& 0x3f).toInt64.toUInt64).toInt64)), .second] [(.long ((q1.toUInt64 >>> ((p2 &&& (63 : Int32)) &&& 0x3f).toInt64.toUInt64).toInt64))])) rfl (by rw [hml]; rfl) (argsL := [(.long ((q1.toUInt64 >>> ((p2 &&& (63 : Int32)) &&& 0x3f).toInt64.toUInt64).toInt64))]) (rest := []) (lenOf pd_0_0 rfl) rfl (by show 2 * 0 + _ ≤ _; exact Nat.le_of_eq rfl) (hb hby at_8) (fun _ _ => ⟨rfl, e0, (by decide : 0 + 0 ≤ _), (by decide : 0 + 0 ≤ _)⟩)
  dsimp only [Pt.U, Pt.locs, Pt.cells, Pt.slots] at X3 l3 y3 z3 st3 hQ3
  subst l3 y3 z3
  obtain ⟨rfl, N3q, e3⟩ := hQ3
  have N3 := Fr.app N0 N3q
  obtain ⟨_, _, ⟨T4, L4, k4, n4⟩, -, X4, ⟨Lc4, hQ4, l4, y4, z4⟩, st4⟩ := Jvm.LawKit.callS X3 hx (y := (⟨"com/example/attribute_checker/attributechecker/checker/PagedBytesVarintSizePinLaw", "expected", "(J)I"⟩ : MethodName)) hown (mvT hZ (hw _ (List.mem_of_getElem? (i := 4) rfl))) (mvT hZ (hw _ (List.mem_of_getElem? (i := 5) rfl))) (mvT hZ (hw _ (List.mem_of_getElem? (i := 6) rfl))) (mvT hZ (hw _ (List.mem_of_getElem? (i := 7) rfl))) (by decide) (backOf (W := 1) (rm2 l Z a0 hw [] ((q1.toUInt64 >>> ((p2 &&& (63 : Int32)) &&& 0x3f).toInt64.toUInt64).toInt64) T3.heap n0 (by rw [e3]; exact Z0)) hZ (hw _ (List.mem_of_getElem? (i := 7) rfl)) (hw _ (List.mem_of_getElem? (i := 6) rfl)) (by decide) (by decide)) (g := (mkF m 12 #[.val (.long q1), .second, .val (.int p2), .val (.long ((q1.toUInt64 >>> ((p2 &&& (63 : Int32)) &&& 0x3f).toInt64.toUInt64).toInt64)), .second] [(.long ((q1.toUInt64 >>> ((p2 &&& (63 : Int32)) &&& 0x3f).toInt64.toUInt64).toInt64)), (.int (own_cnt 9 (own_shr ((q1.toUInt64 >>> ((p2 &&& (63 : Int32)) &&& 0x3f).toInt64.toUInt64).toInt64) 7) 1))])) rfl (by rw [hml]; rfl) (argsL := [(.long ((q1.toUInt64 >>> ((p2 &&& (63 : Int32)) &&& 0x3f).toInt64.toUInt64).toInt64))]) (rest := [(.int (own_cnt 9 (own_shr ((q1.toUInt64 >>> ((p2 &&& (63 : Int32)) &&& 0x3f).toInt64.toUInt64).toInt64) 7) 1))]) (lenOf pd_0_0 rfl) rfl (by show 2 * 0 + _ ≤ _; exact Nat.le_of_eq rfl) (hb hby at_12) (fun _ _ => ⟨rfl, rfl, (by decide : 0 + 0 ≤ _), (by decide : 0 + 0 ≤ _)⟩)
  dsimp only [Pt.U, Pt.locs, Pt.cells, Pt.slots] at X4 l4 y4 z4 st4 hQ4
  subst l4 y4 z4
  obtain ⟨rfl, N4q, e4⟩ := hQ4
  have N4 := Fr.app N3 N4q
  obtain ⟨fs, hr, hrun, hended, hW, hsame⟩ := X4.leave (v := some (.int (1 : Int32))) (fun h => by rw [Bd.returns] at h; cases h)
  refine ⟨_, _, pre0 _ ?_, hrun, hended, _, _, rfl, ?_, ⟨_, rfl⟩, hW, hsame.mono (by decide) (by decide)⟩
  · show Steps p.tables e below (s₁.setTop (mkF m 0 #[.val (.long q1), .second, .val (.int p2), .unset, .unset] [])) _
    refine XS.lloadN X0.here hx rfl (hb hby at_0) rfl ?_
    show Steps p.tables e below (s₁.setTop (mkF m 1 #[.val (.long q1), .second, .val (.int p2), .unset, .unset] [(.long q1)])) _
    refine XS.iloadN X0.here hx rfl (hb hby at_1) rfl ?_
    show Steps p.tables e below (s₁.setTop (mkF m 2 #[.val (.long q1), .second, .val (.int p2), .unset, .unset] [(.int p2), (.long q1)])) _
    refine XS.bipush X0.here hx rfl (hb hby at_2) ?_
    show Steps p.tables e below (s₁.setTop (mkF m 4 #[.val (.long q1), .second, .val (.int p2), .unset, .unset] [(.int (63 : Int32)), (.int p2), (.long q1)])) _
    refine XS.iand X0.here hx rfl (hb hby at_4) rfl ?_
    show Steps p.tables e below (s₁.setTop (mkF m 5 #[.val (.long q1), .second, .val (.int p2), .unset, .unset] [(.int (p2 &&& (63 : Int32))), (.long q1)])) _
    refine XS.lushr X0.here hx rfl (hb hby at_5) rfl ?_
    show Steps p.tables e below (s₁.setTop (mkF m 6 #[.val (.long q1), .second, .val (.int p2), .unset, .unset] [(.long ((q1.toUInt64 >>> ((p2 &&& (63 : Int32)) &&& 0x3f).toInt64.toUInt64).toInt64))])) _
    refine XS.lstoreN X0.here hx rfl (hb hby at_6) rfl (l' := #[.val (.long q1), .second, .val (.int p2), .val (.long ((q1.toUInt64 >>> ((p2 &&& (63 : Int32)) &&& 0x3f).toInt64.toUInt64).toInt64)), .second]) rfl ?_
    show Steps p.tables e below (s₁.setTop (mkF m 7 #[.val (.long q1), .second, .val (.int p2), .val (.long ((q1.toUInt64 >>> ((p2 &&& (63 : Int32)) &&& 0x3f).toInt64.toUInt64).toInt64)), .second] [])) _
    refine XS.lloadN X0.here hx rfl (hb hby at_7) rfl ?_
    show Steps p.tables e below (s₁.setTop (mkF m 8 #[.val (.long q1), .second, .val (.int p2), .val (.long ((q1.toUInt64 >>> ((p2 &&& (63 : Int32)) &&& 0x3f).toInt64.toUInt64).toInt64)), .second] [(.long ((q1.toUInt64 >>> ((p2 &&& (63 : Int32)) &&& 0x3f).toInt64.toUInt64).toInt64))])) _
    refine st3 _ ?_
    show Steps p.tables e below (T3.setTop (mkF m 11 #[.val (.long q1), .second, .val (.int p2), .val (.long ((q1.toUInt64 >>> ((p2 &&& (63 : Int32)) &&& 0x3f).toInt64.toUInt64).toInt64)), .second] [(.int (own_cnt 9 (own_shr ((q1.toUInt64 >>> ((p2 &&& (63 : Int32)) &&& 0x3f).toInt64.toUInt64).toInt64) 7) 1))])) _
    refine XS.lloadN X3.here hx rfl (hb hby at_11) rfl ?_
    show Steps p.tables e below (T3.setTop (mkF m 12 #[.val (.long q1), .second, .val (.int p2), .val (.long ((q1.toUInt64 >>> ((p2 &&& (63 : Int32)) &&& 0x3f).toInt64.toUInt64).toInt64)), .second] [(.long ((q1.toUInt64 >>> ((p2 &&& (63 : Int32)) &&& 0x3f).toInt64.toUInt64).toInt64)), (.int (own_cnt 9 (own_shr ((q1.toUInt64 >>> ((p2 &&& (63 : Int32)) &&& 0x3f).toInt64.toUInt64).toInt64) 7) 1))])) _
    refine st4 _ ?_
    show Steps p.tables e below (T4.setTop (mkF m 15 #[.val (.long q1), .second, .val (.int p2), .val (.long ((q1.toUInt64 >>> ((p2 &&& (63 : Int32)) &&& 0x3f).toInt64.toUInt64).toInt64)), .second] [(.int (own_exp ((q1.toUInt64 >>> ((p2 &&& (63 : Int32)) &&& 0x3f).toInt64.toUInt64).toInt64))), (.int (own_cnt 9 (own_shr ((q1.toUInt64 >>> ((p2 &&& (63 : Int32)) &&& 0x3f).toInt64.toUInt64).toInt64) 7) 1))])) _
    refine XS.icmpNo X4.here hx rfl (hb hby at_15) rfl (teq (own_law _ : (own_cnt 9 (own_shr ((q1.toUInt64 >>> ((p2 &&& (63 : Int32)) &&& 0x3f).toInt64.toUInt64).toInt64) 7) 1) = (own_exp ((q1.toUInt64 >>> ((p2 &&& (63 : Int32)) &&& 0x3f).toInt64.toUInt64).toInt64)))).2 ?_
    show Steps p.tables e below (T4.setTop (mkF m 18 #[.val (.long q1), .second, .val (.int p2), .val (.long ((q1.toUInt64 >>> ((p2 &&& (63 : Int32)) &&& 0x3f).toInt64.toUInt64).toInt64)), .second] [])) _
    refine XS.iconst X4.here hx rfl (hb hby at_18) ?_
    show Steps p.tables e below (T4.setTop (mkF m 19 #[.val (.long q1), .second, .val (.int p2), .val (.long ((q1.toUInt64 >>> ((p2 &&& (63 : Int32)) &&& 0x3f).toInt64.toUInt64).toInt64)), .second] [(.int (1 : Int32))])) _
    refine XS.goto X4.here hx rfl (pc0 := 19) (pc' := 23) rfl (hb hby at_19) (by decide) (by decide) ?_
    show Steps p.tables e below (T4.setTop (mkF m 23 #[.val (.long q1), .second, .val (.int p2), .val (.long ((q1.toUInt64 >>> ((p2 &&& (63 : Int32)) &&& 0x3f).toInt64.toUInt64).toInt64)), .second] [(.int (1 : Int32))])) _
    exact retN X4 hx (t := .boolean) Bd.returns (by simp) (hb hby at_23) hr
  · show Q0 Z q1 p2 h0 n0 _ T4.heap _
    exact ⟨rfl, N4⟩
set_option maxRecDepth 65536 in
set_option maxHeartbeats 40000000 in
theorem comes_1 {Post : Tables → Env → Array Value → State → Outcome → State → Prop} (hpost : ∀ tb e args s v u, (limb_1_1.after args s (.returned v) u = true ∧ limb_1_2.after args s (.returned v) u = true ∧ True) → FrameEnd s (.returned v) u (Jvm.fieldLocs frame_1_writes args s ++ Jvm.arrayLocs frame_1_arrays args s ++ Jvm.staticLocs frame_1_statics s) 0 0 → Post tb e args s (.returned v) u) :
    ArmFor flags0 classFile x code maxLocals ret World_1 tables_1 room_1 Calls_1 rest_1 Pre_1 Post := by
  intro l hfl _ _ p e ha hc hk s m args below hf hA hF happ hP
  obtain ⟨hcalls, hrest, hpre⟩ := hP
  obtain ⟨-, -, -, hnamed, -, -, -, hat⟩ := (Spec.applies_iff hf).mp happ
  obtain ⟨hg, hn⟩ := and_e (Cond.before_iff.mp (show (Jvm.Cond.and given_1 narrow_1).before args s = true from hpre))
  obtain ⟨g5, g6⟩ := and_e hg
  obtain ⟨g7, g8⟩ := and_e g6
  obtain ⟨w0, w1, rfl⟩ : ∃ w0 w1 : Value, args = #[w0, w1] := by
    have hs : args.size = 2 := by simpa [Cond.value, given_1] using g5
    obtain ⟨L⟩ := args
    match L, hs with
    | [w0, w1], _ => exact ⟨w0, w1, rfl⟩
  have hw := fun d (hd : d ∈ tables_1) => atoms_spec (ws := Jvm.Cond.code x code maxLocals ret :: tables_1) hat d (List.mem_cons_of_mem _ hd)
  have hfit : Fit s := fun {y c} hc i hi => by
    obtain ⟨ha, rfl⟩ := Array.getElem?_eq_some_iff.mp hc
    have q := List.all_eq_true.mp ((Array.all_eq_true_iff_forall_mem.mp hF) _ (Array.getElem_mem ha)) i (List.mem_range.mpr hi)
    simpa [Array.getElem?_eq_getElem hi] using q
  obtain ⟨i0, ei0⟩ := isL_v g7
  obtain rfl : w0 = (.long i0) := Option.some.inj ei0
  obtain ⟨i1, ei1⟩ := is_v g8
  obtain rfl : w1 = (.int i1) := Option.some.inj ei1
  obtain ⟨n, o, h1, h2, h3, _, L, rfl, ⟨rfl, N⟩, hq⟩ := rm0 l s _ hw tables_1 i0 i1 s.heap s.heap.size (Nat.le_refl _) p e ha hc hk s m _ below hf ((Spec.applies_iff_loose hf).mp happ).1 ⟨rfl, State.Warmed39.refl s, rfl⟩ trivial
  refine ⟨n, _, h1, h2, h3, hpost _ _ _ _ _ _ ⟨Cond.after_iff.mpr rfl, Cond.after_iff.mpr (eq_i res_at (Term.int_eval (1)) rfl), trivial⟩ ⟨hq.1, hq.2.1, (hq.2.2.sift fun y hy => Or.inr (N y hy)).mono (by decide) (by decide)⟩⟩
theorem main_1_1 : Claimed_1_1 := comes_1 fun _ _ _ _ _ _ h hF => ⟨h.1, hF⟩
theorem main_1_2 : Claimed_1_2 := comes_1 fun _ _ _ _ _ _ h hF => ⟨h.2.1, hF⟩
end Jvm.Pilot.@@N@@
namespace Jvm.Pilot.@@N@@
open Jvm Jvm.ClassFile Sem Op Lib Jvm.Free Jvm.Stand Jvm.Pilot.@@N@@.Jvm.D
/-! MADE BY PROGRAM (witnessworld.py) out of the Statement's table words and the real class files: 7 classes; the members and pool entries that the words name. The judged class is class 1, her method 2. -/
namespace start1
open Jvm.ClassFile
def u (s : String) : CpInfo := .utf8 (stringToUtf16 s)
/-- a pool by its gaps: so many unusable entries, then the entry; so many at the end -/
def gap : Nat → List CpInfo → List CpInfo
  | 0, r => r
  | n + 1, r => .unusable :: gap n r
def poolList (es : List (Nat × CpInfo)) (last : Nat) : List CpInfo := es.foldr (fun e r => gap e.1 (e.2 :: r)) (gap last [])
def pool (es : List (Nat × CpInfo)) (last : Nat) : Array CpInfo := ⟨poolList es last⟩
def fileOf (pool : Array CpInfo) (this : Nat) (attrs : Array Attribute := #[]) (ms : Array MethodInfo := #[]) (fl : Nat := 33) (sup : Nat := 0) (ifs : Array Nat := #[]) (fds : Array FieldInfo := #[]) : ClassFile where
  minorVersion := 0
  majorVersion := 65
  constantPool := pool
  accessFlags := fl
  thisClass := this
  superClass := sup
  interfaces := ifs
  fields := fds
  methods := ms
  attributes := attrs
def plain (name : String) (sup : Option ClassId) : Class where
  name := name
  kind := .ordinary
  loader := none
  accessFlags := 33
  super := sup
  interfaces := #[]
  cf := none
  fields := #[]
  methods := #[]
  instanceTypes := #[]
  staticTypes := #[]
  resolved := #[]
  callSites := []
  init := .initialized
  statics := none
  mirror := none

def pool0 : Array CpInfo := pool [(5, u "<init>"), (0, u "()V"), (1, .class_ 10), (1, u "java/lang/Object")] 113

def k0m0 : Method := { name := "<init>", desc := "()V", sig := { parameters := [], returnType := none }, accessFlags := 1, code := none }
/-- java/lang/Object -/
def k0 : Class := { plain "java/lang/Object" none with
  accessFlags := 33
  interfaces := #[]
  cf := some (fileOf pool0 8 #[] #[{ accessFlags := 1, nameIndex := 5, descriptorIndex := 6, attributes := #[] }] 33 0 #[] #[])
  fields := #[]
  methods := #[k0m0]
  instanceTypes := #[]
  staticTypes := #[]
  resolved := Array.replicate 124 none
  statics := none }

def pool1 : Array CpInfo := pool [(2, .class_ 4), (1, u "java/lang/Object"), (0, u "<init>"), (0, u "()V"), (0, .methodref 8 9), (0, .class_ 10), (0, .nameAndType 11 12), (0, u "com/example/attribute_checker/attributechecker/checker/PagedBytes"), (0, u "varintSize"), (0, u "(J)I"), (0, .methodref 14 15), (0, .class_ 16), (0, .nameAndType 17 12), (0, u "com/example/attribute_checker/attributechecker/checker/PagedBytesVarintSizePinLaw"), (0, u "expected"), (3, u "law"), (0, u "(JI)Z")] 2

def k1m0 : Method := { name := "<init>", desc := "()V", sig := { parameters := [], returnType := none }, accessFlags := 2, code := none }
def k1c1 : Code := { maxStack := 4, maxLocals := 2, code := method_2_code, exceptionTable := #[], attributes := #[] }
def k1m1 : Method := { name := "expected", desc := "(J)I", sig := { parameters := [.long], returnType := some .int }, accessFlags := 10, code := some k1c1 }
def k1c2 : Code := { maxStack := 4, maxLocals := 5, code := code, exceptionTable := #[], attributes := #[] }
def k1m2 : Method := { name := "law", desc := "(JI)Z", sig := { parameters := [.long, .int], returnType := some .boolean }, accessFlags := 9, code := some k1c2 }
/-- com/example/attribute_checker/attributechecker/checker/PagedBytesVarintSizePinLaw -/
def k1 : Class := { plain "com/example/attribute_checker/attributechecker/checker/PagedBytesVarintSizePinLaw" (some 0) with
  accessFlags := 49
  interfaces := #[]
  cf := some (fileOf pool1 14 #[] #[{ accessFlags := 2, nameIndex := 5, descriptorIndex := 6, attributes := #[] }, { accessFlags := 10, nameIndex := 17, descriptorIndex := 12, attributes := #[] }, { accessFlags := 9, nameIndex := 21, descriptorIndex := 22, attributes := #[] }] 49 2 #[] #[])
  fields := #[]
  methods := #[k1m0, k1m1, k1m2]
  instanceTypes := #[]
  staticTypes := #[]
  resolved := Array.replicate 25 none
  statics := none }

def pool2 : Array CpInfo := pool [(1, .class_ 2), (0, u "com/example/attribute_checker/attributechecker/checker/PagedBytes"), (1, .class_ 6), (1, u "java/lang/Object"), (0, u "<init>"), (0, u "()V"), (4, u "pages"), (0, u "[[B"), (2, u "size"), (0, u "I"), (48, u "PAGE_BITS"), (2, u "PAGE_SIZE"), (0, u "PAGE_MASK"), (0, u "FIRST_PAGE_SIZE"), (13, u "varintSize"), (0, u "(J)I")] 4

def k2m0 : Method := { name := "<init>", desc := "()V", sig := { parameters := [], returnType := none }, accessFlags := 0, code := none }
def k2c1 : Code := { maxStack := 4, maxLocals := 5, code := prog_13_method_9_code, exceptionTable := #[], attributes := #[] }
def k2m1 : Method := { name := "varintSize", desc := "(J)I", sig := { parameters := [.long], returnType := some .int }, accessFlags := 8, code := some k2c1 }
/-- com/example/attribute_checker/attributechecker/checker/PagedBytes -/
def k2 : Class := { plain "com/example/attribute_checker/attributechecker/checker/PagedBytes" (some 0) with
  accessFlags := 48
  interfaces := #[]
  cf := some (fileOf pool2 1 #[] #[{ accessFlags := 0, nameIndex := 7, descriptorIndex := 8, attributes := #[] }, { accessFlags := 8, nameIndex := 86, descriptorIndex := 87, attributes := #[] }] 48 4 #[] #[{ accessFlags := 26, nameIndex := 67, descriptorIndex := 18, attributes := #[] }, { accessFlags := 26, nameIndex := 70, descriptorIndex := 18, attributes := #[] }, { accessFlags := 26, nameIndex := 71, descriptorIndex := 18, attributes := #[] }, { accessFlags := 26, nameIndex := 72, descriptorIndex := 18, attributes := #[] }, { accessFlags := 2, nameIndex := 13, descriptorIndex := 14, attributes := #[] }, { accessFlags := 2, nameIndex := 17, descriptorIndex := 18, attributes := #[] }])
  fields := #[{ name := "PAGE_BITS", type := .int, accessFlags := 26, slot := 0, constantValue := 0 }, { name := "PAGE_SIZE", type := .int, accessFlags := 26, slot := 1, constantValue := 0 }, { name := "PAGE_MASK", type := .int, accessFlags := 26, slot := 2, constantValue := 0 }, { name := "FIRST_PAGE_SIZE", type := .int, accessFlags := 26, slot := 3, constantValue := 0 }, { name := "pages", type := (.array (.array .byte)), accessFlags := 2, slot := 0, constantValue := 0 }, { name := "size", type := .int, accessFlags := 2, slot := 1, constantValue := 0 }]
  methods := #[k2m0, k2m1]
  instanceTypes := #[(.array (.array .byte)), .int]
  staticTypes := #[.int, .int, .int, .int]
  resolved := Array.replicate 92 none
  statics := none }

def pool3 : Array CpInfo := pool [(1, u "java/lang/Cloneable"), (0, .class_ 1), (0, u "java/lang/Object"), (0, .class_ 3)] 3

/-- java/lang/Cloneable -/
def k3 : Class := { plain "java/lang/Cloneable" (some 0) with
  accessFlags := 1537
  interfaces := #[]
  cf := some (fileOf pool3 2 #[] #[] 1537 4 #[] #[])
  fields := #[]
  methods := #[]
  instanceTypes := #[]
  staticTypes := #[]
  resolved := Array.replicate 8 none
  statics := none }

def pool4 : Array CpInfo := pool [(1, u "java/io/Serializable"), (0, .class_ 1), (0, u "java/lang/Object"), (0, .class_ 3)] 3

/-- java/io/Serializable -/
def k4 : Class := { plain "java/io/Serializable" (some 0) with
  accessFlags := 1537
  interfaces := #[]
  cf := some (fileOf pool4 2 #[] #[] 1537 4 #[] #[])
  fields := #[]
  methods := #[]
  instanceTypes := #[]
  staticTypes := #[]
  resolved := Array.replicate 8 none
  statics := none }

/-- the primitive byte -/
def k5 : Class := { plain "byte" none with kind := .primitive 'B', accessFlags := 0x411 }
/-- [B -/
def k6 : Class := { plain "[B" (some 0) with kind := .array 5 .byte, interfaces := #[3, 4], accessFlags := 1041 }

def heap : Heap := #[]
def classes : Array Class := #[k0, k1, k2, k3, k4, k5, k6]
def interned : List (Array UInt16 × Addr) := []
def slotsUsed : Nat := 0
def theMethod : MethodId := ⟨1, 2⟩
def args0 : Array Value := #[.long 300, .int 3]
def aboutOver (below : List Frame) : State where
  vm := { classes := classes, interned := interned.toArray }
  heap := heap
  slotsUsed := slotsUsed
  threads := #[{ frames := .invoking theMethod args0 :: below }]
def below0 : List Frame := [.native { method := ⟨0, 0⟩, args := #[] }]
def about1 : State := aboutOver below0
def p0 : Program := .bare "" "" ""
def e0 : Env := launch0.env 0 0 0
theorem w_frames : about1.frames = Frame.invoking theMethod args0 :: below0 := rfl
set_option maxRecDepth 65536 in
theorem w_args : argsFit about1.vm theMethod args0 = true := by decide +kernel
set_option maxRecDepth 65536 in
theorem w_heap : heapFits about1 = true := by decide +kernel
set_option maxRecDepth 65536 in
theorem w_runnable : about1.curStatus? = some .runnable := by decide +kernel
set_option maxRecDepth 65536 in
theorem w_alone : about1.alone = true := by decide +kernel
set_option maxRecDepth 65536 in
theorem w_named : about1.methodNamed? x = some theMethod := by decide +kernel
set_option maxRecDepth 65536 in
theorem w_hears : about1.hears theMethod below0 = true := by decide +kernel
set_option maxRecDepth 65536 in
theorem w_ripe : about1.ripe theMethod args0 below0 = true := by decide +kernel
theorem w_running : about1.status = .running := rfl
set_option maxRecDepth 65536 in
theorem w_room : about1.hasRoom e0.platform room_1 = true :=
  launch0.hasRoom_least _ room_1 (by decide +kernel) (by decide +kernel) (by decide +kernel) (by decide +kernel) (by decide +kernel) (by decide +kernel)
theorem allAtoms_all (ts : List Jvm.Cond) (a : Array Jvm.Value) (st : Jvm.State) : (allAtoms ts).before a st = ts.all (fun c => c.before a st) := by
  induction ts with
  | nil => rfl
  | cons c t ih =>
    show (Jvm.Cond.and c (allAtoms t)).before a st = _
    rw [Jvm.Cond.before_and, ih, List.all_cons]
def words1 : List Jvm.Cond := Jvm.Cond.code x code maxLocals ret :: tables_1
/-- a 'code' word, met by the world's own term for the bytes: nothing is compared byte by byte -/
theorem code_word {y : MethodName} {bytes : ByteArray} {mx : Nat} {rt : Option FieldType} {a : Array Value} {s : State} {m : MethodId} {meth : Method} {c : Code} (h1 : s.methodNamed? y = some m) (h2 : s.vm.method? m = some meth) (h3 : meth.code = some c) (h4 : c.code = bytes)
    (h5 : (c.maxLocals == mx && c.exceptionTable.isEmpty && decide (c.maxStack ≤ mostOperands) && decide (meth.sig.returnType = rt) && !meth.locks && decide (parseMethodDescriptor y.desc = some meth.sig)) = true) : (Jvm.Cond.code y bytes mx rt).before a s = true := by
  simp only [Bool.and_eq_true, beq_iff_eq, Bool.not_eq_true', decide_eq_true_eq] at h5
  obtain ⟨⟨⟨⟨⟨g1, g2⟩, g3⟩, g4⟩, g5⟩, g6⟩ := h5
  simp [Cond.before, Cond.holds, Cond.value, h1, h2, h3, h4, g1, g2, g3, g4, g5, g6]
def isCode : Jvm.Cond → Bool
  | .code _ _ _ _ => true
  | _ => false
theorem all_split {L : List Jvm.Cond} {P : Jvm.Cond → Bool} (h1 : L.all (fun c => isCode c || P c) = true) (h2 : ∀ c ∈ L.filter isCode, P c = true) : L.all P = true := by
  refine List.all_eq_true.mpr fun c hc => ?_
  have h := List.all_eq_true.mp h1 c hc
  rcases Bool.eq_false_or_eq_true (isCode c) with hi | hi
  · exact h2 c (List.mem_filter.mpr ⟨hc, hi⟩)
  · simpa [hi] using h
set_option maxRecDepth 65536 in
theorem w_c0 : (Jvm.Cond.code x code maxLocals ret).before args0 about1 = true := code_word (m := ⟨1, 2⟩) (meth := k1m2) (c := k1c2) (by decide +kernel) rfl rfl rfl (by decide +kernel)
set_option maxRecDepth 65536 in
theorem w_c1 : (Jvm.Cond.code ({ cls := "com/example/attribute_checker/attributechecker/checker/PagedBytes", name := "varintSize", desc := "(J)I" } : Jvm.MethodName) prog_13_method_9_code (5 : Nat) (Option.some Jvm.ClassFile.FieldType.int)).before args0 about1 = true := code_word (m := ⟨2, 1⟩) (meth := k2m1) (c := k2c1) (by decide +kernel) rfl rfl rfl (by decide +kernel)
set_option maxRecDepth 65536 in
theorem w_c2 : (Jvm.Cond.code ({ cls := "com/example/attribute_checker/attributechecker/checker/PagedBytesVarintSizePinLaw", name := "expected", desc := "(J)I" } : Jvm.MethodName) method_2_code (2 : Nat) (Option.some Jvm.ClassFile.FieldType.int)).before args0 about1 = true := code_word (m := ⟨1, 1⟩) (meth := k1m1) (c := k1c1) (by decide +kernel) rfl rfl rfl (by decide +kernel)
def codes1 : List Jvm.Cond := [Jvm.Cond.code x code maxLocals ret, Jvm.Cond.code ({ cls := "com/example/attribute_checker/attributechecker/checker/PagedBytes", name := "varintSize", desc := "(J)I" } : Jvm.MethodName) prog_13_method_9_code (5 : Nat) (Option.some Jvm.ClassFile.FieldType.int), Jvm.Cond.code ({ cls := "com/example/attribute_checker/attributechecker/checker/PagedBytesVarintSizePinLaw", name := "expected", desc := "(J)I" } : Jvm.MethodName) method_2_code (2 : Nat) (Option.some Jvm.ClassFile.FieldType.int)]
set_option maxRecDepth 65536 in
theorem codes_eq : words1.filter isCode = codes1 := rfl
theorem w_codes : ∀ c ∈ words1.filter isCode, c.before args0 about1 = true := by
  rw [codes_eq]
  intro c hc
  simp only [codes1, List.mem_cons, List.not_mem_nil, or_false] at hc
  rcases hc with rfl | rfl | rfl
  · exact w_c0
  · exact w_c1
  · exact w_c2
set_option maxRecDepth 65536 in
theorem w_t1 : words1.all (fun c => isCode c || c.before args0 about1) = true := by decide +kernel
theorem w_tables : (allAtoms (Jvm.Cond.code x code maxLocals ret :: tables_1)).before args0 about1 = true := by
  rw [allAtoms_all]
  show words1.all (fun c => c.before args0 about1) = true
  refine all_split ?_ w_codes
  rw [w_t1]
set_option maxRecDepth 65536 in
theorem w_case : (Jvm.Cond.and given_1 narrow_1).before args0 about1 = true := by decide +kernel
theorem w_applies : (headSpec (Jvm.Cond.code x code maxLocals ret :: tables_1) room_1).applies x e0.platform about1 = true :=
  (Spec.applies_iff w_frames).mpr ⟨w_running, w_runnable, w_alone, w_named, w_hears, w_ripe, w_room, w_tables⟩
theorem atStart : AtStart classFile x code maxLocals ret World_1 tables_1 room_1 Calls_1 rest_1 Pre_1 launch0 p0 e0 about1 theMethod args0 below0 :=
  ⟨lists_1, trivial, launch0.admits_env _ _ _, launch0.least_env, fairChoices_fair.cas, fairChoices_fair.clock, w_frames, w_args, w_heap, w_applies, trivial, trivial, w_case⟩
end start1
theorem witness_1 : WitnessClaimed_1 := ⟨start1.p0, start1.e0, start1.about1, start1.theMethod, start1.args0, start1.below0, start1.atStart⟩
end Jvm.Pilot.@@N@@
