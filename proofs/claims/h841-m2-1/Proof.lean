import JvmDerived
import JvmDerived.Pilot.@@N@@Statement
import JvmDerived.Pilot.@@N@@Code
set_option linter.unusedVariables false
set_option linter.unusedSimpArgs false
@@BLOCK:NumsL.lean.txt@@
namespace Jvm.RoadKit
open Sem ClassFile Op Lib Jvm.Stand Jvm.Free Jvm.LawKit
section New
variable {p : Program} {l : Launch} {e : Env} {R : Room} {s : State} {m : MethodId} {args : Array Value} {below : List Frame} {meth : Method} {c : Code} {T : State} {locs : List Loc} {cells slots : Nat}
theorem retI (X : Stand p l e R s m args below meth c T locs cells slots) (hx : p.tables.exec = Jvm.exec) {pc : Nat} {Ls : Array Slot} {z : Int32} {rest : List Value} (hret : meth.sig.returnType = some .int) (hd : decode c.code pc = .ok (.ireturn, 1)) {fs : List Frame}
    (hl : ∀ (f : JFrame) (acts : List Action), f.method = m → f.locked = none → f.entered = [] → (doReturn e (T.setTop f) acts (some (.int z))).1 = T.setFrames fs) : Steps p.tables e below (T.setTop (mkF m pc Ls (.int z :: rest))) (T.setFrames fs) := by
  have hm' : T.vm.method? m = some meth := X.method'
  have hn : narrow .int (.int z) = .int z := rfl
  show Steps p.tables e below (T.setTop { method := m, pc := pc, locals := Ls, stack := _ :: rest, locked := none }) _
  jvm_step X.here [X.here.top, hx, hd, hm', hret, hn]
  first | (intro acts; rw [hl _ acts rfl rfl rfl]) | rw [hl _ _ rfl rfl rfl]
  exact Steps.refl _
def own_irem (x y : Int32) : Int32 := x - x / y * y
def own_lrem (x y : Int64) : Int64 := x - x / y * y
theorem own_retZ (X : Stand p l e R s m args below meth c T locs cells slots) (hx : p.tables.exec = Jvm.exec) {pc : Nat} {Ls : Array Slot} {z : Int32} {rest : List Value} (hret : meth.sig.returnType = some .boolean) (hz : z &&& 1 = z) (hd : decode c.code pc = .ok (.ireturn, 1)) {fs : List Frame}
    (hl : ∀ (f : JFrame) (acts : List Action), f.method = m → f.locked = none → f.entered = [] → (doReturn e (T.setTop f) acts (some (.int z))).1 = T.setFrames fs) : Steps p.tables e below (T.setTop (mkF m pc Ls (.int z :: rest))) (T.setFrames fs) :=
  retN X hx (t := .boolean) hret (by simp) hd (by rw [show nar .boolean z = z from hz]; exact hl)
theorem own_ite_bool {q : Prop} [Decidable q] {a b : Int32} (ha : a &&& 1 = a) (hb : b &&& 1 = b) : (if q then a else b) &&& 1 = (if q then a else b) := by split <;> assumption
theorem own_retJ (X : Stand p l e R s m args below meth c T locs cells slots) (hx : p.tables.exec = Jvm.exec) {pc : Nat} {Ls : Array Slot} {z : Int64} {rest : List Value} (hret : meth.sig.returnType = some .long) (hd : decode c.code pc = .ok (.lreturn, 1)) {fs : List Frame}
    (hl : ∀ (f : JFrame) (acts : List Action), f.method = m → f.locked = none → f.entered = [] → (doReturn e (T.setTop f) acts (some (.long z))).1 = T.setFrames fs) : Steps p.tables e below (T.setTop (mkF m pc Ls (.long z :: rest))) (T.setFrames fs) := by
  have hm' : T.vm.method? m = some meth := X.method'
  show Steps p.tables e below (T.setTop { method := m, pc := pc, locals := Ls, stack := _ :: rest, locked := none }) _
  jvm_step X.here [X.here.top, hx, hd, hm', hret, narrow]
  first | (intro acts; rw [hl _ acts rfl rfl rfl]) | rw [hl _ _ rfl rfl rfl]
  exact Steps.refl _
/-- the run goes from here to a state of which P holds -/
def own_Goes (tb : Tables) (e : Env) (below : List Frame) (P : State → Prop) (T : State) (f : JFrame) : Prop :=
  ∃ u, P u ∧ ∀ t, Steps tb e below u t → Steps tb e below (T.setTop f) t
theorem own_go {tb : Tables} {P : State → Prop} {T T' : State} {f f' : JFrame} (k : own_Goes tb e below P T' f') (h : ∀ t, Steps tb e below (T'.setTop f') t → Steps tb e below (T.setTop f) t) : own_Goes tb e below P T f := by
  obtain ⟨u, hu, hk⟩ := k
  exact ⟨u, hu, fun t q => h t (hk t q)⟩
theorem own_out {tb : Tables} {Q : Outcome → State → Prop} {T : State} {f : JFrame} (k : own_Goes tb e below (fun u => ∃ o, u.status = .running ∧ Ended u below o ∧ Q o u) T f) :
    ∃ s₂ o, Steps tb e below (T.setTop f) s₂ ∧ s₂.status = .running ∧ Ended s₂ below o ∧ Q o s₂ := by
  obtain ⟨u, ⟨o, h1, h2, h3⟩, hk⟩ := k
  exact ⟨u, o, hk u (Steps.refl _), h1, h2, h3⟩
theorem own_lsw {tb : Tables} [Ours tb] {T target : State} {g : JFrame} (h : At T m c below) (hx : tb.exec = Jvm.exec) (hg : g.method = m) {dflt : Int} {pairs : Array (Int × Int)} {len : Nat} {o : Int} {pc0 pc' : Nat} (hpc : g.pc = pc0) (hd : decode c.code g.pc = .ok (.lookupswitch dflt pairs, len)) {i : Int32} {rest : List Value} (hs : g.stack = .int i :: rest)
    (hord : (pairs.toList.zip (pairs.toList.drop 1)).all (fun (a, next) => a.1 < next.1) = true) (hoff : lookupswitch.offset pairs.toList dflt i.toInt = o) (ho : 0 ≤ (pc0 : Int) + o) (hp : ((pc0 : Int) + o).toNat = pc')
    (hr : Steps tb e below (T.setTop { g with pc := pc', stack := rest }) target) : Steps tb e below (T.setTop g) target := by
  subst hg hpc hp
  jvm_step h [h.top, hx, hd, hs, hoff, ho, lookupswitch.wp_chain]
  exact ⟨by simpa using hord, hr⟩
theorem own_ne_key {i k : Int32} (h : ¬ i = k) : ¬ (k.toInt = i.toInt) := fun q => h (Int32.toInt_inj.mp q.symm)
theorem own_selP {s : State} {args : Array Value} {y : MethodName} {n : Nat} (wi : (Cond.instantiable y.cls n).before args s = true) (hp : s.PrivateAt y) (hi : (Cond.instanceMethod y).before args s = true) (hy : y.cls ≠ "java/lang/invoke/MethodHandle" ∧ y.cls ≠ "java/lang/invoke/VarHandle") : (Cond.selects y.cls y y).before args s = true := by
  obtain ⟨c, k, h1, h2, -, h3, -⟩ := Cond.instantiable_spec wi
  simp only [Bool.or_eq_false_iff] at h3
  exact selects_self_of_private h1 h2 h3.1 hp hi hy
end New
end Jvm.RoadKit
namespace Jvm.RoadKit
open Sem ClassFile Op Lib Jvm.Stand Jvm.Free Jvm.LawKit
theorem own_lt32 {x y : Int32} : x < y ↔ x.toInt < y.toInt := Int32.lt_iff_toInt_lt
theorem own_eq32 {x y : Int32} : x = y ↔ x.toInt = y.toInt := (Int32.toInt_inj).symm
theorem own_mod32 (x y : Int32) : (own_irem x y).toInt = x.toInt.tmod y.toInt := by
  rw [show own_irem x y = x % y from irem_eq_mod x y]; exact Int32.toInt_mod x y
theorem own_pos31 (x : Int32) : (x &&& (2147483647 : Int32)).toInt = x.toInt % 2147483648 := Jvm.Kit.i32_mask x 2147483647 (k := 31) (by decide) (by decide)
theorem own_rem31 (x : Int32) (y : Int32) (hy : 0 < y.toInt) : (own_irem (x &&& (2147483647 : Int32)) y).toInt = (x.toInt % 2147483648) % y.toInt := by
  rw [own_mod32, own_pos31, Int.tmod_eq_emod_of_nonneg (by omega)]
theorem own_and3 (x : Int32) : (x &&& (3 : Int32)).toInt = x.toInt % 4 := Jvm.Kit.i32_mask x 3 (k := 2) (by decide) (by decide)
theorem own_and7 (x : Int32) : (x &&& (7 : Int32)).toInt = x.toInt % 8 := Jvm.Kit.i32_mask x 7 (k := 3) (by decide) (by decide)
theorem own_and63 (x : Int32) : (x &&& (63 : Int32)).toInt = x.toInt % 64 := Jvm.Kit.i32_mask x 63 (k := 6) (by decide) (by decide)
theorem own_and255 (x : Int32) : (x &&& (255 : Int32)).toInt = x.toInt % 256 := Jvm.Kit.i32_mask x 255 (k := 8) (by decide) (by decide)
theorem own_add_ok {x y : Int32} (h1 : -2147483648 ≤ x.toInt + y.toInt) (h2 : x.toInt + y.toInt < 2147483648) : (x + y).toInt = x.toInt + y.toInt := Jvm.Kit.i32_add (by omega) (by omega)
theorem own_sub_ok {x y : Int32} (h1 : -2147483648 ≤ x.toInt - y.toInt) (h2 : x.toInt - y.toInt < 2147483648) : (x - y).toInt = x.toInt - y.toInt := Jvm.Kit.i32_sub (by omega) (by omega)
theorem own_nat32 {x : Int32} (h : 0 ≤ x.toInt) : (x.toNatClampNeg : Int) = x.toInt := by simp only [Int32.toNatClampNeg]; omega
theorem own_rng (x : Int32) : -2147483648 ≤ x.toInt ∧ x.toInt < 2147483648 := ⟨x.le_toInt, x.toInt_lt⟩
theorem own_m3 (y : Int32) : ¬ (y &&& (3 : Int32)) < (0 : Int32) ∧ (y &&& (3 : Int32)).toNatClampNeg ≤ 3 := by
  have e := own_and3 y
  refine ⟨?_, ?_⟩
  · rw [own_lt32, e, show (0 : Int32).toInt = 0 from rfl]; omega
  · have := own_nat32 (x := y &&& 3) (by omega); omega
end Jvm.RoadKit
namespace Jvm.Pilot.@@N@@
open Jvm Jvm.ClassFile Sem Op Lib Jvm.Free Jvm.Stand Jvm.LawKit Jvm.RoadKit Bundle Jvm.Pilot.@@N@@.Jvm.D
theorem own_pn0 : plainName "com/example/eben/eben/io/FhirInstant" = true := by first | (simp [plainName, overriddenIn]; done) | decide +kernel
theorem own_d1_0 : decode prog_19_method_4_code 0 = .ok (.iload_n 0, 1) := by decide +kernel
theorem own_d1_1 : decode prog_19_method_4_code 1 = .ok (.iconst 1, 1) := by decide +kernel
theorem own_d1_2 : decode prog_19_method_4_code 2 = .ok (.if_icmp .lt 14, 3) := by decide +kernel
theorem own_d1_5 : decode prog_19_method_4_code 5 = .ok (.iload_n 0, 1) := by decide +kernel
theorem own_d1_6 : decode prog_19_method_4_code 6 = .ok (.sipush 9999, 3) := by decide +kernel
theorem own_d1_9 : decode prog_19_method_4_code 9 = .ok (.if_icmp .gt 7, 3) := by decide +kernel
theorem own_d1_12 : decode prog_19_method_4_code 12 = .ok (.iconst 1, 1) := by decide +kernel
theorem own_d1_13 : decode prog_19_method_4_code 13 = .ok (.goto 4, 3) := by decide +kernel
theorem own_d1_16 : decode prog_19_method_4_code 16 = .ok (.iconst 0, 1) := by decide +kernel
theorem own_d1_17 : decode prog_19_method_4_code 17 = .ok (.ireturn, 1) := by decide +kernel
def own_v1_2_s0 (xa : Int32) : Int32 := (if xa < (1 : Int32) then (0 : Int32) else (if (9999 : Int32) < xa then (0 : Int32) else (1 : Int32)))
def own_f1 (xa : Int32) : Int32 := (own_v1_2_s0 xa)
theorem own_b1_2_s0 (xa : Int32) : (own_v1_2_s0 xa) &&& 1 = (own_v1_2_s0 xa) := (own_ite_bool (by decide) (own_ite_bool (by decide) (by decide)))
theorem own_bf1 (xa : Int32) : (own_f1 xa) &&& 1 = (own_f1 xa) := (own_b1_2_s0 xa)
theorem own_ef1 (m : MethodId) (xa : Int32) : entryFrame m #[(.int xa)] 1 = mkF m 0 #[.val (.int xa)] [] := by first | (simp [entryFrame, mkF, argsToLocals, Value.category]; done) | rfl
abbrev own_room1 : Room := { frames := 0, cells := 0, slots := 0, locals := 0 }
def own_Q1 (Z : State) (xa : Int32) (h0 : Heap) (n0 : Nat) (v : Option Value) (h : Heap) (L : List Loc) : Prop := v = some (.int (own_f1 xa)) ∧ Fr n0 L ∧ h = h0
set_option maxRecDepth 65536 in
set_option maxHeartbeats 40000000 in
theorem own_rm1 (l : Launch) (Z : State) (a0 : Array Value) (hw : ∀ d ∈ tables_1, d.before a0 Z = true) (ws : List Jvm.Cond) (xa : Int32) (h0 : Heap) (n0 : Nat) (Z0 : n0 ≤ h0.size) :
    MetFree l (⟨"com/example/eben/eben/io/FhirInstant", "isYear", "(I)Z"⟩ : MethodName) (head1 (Jvm.Cond.code (⟨"com/example/eben/eben/io/FhirInstant", "isYear", "(I)Z"⟩ : MethodName) prog_19_method_4_code 1 (some .boolean) :: ws) own_room1) (fun a U => a = #[(.int xa)] ∧ Z.Warmed39 U.vm ∧ U.heap = h0) (fun _ _ _ _ _ => True) (fun _ U o U' => ∃ v L, o = .returned v ∧ own_Q1 Z xa h0 n0 v U'.heap L ∧ FrameEnd U o U' L own_room1.cells own_room1.slots) := by
  refine MetFree.of_bodySF (plainFor_of_name own_pn0) hisR ?_
  intro p e s m args below meth c s₁ Bd hml0 hP hK
  obtain ⟨rfl, hZ, hh⟩ := hP
  have hx := Bd.exec
  have hby := Bd.bytes
  have hml : c.maxLocals = 1 := hml0
  have hown : s.vm.findClass "com/example/eben/eben/io/FhirInstant" = some m.cls := findClass_of_methodNamed Bd.named
  have hnm := (name_of_methodNamed Bd.named Bd.method).1
  have X0 : Stand p l e own_room1 s m #[(.int xa)] below meth c s₁ [] 0 0 := Stand.of_body Bd
  have e0 : s₁.heap = h0 := by rw [← hh, Bd.state]; rfl
  have N0 := Fr.nil n0
  refine own_out (Q := fun o U' => ∃ v L, o = .returned v ∧ own_Q1 Z xa h0 n0 v U'.heap L ∧ FrameEnd s o U' L own_room1.cells own_room1.slots) ?_
  refine own_go (T' := s₁) (f' := (mkF m 0 #[.val (.int xa)] [])) ?_ (fun _ k => castTop (own_ef1 m xa) k)
  refine own_go (T' := s₁) (f' := (mkF m 1 #[.val (.int xa)] [(.int xa)])) ?_ (fun _ k => XS.iloadN X0.here hx rfl (hb hby own_d1_0) rfl  k)
  refine own_go (T' := s₁) (f' := (mkF m 2 #[.val (.int xa)] [(.int (1 : Int32)), (.int xa)])) ?_ (fun _ k => XS.iconst X0.here hx rfl (hb hby own_d1_1) k)
  obtain ⟨_, ⟨T1, L1, rfl, X1, e1, N1⟩, mg1⟩ : own_Goes p.tables e below (fun uu => ∃ (T' : State) (L' : List Loc), uu = T'.setTop (mkF m 17 #[.val (.int xa)] [(.int (own_v1_2_s0 xa))]) ∧ Stand p l e own_room1 s m #[(.int xa)] below meth c T' L' 0 0 ∧ T'.heap = h0 ∧ Fr n0 L') s₁ (mkF m 2 #[.val (.int xa)] [(.int (1 : Int32)), (.int xa)]) := by
    by_cases hc2_2 : xa < (1 : Int32)
    · refine own_go (T' := s₁) (f' := (mkF m 16 #[.val (.int xa)] [])) ?_ (fun _ k => XS.icmpYes X0.here hx rfl (pc0 := 2) (pc' := 16) rfl (hb hby own_d1_2) rfl (tlt hc2_2).1 (by decide) (by decide) k)
      refine own_go (T' := s₁) (f' := (mkF m 17 #[.val (.int xa)] [(.int (0 : Int32))])) ?_ (fun _ k => XS.iconst X0.here hx rfl (hb hby own_d1_16) k)
      have em3 : (own_v1_2_s0 xa) = (0 : Int32) := (if_pos hc2_2)
      exact ⟨_, ⟨s₁, _, (by rw [em3]), X0, e0, N0⟩, fun _ k => k⟩
    · refine own_go (T' := s₁) (f' := (mkF m 5 #[.val (.int xa)] [])) ?_ (fun _ k => XS.icmpNo X0.here hx rfl (hb hby own_d1_2) rfl (flt hc2_2).1 k)
      refine own_go (T' := s₁) (f' := (mkF m 6 #[.val (.int xa)] [(.int xa)])) ?_ (fun _ k => XS.iloadN X0.here hx rfl (hb hby own_d1_5) rfl  k)
      refine own_go (T' := s₁) (f' := (mkF m 9 #[.val (.int xa)] [(.int (9999 : Int32)), (.int xa)])) ?_ (fun _ k => XS.sipush X0.here hx rfl (hb hby own_d1_6) k)
      by_cases hc9_4 : (9999 : Int32) < xa
      · refine own_go (T' := s₁) (f' := (mkF m 16 #[.val (.int xa)] [])) ?_ (fun _ k => XS.icmpYes X0.here hx rfl (pc0 := 9) (pc' := 16) rfl (hb hby own_d1_9) rfl (tlt hc9_4).2.2.1 (by decide) (by decide) k)
        refine own_go (T' := s₁) (f' := (mkF m 17 #[.val (.int xa)] [(.int (0 : Int32))])) ?_ (fun _ k => XS.iconst X0.here hx rfl (hb hby own_d1_16) k)
        have em5 : (own_v1_2_s0 xa) = (0 : Int32) := (Eq.trans (if_neg hc2_2) (if_pos hc9_4))
        exact ⟨_, ⟨s₁, _, (by rw [em5]), X0, e0, N0⟩, fun _ k => k⟩
      · refine own_go (T' := s₁) (f' := (mkF m 12 #[.val (.int xa)] [])) ?_ (fun _ k => XS.icmpNo X0.here hx rfl (hb hby own_d1_9) rfl (flt hc9_4).2.2.1 k)
        refine own_go (T' := s₁) (f' := (mkF m 13 #[.val (.int xa)] [(.int (1 : Int32))])) ?_ (fun _ k => XS.iconst X0.here hx rfl (hb hby own_d1_12) k)
        refine own_go (T' := s₁) (f' := (mkF m 17 #[.val (.int xa)] [(.int (1 : Int32))])) ?_ (fun _ k => XS.goto X0.here hx rfl (pc0 := 13) (pc' := 17) rfl (hb hby own_d1_13) (by decide) (by decide) k)
        have em6 : (own_v1_2_s0 xa) = (1 : Int32) := (Eq.trans (if_neg hc2_2) (if_neg hc9_4))
        exact ⟨_, ⟨s₁, _, (by rw [em6]), X0, e0, N0⟩, fun _ k => k⟩
  refine own_go (T' := T1) (f' := (mkF m 17 #[.val (.int xa)] [(.int (own_v1_2_s0 xa))])) ?_ (mg1)
  obtain ⟨fs7, hr7, hrun7, hended7, hW7, hsame7⟩ := X1.leave (v := some (.int (own_v1_2_s0 xa))) (fun h => by rw [Bd.returns] at h; cases h)
  refine ⟨_, ⟨_, hrun7, hended7, _, _, rfl, ?_, ⟨_, rfl⟩, hW7, hsame7.mono (by decide) (by decide)⟩, fun _ k => (own_retZ X1 hx Bd.returns (own_b1_2_s0 xa) (hb hby own_d1_17) hr7).trans k⟩
  show own_Q1 Z xa h0 n0 _ T1.heap _
  rw [e1]
  exact ⟨rfl, N1, rfl⟩
theorem own_pd0 : parseMethodDescriptor "(I)Z" = some ⟨[.int], some .boolean⟩ := by decide +kernel
theorem own_pn1 : plainName "com/example/eben/eben/io/FhirInstantIsYearPinLaw" = true := by first | (simp [plainName, overriddenIn]; done) | decide +kernel
def own_v0_1_s0 (xa : Int32) : Int32 := (if (0 : Int32) < xa then (if (xa / (10000 : Int32)) = (0 : Int32) then (1 : Int32) else (0 : Int32)) else (0 : Int32))
def own_v0_23_s0 (xa : Int32) : Int32 := (if (own_f1 xa) = (own_v0_1_s0 xa) then (1 : Int32) else (0 : Int32))
def own_v0_36_s0 : Int32 := (if (own_f1 (0 : Int32)) = (0 : Int32) then (if (own_f1 (1 : Int32)) = (0 : Int32) then (0 : Int32) else (if (own_f1 (9999 : Int32)) = (0 : Int32) then (0 : Int32) else (if (own_f1 (10000 : Int32)) = (0 : Int32) then (1 : Int32) else (0 : Int32)))) else (0 : Int32))
def own_v0_83 (xb : Int32) : Int32 := ((1 : Int32) + ((xb &&& (7 : Int32)) - (4 : Int32)))
def own_v0_91 (xb : Int32) : Int32 := ((9999 : Int32) + ((xb &&& (7 : Int32)) - (4 : Int32)))
def own_v0_101_s0 (xb : Int32) : Int32 := (if (own_v0_83 xb) < (1 : Int32) then (0 : Int32) else (1 : Int32))
def own_v0_109_s0 (xb : Int32) : Int32 := (if (own_f1 (own_v0_83 xb)) = (own_v0_101_s0 xb) then (1 : Int32) else (0 : Int32))
def own_v0_129_s0 (xb : Int32) : Int32 := (if (9999 : Int32) < (own_v0_91 xb) then (0 : Int32) else (1 : Int32))
def own_v0_137_s0 (xb : Int32) : Int32 := (if (own_f1 (own_v0_91 xb)) = (own_v0_129_s0 xb) then (1 : Int32) else (0 : Int32))
def own_v0_148_s0 (xa : Int32) (xb : Int32) : Int32 := (if (own_v0_23_s0 xa) = (0 : Int32) then (0 : Int32) else (if own_v0_36_s0 = (0 : Int32) then (0 : Int32) else (if (own_v0_109_s0 xb) = (0 : Int32) then (0 : Int32) else (if (own_v0_137_s0 xb) = (0 : Int32) then (0 : Int32) else (1 : Int32)))))
def own_f0 (xa : Int32) (xb : Int32) : Int32 := (own_v0_148_s0 xa xb)
theorem own_b0_148_s0 (xa : Int32) (xb : Int32) : (own_v0_148_s0 xa xb) &&& 1 = (own_v0_148_s0 xa xb) := (own_ite_bool (by decide) (own_ite_bool (by decide) (own_ite_bool (by decide) (own_ite_bool (by decide) (by decide)))))
theorem own_bf0 (xa : Int32) (xb : Int32) : (own_f0 xa xb) &&& 1 = (own_f0 xa xb) := (own_b0_148_s0 xa xb)
theorem own_ef0 (m : MethodId) (xa : Int32) (xb : Int32) : entryFrame m #[(.int xa), (.int xb)] maxLocals = mkF m 0 #[.val (.int xa), .val (.int xb), .unset, .unset, .unset, .unset, .unset, .unset, .unset, .unset] [] := by first | (simp [entryFrame, mkF, argsToLocals, Value.category, maxLocals]; done) | rfl
def own_Q0 (Z : State) (xa : Int32) (xb : Int32) (h0 : Heap) (n0 : Nat) (v : Option Value) (h : Heap) (L : List Loc) : Prop := v = some (.int (own_f0 xa xb)) ∧ Fr n0 L
set_option maxRecDepth 65536 in
set_option maxHeartbeats 40000000 in
theorem own_rm0 (l : Launch) (Z : State) (a0 : Array Value) (hw : ∀ d ∈ tables_1, d.before a0 Z = true) (ws : List Jvm.Cond) (xa : Int32) (xb : Int32) (h0 : Heap) (n0 : Nat) (Z0 : n0 ≤ h0.size) :
    MetFree l x (head1 (Jvm.Cond.code x code maxLocals ret :: ws) room_1) (fun a U => a = #[(.int xa), (.int xb)] ∧ Z.Warmed39 U.vm ∧ U.heap = h0) (fun _ _ _ _ _ => True) (fun _ U o U' => ∃ v L, o = .returned v ∧ own_Q0 Z xa xb h0 n0 v U'.heap L ∧ FrameEnd U o U' L 0 0) := by
  refine MetFree.of_bodySF (plainFor_of_name own_pn1) hisR ?_
  intro p e s m args below meth c s₁ Bd hml0 hP hK
  obtain ⟨rfl, hZ, hh⟩ := hP
  have hx := Bd.exec
  have hby := Bd.bytes
  have hml : c.maxLocals = 10 := hml0
  have hown : s.vm.findClass "com/example/eben/eben/io/FhirInstantIsYearPinLaw" = some m.cls := findClass_of_methodNamed Bd.named
  have hnm := (name_of_methodNamed Bd.named Bd.method).1
  have X0 : Stand p l e room_1 s m #[(.int xa), (.int xb)] below meth c s₁ [] 0 0 := Stand.of_body Bd
  have e0 : s₁.heap = h0 := by rw [← hh, Bd.state]; rfl
  have N0 := Fr.nil n0
  refine own_out (Q := fun o U' => ∃ v L, o = .returned v ∧ own_Q0 Z xa xb h0 n0 v U'.heap L ∧ FrameEnd s o U' L 0 0) ?_
  refine own_go (T' := s₁) (f' := (mkF m 0 #[.val (.int xa), .val (.int xb), .unset, .unset, .unset, .unset, .unset, .unset, .unset, .unset] [])) ?_ (fun _ k => castTop (own_ef0 m xa xb) k)
  refine own_go (T' := s₁) (f' := (mkF m 1 #[.val (.int xa), .val (.int xb), .unset, .unset, .unset, .unset, .unset, .unset, .unset, .unset] [(.int xa)])) ?_ (fun _ k => XS.iloadN X0.here hx rfl (hb hby at_0) rfl  k)
  obtain ⟨_, ⟨T1, L1, rfl, X1, e1, N1⟩, mg1⟩ : own_Goes p.tables e below (fun uu => ∃ (T' : State) (L' : List Loc), uu = T'.setTop (mkF m 17 #[.val (.int xa), .val (.int xb), .unset, .unset, .unset, .unset, .unset, .unset, .unset, .unset] [(.int (own_v0_1_s0 xa))]) ∧ Stand p l e room_1 s m #[(.int xa), (.int xb)] below meth c T' L' 0 0 ∧ T'.heap = h0 ∧ Fr n0 L') s₁ (mkF m 1 #[.val (.int xa), .val (.int xb), .unset, .unset, .unset, .unset, .unset, .unset, .unset, .unset] [(.int xa)]) := by
    by_cases hc1_2 : (0 : Int32) < xa
    · refine own_go (T' := s₁) (f' := (mkF m 4 #[.val (.int xa), .val (.int xb), .unset, .unset, .unset, .unset, .unset, .unset, .unset, .unset] [])) ?_ (fun _ k => XS.ifNo X0.here hx rfl (hb hby at_1) rfl ((if0 _ _).trans (tlt hc1_2).2.2.2) k)
      refine own_go (T' := s₁) (f' := (mkF m 5 #[.val (.int xa), .val (.int xb), .unset, .unset, .unset, .unset, .unset, .unset, .unset, .unset] [(.int xa)])) ?_ (fun _ k => XS.iloadN X0.here hx rfl (hb hby at_4) rfl  k)
      refine own_go (T' := s₁) (f' := (mkF m 8 #[.val (.int xa), .val (.int xb), .unset, .unset, .unset, .unset, .unset, .unset, .unset, .unset] [(.int (10000 : Int32)), (.int xa)])) ?_ (fun _ k => XS.sipush X0.here hx rfl (hb hby at_5) k)
      refine own_go (T' := s₁) (f' := (mkF m 9 #[.val (.int xa), .val (.int xb), .unset, .unset, .unset, .unset, .unset, .unset, .unset, .unset] [(.int (xa / (10000 : Int32)))])) ?_ (fun _ k => XS.idiv X0.here hx rfl (hb hby at_8) rfl (by decide) k)
      by_cases hc9_3 : (xa / (10000 : Int32)) = (0 : Int32)
      · refine own_go (T' := s₁) (f' := (mkF m 12 #[.val (.int xa), .val (.int xb), .unset, .unset, .unset, .unset, .unset, .unset, .unset, .unset] [])) ?_ (fun _ k => XS.ifNo X0.here hx rfl (hb hby at_9) rfl ((if0 _ _).trans (teq hc9_3).2) k)
        refine own_go (T' := s₁) (f' := (mkF m 13 #[.val (.int xa), .val (.int xb), .unset, .unset, .unset, .unset, .unset, .unset, .unset, .unset] [(.int (1 : Int32))])) ?_ (fun _ k => XS.iconst X0.here hx rfl (hb hby at_12) k)
        refine own_go (T' := s₁) (f' := (mkF m 17 #[.val (.int xa), .val (.int xb), .unset, .unset, .unset, .unset, .unset, .unset, .unset, .unset] [(.int (1 : Int32))])) ?_ (fun _ k => XS.goto X0.here hx rfl (pc0 := 13) (pc' := 17) rfl (hb hby at_13) (by decide) (by decide) k)
        have em4 : (own_v0_1_s0 xa) = (1 : Int32) := (Eq.trans (if_pos hc1_2) (if_pos hc9_3))
        exact ⟨_, ⟨s₁, _, (by rw [em4]), X0, e0, N0⟩, fun _ k => k⟩
      · refine own_go (T' := s₁) (f' := (mkF m 16 #[.val (.int xa), .val (.int xb), .unset, .unset, .unset, .unset, .unset, .unset, .unset, .unset] [])) ?_ (fun _ k => XS.ifYes X0.here hx rfl (pc0 := 9) (pc' := 16) rfl (hb hby at_9) rfl ((if0 _ _).trans (feq hc9_3).2) (by decide) (by decide) k)
        refine own_go (T' := s₁) (f' := (mkF m 17 #[.val (.int xa), .val (.int xb), .unset, .unset, .unset, .unset, .unset, .unset, .unset, .unset] [(.int (0 : Int32))])) ?_ (fun _ k => XS.iconst X0.here hx rfl (hb hby at_16) k)
        have em5 : (own_v0_1_s0 xa) = (0 : Int32) := (Eq.trans (if_pos hc1_2) (if_neg hc9_3))
        exact ⟨_, ⟨s₁, _, (by rw [em5]), X0, e0, N0⟩, fun _ k => k⟩
    · refine own_go (T' := s₁) (f' := (mkF m 16 #[.val (.int xa), .val (.int xb), .unset, .unset, .unset, .unset, .unset, .unset, .unset, .unset] [])) ?_ (fun _ k => XS.ifYes X0.here hx rfl (pc0 := 1) (pc' := 16) rfl (hb hby at_1) rfl ((if0 _ _).trans (flt hc1_2).2.2.2) (by decide) (by decide) k)
      refine own_go (T' := s₁) (f' := (mkF m 17 #[.val (.int xa), .val (.int xb), .unset, .unset, .unset, .unset, .unset, .unset, .unset, .unset] [(.int (0 : Int32))])) ?_ (fun _ k => XS.iconst X0.here hx rfl (hb hby at_16) k)
      have em6 : (own_v0_1_s0 xa) = (0 : Int32) := (if_neg hc1_2)
      exact ⟨_, ⟨s₁, _, (by rw [em6]), X0, e0, N0⟩, fun _ k => k⟩
  refine own_go (T' := T1) (f' := (mkF m 17 #[.val (.int xa), .val (.int xb), .unset, .unset, .unset, .unset, .unset, .unset, .unset, .unset] [(.int (own_v0_1_s0 xa))])) ?_ (mg1)
  refine own_go (T' := T1) (f' := (mkF m 18 #[.val (.int xa), .val (.int xb), .val (.int (own_v0_1_s0 xa)), .unset, .unset, .unset, .unset, .unset, .unset, .unset] [])) ?_ (fun _ k => XS.istoreN X1.here hx rfl (hb hby at_17) rfl (l' := #[.val (.int xa), .val (.int xb), .val (.int (own_v0_1_s0 xa)), .unset, .unset, .unset, .unset, .unset, .unset, .unset]) rfl k)
  refine own_go (T' := T1) (f' := (mkF m 19 #[.val (.int xa), .val (.int xb), .val (.int (own_v0_1_s0 xa)), .unset, .unset, .unset, .unset, .unset, .unset, .unset] [(.int xa)])) ?_ (fun _ k => XS.iloadN X1.here hx rfl (hb hby at_18) rfl  k)
  obtain ⟨_, _, ⟨T7, L7, k7, n7⟩, -, X7, ⟨Lc7, hQ7, l7, y7, z7⟩, st7⟩ := Jvm.LawKit.callS X1 hx (y := (⟨"com/example/eben/eben/io/FhirInstant", "isYear", "(I)Z"⟩ : MethodName)) hown (mvT hZ (hw _ (List.mem_of_getElem? (i := 0) rfl))) (mvT hZ (hw _ (List.mem_of_getElem? (i := 1) rfl))) (mvT hZ (hw _ (List.mem_of_getElem? (i := 2) rfl))) (mvT hZ (hw _ (List.mem_of_getElem? (i := 3) rfl))) (by decide) (backOf (W := 0) (own_rm1 l Z a0 hw [] xa h0 n0 Z0) hZ (hw _ (List.mem_of_getElem? (i := 3) rfl)) (hw _ (List.mem_of_getElem? (i := 2) rfl)) (by decide) (by decide)) (g := (mkF m 19 #[.val (.int xa), .val (.int xb), .val (.int (own_v0_1_s0 xa)), .unset, .unset, .unset, .unset, .unset, .unset, .unset] [(.int xa)])) rfl (by rw [hml]; rfl) (argsL := [(.int xa)]) (rest := []) (lenOf own_pd0 rfl) rfl (by show 2 * 0 + _ ≤ _; exact Nat.le_of_eq rfl) (hb hby at_19) (fun _ _ => ⟨rfl, e1, (by decide : 0 + 0 ≤ _), (by decide : 0 + 0 ≤ _)⟩)
  dsimp only [Pt.U, Pt.locs, Pt.cells, Pt.slots] at X7 l7 y7 z7 st7 hQ7
  subst y7 z7
  obtain ⟨rfl, N7q, e7⟩ := hQ7
  have N7 : Fr n0 L7 := l7 ▸ Fr.app N1 N7q
  refine own_go (T' := T7) (f' := (mkF m 22 #[.val (.int xa), .val (.int xb), .val (.int (own_v0_1_s0 xa)), .unset, .unset, .unset, .unset, .unset, .unset, .unset] [(.int (own_f1 xa))])) ?_ (st7)
  refine own_go (T' := T7) (f' := (mkF m 23 #[.val (.int xa), .val (.int xb), .val (.int (own_v0_1_s0 xa)), .unset, .unset, .unset, .unset, .unset, .unset, .unset] [(.int (own_v0_1_s0 xa)), (.int (own_f1 xa))])) ?_ (fun _ k => XS.iloadN X7.here hx rfl (hb hby at_22) rfl  k)
  obtain ⟨_, ⟨T8, L8, rfl, X8, e8, N8⟩, mg8⟩ : own_Goes p.tables e below (fun uu => ∃ (T' : State) (L' : List Loc), uu = T'.setTop (mkF m 31 #[.val (.int xa), .val (.int xb), .val (.int (own_v0_1_s0 xa)), .unset, .unset, .unset, .unset, .unset, .unset, .unset] [(.int (own_v0_23_s0 xa))]) ∧ Stand p l e room_1 s m #[(.int xa), (.int xb)] below meth c T' L' 0 0 ∧ T'.heap = h0 ∧ Fr n0 L') T7 (mkF m 23 #[.val (.int xa), .val (.int xb), .val (.int (own_v0_1_s0 xa)), .unset, .unset, .unset, .unset, .unset, .unset, .unset] [(.int (own_v0_1_s0 xa)), (.int (own_f1 xa))]) := by
    by_cases hc23_9 : (own_f1 xa) = (own_v0_1_s0 xa)
    · refine own_go (T' := T7) (f' := (mkF m 26 #[.val (.int xa), .val (.int xb), .val (.int (own_v0_1_s0 xa)), .unset, .unset, .unset, .unset, .unset, .unset, .unset] [])) ?_ (fun _ k => XS.icmpNo X7.here hx rfl (hb hby at_23) rfl (teq hc23_9).2 k)
      refine own_go (T' := T7) (f' := (mkF m 27 #[.val (.int xa), .val (.int xb), .val (.int (own_v0_1_s0 xa)), .unset, .unset, .unset, .unset, .unset, .unset, .unset] [(.int (1 : Int32))])) ?_ (fun _ k => XS.iconst X7.here hx rfl (hb hby at_26) k)
      refine own_go (T' := T7) (f' := (mkF m 31 #[.val (.int xa), .val (.int xb), .val (.int (own_v0_1_s0 xa)), .unset, .unset, .unset, .unset, .unset, .unset, .unset] [(.int (1 : Int32))])) ?_ (fun _ k => XS.goto X7.here hx rfl (pc0 := 27) (pc' := 31) rfl (hb hby at_27) (by decide) (by decide) k)
      have em10 : (own_v0_23_s0 xa) = (1 : Int32) := (if_pos hc23_9)
      exact ⟨_, ⟨T7, _, (by rw [em10]), X7, e7, N7⟩, fun _ k => k⟩
    · refine own_go (T' := T7) (f' := (mkF m 30 #[.val (.int xa), .val (.int xb), .val (.int (own_v0_1_s0 xa)), .unset, .unset, .unset, .unset, .unset, .unset, .unset] [])) ?_ (fun _ k => XS.icmpYes X7.here hx rfl (pc0 := 23) (pc' := 30) rfl (hb hby at_23) rfl (feq hc23_9).2 (by decide) (by decide) k)
      refine own_go (T' := T7) (f' := (mkF m 31 #[.val (.int xa), .val (.int xb), .val (.int (own_v0_1_s0 xa)), .unset, .unset, .unset, .unset, .unset, .unset, .unset] [(.int (0 : Int32))])) ?_ (fun _ k => XS.iconst X7.here hx rfl (hb hby at_30) k)
      have em11 : (own_v0_23_s0 xa) = (0 : Int32) := (if_neg hc23_9)
      exact ⟨_, ⟨T7, _, (by rw [em11]), X7, e7, N7⟩, fun _ k => k⟩
  refine own_go (T' := T8) (f' := (mkF m 31 #[.val (.int xa), .val (.int xb), .val (.int (own_v0_1_s0 xa)), .unset, .unset, .unset, .unset, .unset, .unset, .unset] [(.int (own_v0_23_s0 xa))])) ?_ (mg8)
  refine own_go (T' := T8) (f' := (mkF m 32 #[.val (.int xa), .val (.int xb), .val (.int (own_v0_1_s0 xa)), .val (.int (own_v0_23_s0 xa)), .unset, .unset, .unset, .unset, .unset, .unset] [])) ?_ (fun _ k => XS.istoreN X8.here hx rfl (hb hby at_31) rfl (l' := #[.val (.int xa), .val (.int xb), .val (.int (own_v0_1_s0 xa)), .val (.int (own_v0_23_s0 xa)), .unset, .unset, .unset, .unset, .unset, .unset]) rfl k)
  refine own_go (T' := T8) (f' := (mkF m 33 #[.val (.int xa), .val (.int xb), .val (.int (own_v0_1_s0 xa)), .val (.int (own_v0_23_s0 xa)), .unset, .unset, .unset, .unset, .unset, .unset] [(.int (0 : Int32))])) ?_ (fun _ k => XS.iconst X8.here hx rfl (hb hby at_32) k)
  obtain ⟨_, _, ⟨T12, L12, k12, n12⟩, -, X12, ⟨Lc12, hQ12, l12, y12, z12⟩, st12⟩ := Jvm.LawKit.callS X8 hx (y := (⟨"com/example/eben/eben/io/FhirInstant", "isYear", "(I)Z"⟩ : MethodName)) hown (mvT hZ (hw _ (List.mem_of_getElem? (i := 0) rfl))) (mvT hZ (hw _ (List.mem_of_getElem? (i := 1) rfl))) (mvT hZ (hw _ (List.mem_of_getElem? (i := 2) rfl))) (mvT hZ (hw _ (List.mem_of_getElem? (i := 3) rfl))) (by decide) (backOf (W := 0) (own_rm1 l Z a0 hw [] (0 : Int32) h0 n0 Z0) hZ (hw _ (List.mem_of_getElem? (i := 3) rfl)) (hw _ (List.mem_of_getElem? (i := 2) rfl)) (by decide) (by decide)) (g := (mkF m 33 #[.val (.int xa), .val (.int xb), .val (.int (own_v0_1_s0 xa)), .val (.int (own_v0_23_s0 xa)), .unset, .unset, .unset, .unset, .unset, .unset] [(.int (0 : Int32))])) rfl (by rw [hml]; rfl) (argsL := [(.int (0 : Int32))]) (rest := []) (lenOf own_pd0 rfl) rfl (by show 2 * 0 + _ ≤ _; exact Nat.le_of_eq rfl) (hb hby at_33) (fun _ _ => ⟨rfl, e8, (by decide : 0 + 0 ≤ _), (by decide : 0 + 0 ≤ _)⟩)
  dsimp only [Pt.U, Pt.locs, Pt.cells, Pt.slots] at X12 l12 y12 z12 st12 hQ12
  subst y12 z12
  obtain ⟨rfl, N12q, e12⟩ := hQ12
  have N12 : Fr n0 L12 := l12 ▸ Fr.app N8 N12q
  refine own_go (T' := T12) (f' := (mkF m 36 #[.val (.int xa), .val (.int xb), .val (.int (own_v0_1_s0 xa)), .val (.int (own_v0_23_s0 xa)), .unset, .unset, .unset, .unset, .unset, .unset] [(.int (own_f1 (0 : Int32)))])) ?_ (st12)
  obtain ⟨_, ⟨T13, L13, rfl, X13, e13, N13⟩, mg13⟩ : own_Goes p.tables e below (fun uu => ∃ (T' : State) (L' : List Loc), uu = T'.setTop (mkF m 69 #[.val (.int xa), .val (.int xb), .val (.int (own_v0_1_s0 xa)), .val (.int (own_v0_23_s0 xa)), .unset, .unset, .unset, .unset, .unset, .unset] [(.int own_v0_36_s0)]) ∧ Stand p l e room_1 s m #[(.int xa), (.int xb)] below meth c T' L' 0 0 ∧ T'.heap = h0 ∧ Fr n0 L') T12 (mkF m 36 #[.val (.int xa), .val (.int xb), .val (.int (own_v0_1_s0 xa)), .val (.int (own_v0_23_s0 xa)), .unset, .unset, .unset, .unset, .unset, .unset] [(.int (own_f1 (0 : Int32)))]) := by
    by_cases hc36_14 : (own_f1 (0 : Int32)) = (0 : Int32)
    · refine own_go (T' := T12) (f' := (mkF m 39 #[.val (.int xa), .val (.int xb), .val (.int (own_v0_1_s0 xa)), .val (.int (own_v0_23_s0 xa)), .unset, .unset, .unset, .unset, .unset, .unset] [])) ?_ (fun _ k => XS.ifNo X12.here hx rfl (hb hby at_36) rfl ((if0 _ _).trans (teq hc36_14).2) k)
      refine own_go (T' := T12) (f' := (mkF m 40 #[.val (.int xa), .val (.int xb), .val (.int (own_v0_1_s0 xa)), .val (.int (own_v0_23_s0 xa)), .unset, .unset, .unset, .unset, .unset, .unset] [(.int (1 : Int32))])) ?_ (fun _ k => XS.iconst X12.here hx rfl (hb hby at_39) k)
      obtain ⟨_, _, ⟨T15, L15, k15, n15⟩, -, X15, ⟨Lc15, hQ15, l15, y15, z15⟩, st15⟩ := Jvm.LawKit.callS X12 hx (y := (⟨"com/example/eben/eben/io/FhirInstant", "isYear", "(I)Z"⟩ : MethodName)) hown (mvT hZ (hw _ (List.mem_of_getElem? (i := 0) rfl))) (mvT hZ (hw _ (List.mem_of_getElem? (i := 1) rfl))) (mvT hZ (hw _ (List.mem_of_getElem? (i := 2) rfl))) (mvT hZ (hw _ (List.mem_of_getElem? (i := 3) rfl))) (by decide) (backOf (W := 0) (own_rm1 l Z a0 hw [] (1 : Int32) h0 n0 Z0) hZ (hw _ (List.mem_of_getElem? (i := 3) rfl)) (hw _ (List.mem_of_getElem? (i := 2) rfl)) (by decide) (by decide)) (g := (mkF m 40 #[.val (.int xa), .val (.int xb), .val (.int (own_v0_1_s0 xa)), .val (.int (own_v0_23_s0 xa)), .unset, .unset, .unset, .unset, .unset, .unset] [(.int (1 : Int32))])) rfl (by rw [hml]; rfl) (argsL := [(.int (1 : Int32))]) (rest := []) (lenOf own_pd0 rfl) rfl (by show 2 * 0 + _ ≤ _; exact Nat.le_of_eq rfl) (hb hby at_40) (fun _ _ => ⟨rfl, e12, (by decide : 0 + 0 ≤ _), (by decide : 0 + 0 ≤ _)⟩)
      dsimp only [Pt.U, Pt.locs, Pt.cells, Pt.slots] at X15 l15 y15 z15 st15 hQ15
      subst y15 z15
      obtain ⟨rfl, N15q, e15⟩ := hQ15
      have N15 : Fr n0 L15 := l15 ▸ Fr.app N12 N15q
      refine own_go (T' := T15) (f' := (mkF m 43 #[.val (.int xa), .val (.int xb), .val (.int (own_v0_1_s0 xa)), .val (.int (own_v0_23_s0 xa)), .unset, .unset, .unset, .unset, .unset, .unset] [(.int (own_f1 (1 : Int32)))])) ?_ (st15)
      by_cases hc43_16 : (own_f1 (1 : Int32)) = (0 : Int32)
      · refine own_go (T' := T15) (f' := (mkF m 68 #[.val (.int xa), .val (.int xb), .val (.int (own_v0_1_s0 xa)), .val (.int (own_v0_23_s0 xa)), .unset, .unset, .unset, .unset, .unset, .unset] [])) ?_ (fun _ k => XS.ifYes X15.here hx rfl (pc0 := 43) (pc' := 68) rfl (hb hby at_43) rfl ((if0 _ _).trans (teq hc43_16).1) (by decide) (by decide) k)
        refine own_go (T' := T15) (f' := (mkF m 69 #[.val (.int xa), .val (.int xb), .val (.int (own_v0_1_s0 xa)), .val (.int (own_v0_23_s0 xa)), .unset, .unset, .unset, .unset, .unset, .unset] [(.int (0 : Int32))])) ?_ (fun _ k => XS.iconst X15.here hx rfl (hb hby at_68) k)
        have em17 : own_v0_36_s0 = (0 : Int32) := (Eq.trans (if_pos hc36_14) (if_pos hc43_16))
        exact ⟨_, ⟨T15, _, (by rw [em17]), X15, e15, N15⟩, fun _ k => k⟩
      · refine own_go (T' := T15) (f' := (mkF m 46 #[.val (.int xa), .val (.int xb), .val (.int (own_v0_1_s0 xa)), .val (.int (own_v0_23_s0 xa)), .unset, .unset, .unset, .unset, .unset, .unset] [])) ?_ (fun _ k => XS.ifNo X15.here hx rfl (hb hby at_43) rfl ((if0 _ _).trans (feq hc43_16).1) k)
        refine own_go (T' := T15) (f' := (mkF m 49 #[.val (.int xa), .val (.int xb), .val (.int (own_v0_1_s0 xa)), .val (.int (own_v0_23_s0 xa)), .unset, .unset, .unset, .unset, .unset, .unset] [(.int (9999 : Int32))])) ?_ (fun _ k => XS.sipush X15.here hx rfl (hb hby at_46) k)
        obtain ⟨_, _, ⟨T18, L18, k18, n18⟩, -, X18, ⟨Lc18, hQ18, l18, y18, z18⟩, st18⟩ := Jvm.LawKit.callS X15 hx (y := (⟨"com/example/eben/eben/io/FhirInstant", "isYear", "(I)Z"⟩ : MethodName)) hown (mvT hZ (hw _ (List.mem_of_getElem? (i := 0) rfl))) (mvT hZ (hw _ (List.mem_of_getElem? (i := 1) rfl))) (mvT hZ (hw _ (List.mem_of_getElem? (i := 2) rfl))) (mvT hZ (hw _ (List.mem_of_getElem? (i := 3) rfl))) (by decide) (backOf (W := 0) (own_rm1 l Z a0 hw [] (9999 : Int32) h0 n0 Z0) hZ (hw _ (List.mem_of_getElem? (i := 3) rfl)) (hw _ (List.mem_of_getElem? (i := 2) rfl)) (by decide) (by decide)) (g := (mkF m 49 #[.val (.int xa), .val (.int xb), .val (.int (own_v0_1_s0 xa)), .val (.int (own_v0_23_s0 xa)), .unset, .unset, .unset, .unset, .unset, .unset] [(.int (9999 : Int32))])) rfl (by rw [hml]; rfl) (argsL := [(.int (9999 : Int32))]) (rest := []) (lenOf own_pd0 rfl) rfl (by show 2 * 0 + _ ≤ _; exact Nat.le_of_eq rfl) (hb hby at_49) (fun _ _ => ⟨rfl, e15, (by decide : 0 + 0 ≤ _), (by decide : 0 + 0 ≤ _)⟩)
        dsimp only [Pt.U, Pt.locs, Pt.cells, Pt.slots] at X18 l18 y18 z18 st18 hQ18
        subst y18 z18
        obtain ⟨rfl, N18q, e18⟩ := hQ18
        have N18 : Fr n0 L18 := l18 ▸ Fr.app N15 N18q
        refine own_go (T' := T18) (f' := (mkF m 52 #[.val (.int xa), .val (.int xb), .val (.int (own_v0_1_s0 xa)), .val (.int (own_v0_23_s0 xa)), .unset, .unset, .unset, .unset, .unset, .unset] [(.int (own_f1 (9999 : Int32)))])) ?_ (st18)
        by_cases hc52_19 : (own_f1 (9999 : Int32)) = (0 : Int32)
        · refine own_go (T' := T18) (f' := (mkF m 68 #[.val (.int xa), .val (.int xb), .val (.int (own_v0_1_s0 xa)), .val (.int (own_v0_23_s0 xa)), .unset, .unset, .unset, .unset, .unset, .unset] [])) ?_ (fun _ k => XS.ifYes X18.here hx rfl (pc0 := 52) (pc' := 68) rfl (hb hby at_52) rfl ((if0 _ _).trans (teq hc52_19).1) (by decide) (by decide) k)
          refine own_go (T' := T18) (f' := (mkF m 69 #[.val (.int xa), .val (.int xb), .val (.int (own_v0_1_s0 xa)), .val (.int (own_v0_23_s0 xa)), .unset, .unset, .unset, .unset, .unset, .unset] [(.int (0 : Int32))])) ?_ (fun _ k => XS.iconst X18.here hx rfl (hb hby at_68) k)
          have em20 : own_v0_36_s0 = (0 : Int32) := (Eq.trans (if_pos hc36_14) (Eq.trans (if_neg hc43_16) (if_pos hc52_19)))
          exact ⟨_, ⟨T18, _, (by rw [em20]), X18, e18, N18⟩, fun _ k => k⟩
        · refine own_go (T' := T18) (f' := (mkF m 55 #[.val (.int xa), .val (.int xb), .val (.int (own_v0_1_s0 xa)), .val (.int (own_v0_23_s0 xa)), .unset, .unset, .unset, .unset, .unset, .unset] [])) ?_ (fun _ k => XS.ifNo X18.here hx rfl (hb hby at_52) rfl ((if0 _ _).trans (feq hc52_19).1) k)
          refine own_go (T' := T18) (f' := (mkF m 58 #[.val (.int xa), .val (.int xb), .val (.int (own_v0_1_s0 xa)), .val (.int (own_v0_23_s0 xa)), .unset, .unset, .unset, .unset, .unset, .unset] [(.int (10000 : Int32))])) ?_ (fun _ k => XS.sipush X18.here hx rfl (hb hby at_55) k)
          obtain ⟨_, _, ⟨T21, L21, k21, n21⟩, -, X21, ⟨Lc21, hQ21, l21, y21, z21⟩, st21⟩ := Jvm.LawKit.callS X18 hx (y := (⟨"com/example/eben/eben/io/FhirInstant", "isYear", "(I)Z"⟩ : MethodName)) hown (mvT hZ (hw _ (List.mem_of_getElem? (i := 0) rfl))) (mvT hZ (hw _ (List.mem_of_getElem? (i := 1) rfl))) (mvT hZ (hw _ (List.mem_of_getElem? (i := 2) rfl))) (mvT hZ (hw _ (List.mem_of_getElem? (i := 3) rfl))) (by decide) (backOf (W := 0) (own_rm1 l Z a0 hw [] (10000 : Int32) h0 n0 Z0) hZ (hw _ (List.mem_of_getElem? (i := 3) rfl)) (hw _ (List.mem_of_getElem? (i := 2) rfl)) (by decide) (by decide)) (g := (mkF m 58 #[.val (.int xa), .val (.int xb), .val (.int (own_v0_1_s0 xa)), .val (.int (own_v0_23_s0 xa)), .unset, .unset, .unset, .unset, .unset, .unset] [(.int (10000 : Int32))])) rfl (by rw [hml]; rfl) (argsL := [(.int (10000 : Int32))]) (rest := []) (lenOf own_pd0 rfl) rfl (by show 2 * 0 + _ ≤ _; exact Nat.le_of_eq rfl) (hb hby at_58) (fun _ _ => ⟨rfl, e18, (by decide : 0 + 0 ≤ _), (by decide : 0 + 0 ≤ _)⟩)
          dsimp only [Pt.U, Pt.locs, Pt.cells, Pt.slots] at X21 l21 y21 z21 st21 hQ21
          subst y21 z21
          obtain ⟨rfl, N21q, e21⟩ := hQ21
          have N21 : Fr n0 L21 := l21 ▸ Fr.app N18 N21q
          refine own_go (T' := T21) (f' := (mkF m 61 #[.val (.int xa), .val (.int xb), .val (.int (own_v0_1_s0 xa)), .val (.int (own_v0_23_s0 xa)), .unset, .unset, .unset, .unset, .unset, .unset] [(.int (own_f1 (10000 : Int32)))])) ?_ (st21)
          by_cases hc61_22 : (own_f1 (10000 : Int32)) = (0 : Int32)
          · refine own_go (T' := T21) (f' := (mkF m 64 #[.val (.int xa), .val (.int xb), .val (.int (own_v0_1_s0 xa)), .val (.int (own_v0_23_s0 xa)), .unset, .unset, .unset, .unset, .unset, .unset] [])) ?_ (fun _ k => XS.ifNo X21.here hx rfl (hb hby at_61) rfl ((if0 _ _).trans (teq hc61_22).2) k)
            refine own_go (T' := T21) (f' := (mkF m 65 #[.val (.int xa), .val (.int xb), .val (.int (own_v0_1_s0 xa)), .val (.int (own_v0_23_s0 xa)), .unset, .unset, .unset, .unset, .unset, .unset] [(.int (1 : Int32))])) ?_ (fun _ k => XS.iconst X21.here hx rfl (hb hby at_64) k)
            refine own_go (T' := T21) (f' := (mkF m 69 #[.val (.int xa), .val (.int xb), .val (.int (own_v0_1_s0 xa)), .val (.int (own_v0_23_s0 xa)), .unset, .unset, .unset, .unset, .unset, .unset] [(.int (1 : Int32))])) ?_ (fun _ k => XS.goto X21.here hx rfl (pc0 := 65) (pc' := 69) rfl (hb hby at_65) (by decide) (by decide) k)
            have em23 : own_v0_36_s0 = (1 : Int32) := (Eq.trans (if_pos hc36_14) (Eq.trans (if_neg hc43_16) (Eq.trans (if_neg hc52_19) (if_pos hc61_22))))
            exact ⟨_, ⟨T21, _, (by rw [em23]), X21, e21, N21⟩, fun _ k => k⟩
          · refine own_go (T' := T21) (f' := (mkF m 68 #[.val (.int xa), .val (.int xb), .val (.int (own_v0_1_s0 xa)), .val (.int (own_v0_23_s0 xa)), .unset, .unset, .unset, .unset, .unset, .unset] [])) ?_ (fun _ k => XS.ifYes X21.here hx rfl (pc0 := 61) (pc' := 68) rfl (hb hby at_61) rfl ((if0 _ _).trans (feq hc61_22).2) (by decide) (by decide) k)
            refine own_go (T' := T21) (f' := (mkF m 69 #[.val (.int xa), .val (.int xb), .val (.int (own_v0_1_s0 xa)), .val (.int (own_v0_23_s0 xa)), .unset, .unset, .unset, .unset, .unset, .unset] [(.int (0 : Int32))])) ?_ (fun _ k => XS.iconst X21.here hx rfl (hb hby at_68) k)
            have em24 : own_v0_36_s0 = (0 : Int32) := (Eq.trans (if_pos hc36_14) (Eq.trans (if_neg hc43_16) (Eq.trans (if_neg hc52_19) (if_neg hc61_22))))
            exact ⟨_, ⟨T21, _, (by rw [em24]), X21, e21, N21⟩, fun _ k => k⟩
    · refine own_go (T' := T12) (f' := (mkF m 68 #[.val (.int xa), .val (.int xb), .val (.int (own_v0_1_s0 xa)), .val (.int (own_v0_23_s0 xa)), .unset, .unset, .unset, .unset, .unset, .unset] [])) ?_ (fun _ k => XS.ifYes X12.here hx rfl (pc0 := 36) (pc' := 68) rfl (hb hby at_36) rfl ((if0 _ _).trans (feq hc36_14).2) (by decide) (by decide) k)
      refine own_go (T' := T12) (f' := (mkF m 69 #[.val (.int xa), .val (.int xb), .val (.int (own_v0_1_s0 xa)), .val (.int (own_v0_23_s0 xa)), .unset, .unset, .unset, .unset, .unset, .unset] [(.int (0 : Int32))])) ?_ (fun _ k => XS.iconst X12.here hx rfl (hb hby at_68) k)
      have em25 : own_v0_36_s0 = (0 : Int32) := (if_neg hc36_14)
      exact ⟨_, ⟨T12, _, (by rw [em25]), X12, e12, N12⟩, fun _ k => k⟩
  refine own_go (T' := T13) (f' := (mkF m 69 #[.val (.int xa), .val (.int xb), .val (.int (own_v0_1_s0 xa)), .val (.int (own_v0_23_s0 xa)), .unset, .unset, .unset, .unset, .unset, .unset] [(.int own_v0_36_s0)])) ?_ (mg13)
  refine own_go (T' := T13) (f' := (mkF m 71 #[.val (.int xa), .val (.int xb), .val (.int (own_v0_1_s0 xa)), .val (.int (own_v0_23_s0 xa)), .val (.int own_v0_36_s0), .unset, .unset, .unset, .unset, .unset] [])) ?_ (fun _ k => XS.istore X13.here hx rfl (hb hby at_69) rfl (l' := #[.val (.int xa), .val (.int xb), .val (.int (own_v0_1_s0 xa)), .val (.int (own_v0_23_s0 xa)), .val (.int own_v0_36_s0), .unset, .unset, .unset, .unset, .unset]) rfl k)
  refine own_go (T' := T13) (f' := (mkF m 72 #[.val (.int xa), .val (.int xb), .val (.int (own_v0_1_s0 xa)), .val (.int (own_v0_23_s0 xa)), .val (.int own_v0_36_s0), .unset, .unset, .unset, .unset, .unset] [(.int xb)])) ?_ (fun _ k => XS.iloadN X13.here hx rfl (hb hby at_71) rfl  k)
  refine own_go (T' := T13) (f' := (mkF m 74 #[.val (.int xa), .val (.int xb), .val (.int (own_v0_1_s0 xa)), .val (.int (own_v0_23_s0 xa)), .val (.int own_v0_36_s0), .unset, .unset, .unset, .unset, .unset] [(.int (7 : Int32)), (.int xb)])) ?_ (fun _ k => XS.bipush X13.here hx rfl (hb hby at_72) k)
  refine own_go (T' := T13) (f' := (mkF m 75 #[.val (.int xa), .val (.int xb), .val (.int (own_v0_1_s0 xa)), .val (.int (own_v0_23_s0 xa)), .val (.int own_v0_36_s0), .unset, .unset, .unset, .unset, .unset] [(.int (xb &&& (7 : Int32)))])) ?_ (fun _ k => XS.iand X13.here hx rfl (hb hby at_74) rfl k)
  refine own_go (T' := T13) (f' := (mkF m 76 #[.val (.int xa), .val (.int xb), .val (.int (own_v0_1_s0 xa)), .val (.int (own_v0_23_s0 xa)), .val (.int own_v0_36_s0), .unset, .unset, .unset, .unset, .unset] [(.int (4 : Int32)), (.int (xb &&& (7 : Int32)))])) ?_ (fun _ k => XS.iconst X13.here hx rfl (hb hby at_75) k)
  refine own_go (T' := T13) (f' := (mkF m 77 #[.val (.int xa), .val (.int xb), .val (.int (own_v0_1_s0 xa)), .val (.int (own_v0_23_s0 xa)), .val (.int own_v0_36_s0), .unset, .unset, .unset, .unset, .unset] [(.int ((xb &&& (7 : Int32)) - (4 : Int32)))])) ?_ (fun _ k => XS.isub X13.here hx rfl (hb hby at_76) rfl k)
  refine own_go (T' := T13) (f' := (mkF m 79 #[.val (.int xa), .val (.int xb), .val (.int (own_v0_1_s0 xa)), .val (.int (own_v0_23_s0 xa)), .val (.int own_v0_36_s0), .val (.int ((xb &&& (7 : Int32)) - (4 : Int32))), .unset, .unset, .unset, .unset] [])) ?_ (fun _ k => XS.istore X13.here hx rfl (hb hby at_77) rfl (l' := #[.val (.int xa), .val (.int xb), .val (.int (own_v0_1_s0 xa)), .val (.int (own_v0_23_s0 xa)), .val (.int own_v0_36_s0), .val (.int ((xb &&& (7 : Int32)) - (4 : Int32))), .unset, .unset, .unset, .unset]) rfl k)
  refine own_go (T' := T13) (f' := (mkF m 80 #[.val (.int xa), .val (.int xb), .val (.int (own_v0_1_s0 xa)), .val (.int (own_v0_23_s0 xa)), .val (.int own_v0_36_s0), .val (.int ((xb &&& (7 : Int32)) - (4 : Int32))), .unset, .unset, .unset, .unset] [(.int (1 : Int32))])) ?_ (fun _ k => XS.iconst X13.here hx rfl (hb hby at_79) k)
  refine own_go (T' := T13) (f' := (mkF m 82 #[.val (.int xa), .val (.int xb), .val (.int (own_v0_1_s0 xa)), .val (.int (own_v0_23_s0 xa)), .val (.int own_v0_36_s0), .val (.int ((xb &&& (7 : Int32)) - (4 : Int32))), .unset, .unset, .unset, .unset] [(.int ((xb &&& (7 : Int32)) - (4 : Int32))), (.int (1 : Int32))])) ?_ (fun _ k => XS.iload X13.here hx rfl (hb hby at_80) rfl  k)
  refine own_go (T' := T13) (f' := (mkF m 83 #[.val (.int xa), .val (.int xb), .val (.int (own_v0_1_s0 xa)), .val (.int (own_v0_23_s0 xa)), .val (.int own_v0_36_s0), .val (.int ((xb &&& (7 : Int32)) - (4 : Int32))), .unset, .unset, .unset, .unset] [(.int ((1 : Int32) + ((xb &&& (7 : Int32)) - (4 : Int32))))])) ?_ (fun _ k => XS.iadd X13.here hx rfl (hb hby at_82) rfl k)
  refine own_go (T' := T13) (f' := (mkF m 85 #[.val (.int xa), .val (.int xb), .val (.int (own_v0_1_s0 xa)), .val (.int (own_v0_23_s0 xa)), .val (.int own_v0_36_s0), .val (.int ((xb &&& (7 : Int32)) - (4 : Int32))), .val (.int (own_v0_83 xb)), .unset, .unset, .unset] [])) ?_ (fun _ k => XS.istore X13.here hx rfl (hb hby at_83) rfl (l' := #[.val (.int xa), .val (.int xb), .val (.int (own_v0_1_s0 xa)), .val (.int (own_v0_23_s0 xa)), .val (.int own_v0_36_s0), .val (.int ((xb &&& (7 : Int32)) - (4 : Int32))), .val (.int (own_v0_83 xb)), .unset, .unset, .unset]) rfl k)
  refine own_go (T' := T13) (f' := (mkF m 88 #[.val (.int xa), .val (.int xb), .val (.int (own_v0_1_s0 xa)), .val (.int (own_v0_23_s0 xa)), .val (.int own_v0_36_s0), .val (.int ((xb &&& (7 : Int32)) - (4 : Int32))), .val (.int (own_v0_83 xb)), .unset, .unset, .unset] [(.int (9999 : Int32))])) ?_ (fun _ k => XS.sipush X13.here hx rfl (hb hby at_85) k)
  refine own_go (T' := T13) (f' := (mkF m 90 #[.val (.int xa), .val (.int xb), .val (.int (own_v0_1_s0 xa)), .val (.int (own_v0_23_s0 xa)), .val (.int own_v0_36_s0), .val (.int ((xb &&& (7 : Int32)) - (4 : Int32))), .val (.int (own_v0_83 xb)), .unset, .unset, .unset] [(.int ((xb &&& (7 : Int32)) - (4 : Int32))), (.int (9999 : Int32))])) ?_ (fun _ k => XS.iload X13.here hx rfl (hb hby at_88) rfl  k)
  refine own_go (T' := T13) (f' := (mkF m 91 #[.val (.int xa), .val (.int xb), .val (.int (own_v0_1_s0 xa)), .val (.int (own_v0_23_s0 xa)), .val (.int own_v0_36_s0), .val (.int ((xb &&& (7 : Int32)) - (4 : Int32))), .val (.int (own_v0_83 xb)), .unset, .unset, .unset] [(.int ((9999 : Int32) + ((xb &&& (7 : Int32)) - (4 : Int32))))])) ?_ (fun _ k => XS.iadd X13.here hx rfl (hb hby at_90) rfl k)
  refine own_go (T' := T13) (f' := (mkF m 93 #[.val (.int xa), .val (.int xb), .val (.int (own_v0_1_s0 xa)), .val (.int (own_v0_23_s0 xa)), .val (.int own_v0_36_s0), .val (.int ((xb &&& (7 : Int32)) - (4 : Int32))), .val (.int (own_v0_83 xb)), .val (.int (own_v0_91 xb)), .unset, .unset] [])) ?_ (fun _ k => XS.istore X13.here hx rfl (hb hby at_91) rfl (l' := #[.val (.int xa), .val (.int xb), .val (.int (own_v0_1_s0 xa)), .val (.int (own_v0_23_s0 xa)), .val (.int own_v0_36_s0), .val (.int ((xb &&& (7 : Int32)) - (4 : Int32))), .val (.int (own_v0_83 xb)), .val (.int (own_v0_91 xb)), .unset, .unset]) rfl k)
  refine own_go (T' := T13) (f' := (mkF m 95 #[.val (.int xa), .val (.int xb), .val (.int (own_v0_1_s0 xa)), .val (.int (own_v0_23_s0 xa)), .val (.int own_v0_36_s0), .val (.int ((xb &&& (7 : Int32)) - (4 : Int32))), .val (.int (own_v0_83 xb)), .val (.int (own_v0_91 xb)), .unset, .unset] [(.int (own_v0_83 xb))])) ?_ (fun _ k => XS.iload X13.here hx rfl (hb hby at_93) rfl  k)
  obtain ⟨_, _, ⟨T26, L26, k26, n26⟩, -, X26, ⟨Lc26, hQ26, l26, y26, z26⟩, st26⟩ := Jvm.LawKit.callS X13 hx (y := (⟨"com/example/eben/eben/io/FhirInstant", "isYear", "(I)Z"⟩ : MethodName)) hown (mvT hZ (hw _ (List.mem_of_getElem? (i := 0) rfl))) (mvT hZ (hw _ (List.mem_of_getElem? (i := 1) rfl))) (mvT hZ (hw _ (List.mem_of_getElem? (i := 2) rfl))) (mvT hZ (hw _ (List.mem_of_getElem? (i := 3) rfl))) (by decide) (backOf (W := 0) (own_rm1 l Z a0 hw [] (own_v0_83 xb) h0 n0 Z0) hZ (hw _ (List.mem_of_getElem? (i := 3) rfl)) (hw _ (List.mem_of_getElem? (i := 2) rfl)) (by decide) (by decide)) (g := (mkF m 95 #[.val (.int xa), .val (.int xb), .val (.int (own_v0_1_s0 xa)), .val (.int (own_v0_23_s0 xa)), .val (.int own_v0_36_s0), .val (.int ((xb &&& (7 : Int32)) - (4 : Int32))), .val (.int (own_v0_83 xb)), .val (.int (own_v0_91 xb)), .unset, .unset] [(.int (own_v0_83 xb))])) rfl (by rw [hml]; rfl) (argsL := [(.int (own_v0_83 xb))]) (rest := []) (lenOf own_pd0 rfl) rfl (by show 2 * 0 + _ ≤ _; exact Nat.le_of_eq rfl) (hb hby at_95) (fun _ _ => ⟨rfl, e13, (by decide : 0 + 0 ≤ _), (by decide : 0 + 0 ≤ _)⟩)
  dsimp only [Pt.U, Pt.locs, Pt.cells, Pt.slots] at X26 l26 y26 z26 st26 hQ26
  subst y26 z26
  obtain ⟨rfl, N26q, e26⟩ := hQ26
  have N26 : Fr n0 L26 := l26 ▸ Fr.app N13 N26q
  refine own_go (T' := T26) (f' := (mkF m 98 #[.val (.int xa), .val (.int xb), .val (.int (own_v0_1_s0 xa)), .val (.int (own_v0_23_s0 xa)), .val (.int own_v0_36_s0), .val (.int ((xb &&& (7 : Int32)) - (4 : Int32))), .val (.int (own_v0_83 xb)), .val (.int (own_v0_91 xb)), .unset, .unset] [(.int (own_f1 (own_v0_83 xb)))])) ?_ (st26)
  refine own_go (T' := T26) (f' := (mkF m 100 #[.val (.int xa), .val (.int xb), .val (.int (own_v0_1_s0 xa)), .val (.int (own_v0_23_s0 xa)), .val (.int own_v0_36_s0), .val (.int ((xb &&& (7 : Int32)) - (4 : Int32))), .val (.int (own_v0_83 xb)), .val (.int (own_v0_91 xb)), .unset, .unset] [(.int (own_v0_83 xb)), (.int (own_f1 (own_v0_83 xb)))])) ?_ (fun _ k => XS.iload X26.here hx rfl (hb hby at_98) rfl  k)
  refine own_go (T' := T26) (f' := (mkF m 101 #[.val (.int xa), .val (.int xb), .val (.int (own_v0_1_s0 xa)), .val (.int (own_v0_23_s0 xa)), .val (.int own_v0_36_s0), .val (.int ((xb &&& (7 : Int32)) - (4 : Int32))), .val (.int (own_v0_83 xb)), .val (.int (own_v0_91 xb)), .unset, .unset] [(.int (1 : Int32)), (.int (own_v0_83 xb)), (.int (own_f1 (own_v0_83 xb)))])) ?_ (fun _ k => XS.iconst X26.here hx rfl (hb hby at_100) k)
  obtain ⟨_, ⟨T27, L27, rfl, X27, e27, N27⟩, mg27⟩ : own_Goes p.tables e below (fun uu => ∃ (T' : State) (L' : List Loc), uu = T'.setTop (mkF m 109 #[.val (.int xa), .val (.int xb), .val (.int (own_v0_1_s0 xa)), .val (.int (own_v0_23_s0 xa)), .val (.int own_v0_36_s0), .val (.int ((xb &&& (7 : Int32)) - (4 : Int32))), .val (.int (own_v0_83 xb)), .val (.int (own_v0_91 xb)), .unset, .unset] [(.int (own_v0_101_s0 xb)), (.int (own_f1 (own_v0_83 xb)))]) ∧ Stand p l e room_1 s m #[(.int xa), (.int xb)] below meth c T' L' 0 0 ∧ T'.heap = h0 ∧ Fr n0 L') T26 (mkF m 101 #[.val (.int xa), .val (.int xb), .val (.int (own_v0_1_s0 xa)), .val (.int (own_v0_23_s0 xa)), .val (.int own_v0_36_s0), .val (.int ((xb &&& (7 : Int32)) - (4 : Int32))), .val (.int (own_v0_83 xb)), .val (.int (own_v0_91 xb)), .unset, .unset] [(.int (1 : Int32)), (.int (own_v0_83 xb)), (.int (own_f1 (own_v0_83 xb)))]) := by
    by_cases hc101_28 : (own_v0_83 xb) < (1 : Int32)
    · refine own_go (T' := T26) (f' := (mkF m 108 #[.val (.int xa), .val (.int xb), .val (.int (own_v0_1_s0 xa)), .val (.int (own_v0_23_s0 xa)), .val (.int own_v0_36_s0), .val (.int ((xb &&& (7 : Int32)) - (4 : Int32))), .val (.int (own_v0_83 xb)), .val (.int (own_v0_91 xb)), .unset, .unset] [(.int (own_f1 (own_v0_83 xb)))])) ?_ (fun _ k => XS.icmpYes X26.here hx rfl (pc0 := 101) (pc' := 108) rfl (hb hby at_101) rfl (tlt hc101_28).1 (by decide) (by decide) k)
      refine own_go (T' := T26) (f' := (mkF m 109 #[.val (.int xa), .val (.int xb), .val (.int (own_v0_1_s0 xa)), .val (.int (own_v0_23_s0 xa)), .val (.int own_v0_36_s0), .val (.int ((xb &&& (7 : Int32)) - (4 : Int32))), .val (.int (own_v0_83 xb)), .val (.int (own_v0_91 xb)), .unset, .unset] [(.int (0 : Int32)), (.int (own_f1 (own_v0_83 xb)))])) ?_ (fun _ k => XS.iconst X26.here hx rfl (hb hby at_108) k)
      have em29 : (own_v0_101_s0 xb) = (0 : Int32) := (if_pos hc101_28)
      exact ⟨_, ⟨T26, _, (by rw [em29]), X26, e26, N26⟩, fun _ k => k⟩
    · refine own_go (T' := T26) (f' := (mkF m 104 #[.val (.int xa), .val (.int xb), .val (.int (own_v0_1_s0 xa)), .val (.int (own_v0_23_s0 xa)), .val (.int own_v0_36_s0), .val (.int ((xb &&& (7 : Int32)) - (4 : Int32))), .val (.int (own_v0_83 xb)), .val (.int (own_v0_91 xb)), .unset, .unset] [(.int (own_f1 (own_v0_83 xb)))])) ?_ (fun _ k => XS.icmpNo X26.here hx rfl (hb hby at_101) rfl (flt hc101_28).1 k)
      refine own_go (T' := T26) (f' := (mkF m 105 #[.val (.int xa), .val (.int xb), .val (.int (own_v0_1_s0 xa)), .val (.int (own_v0_23_s0 xa)), .val (.int own_v0_36_s0), .val (.int ((xb &&& (7 : Int32)) - (4 : Int32))), .val (.int (own_v0_83 xb)), .val (.int (own_v0_91 xb)), .unset, .unset] [(.int (1 : Int32)), (.int (own_f1 (own_v0_83 xb)))])) ?_ (fun _ k => XS.iconst X26.here hx rfl (hb hby at_104) k)
      refine own_go (T' := T26) (f' := (mkF m 109 #[.val (.int xa), .val (.int xb), .val (.int (own_v0_1_s0 xa)), .val (.int (own_v0_23_s0 xa)), .val (.int own_v0_36_s0), .val (.int ((xb &&& (7 : Int32)) - (4 : Int32))), .val (.int (own_v0_83 xb)), .val (.int (own_v0_91 xb)), .unset, .unset] [(.int (1 : Int32)), (.int (own_f1 (own_v0_83 xb)))])) ?_ (fun _ k => XS.goto X26.here hx rfl (pc0 := 105) (pc' := 109) rfl (hb hby at_105) (by decide) (by decide) k)
      have em30 : (own_v0_101_s0 xb) = (1 : Int32) := (if_neg hc101_28)
      exact ⟨_, ⟨T26, _, (by rw [em30]), X26, e26, N26⟩, fun _ k => k⟩
  refine own_go (T' := T27) (f' := (mkF m 109 #[.val (.int xa), .val (.int xb), .val (.int (own_v0_1_s0 xa)), .val (.int (own_v0_23_s0 xa)), .val (.int own_v0_36_s0), .val (.int ((xb &&& (7 : Int32)) - (4 : Int32))), .val (.int (own_v0_83 xb)), .val (.int (own_v0_91 xb)), .unset, .unset] [(.int (own_v0_101_s0 xb)), (.int (own_f1 (own_v0_83 xb)))])) ?_ (mg27)
  obtain ⟨_, ⟨T31, L31, rfl, X31, e31, N31⟩, mg31⟩ : own_Goes p.tables e below (fun uu => ∃ (T' : State) (L' : List Loc), uu = T'.setTop (mkF m 117 #[.val (.int xa), .val (.int xb), .val (.int (own_v0_1_s0 xa)), .val (.int (own_v0_23_s0 xa)), .val (.int own_v0_36_s0), .val (.int ((xb &&& (7 : Int32)) - (4 : Int32))), .val (.int (own_v0_83 xb)), .val (.int (own_v0_91 xb)), .unset, .unset] [(.int (own_v0_109_s0 xb))]) ∧ Stand p l e room_1 s m #[(.int xa), (.int xb)] below meth c T' L' 0 0 ∧ T'.heap = h0 ∧ Fr n0 L') T27 (mkF m 109 #[.val (.int xa), .val (.int xb), .val (.int (own_v0_1_s0 xa)), .val (.int (own_v0_23_s0 xa)), .val (.int own_v0_36_s0), .val (.int ((xb &&& (7 : Int32)) - (4 : Int32))), .val (.int (own_v0_83 xb)), .val (.int (own_v0_91 xb)), .unset, .unset] [(.int (own_v0_101_s0 xb)), (.int (own_f1 (own_v0_83 xb)))]) := by
    by_cases hc109_32 : (own_f1 (own_v0_83 xb)) = (own_v0_101_s0 xb)
    · refine own_go (T' := T27) (f' := (mkF m 112 #[.val (.int xa), .val (.int xb), .val (.int (own_v0_1_s0 xa)), .val (.int (own_v0_23_s0 xa)), .val (.int own_v0_36_s0), .val (.int ((xb &&& (7 : Int32)) - (4 : Int32))), .val (.int (own_v0_83 xb)), .val (.int (own_v0_91 xb)), .unset, .unset] [])) ?_ (fun _ k => XS.icmpNo X27.here hx rfl (hb hby at_109) rfl (teq hc109_32).2 k)
      refine own_go (T' := T27) (f' := (mkF m 113 #[.val (.int xa), .val (.int xb), .val (.int (own_v0_1_s0 xa)), .val (.int (own_v0_23_s0 xa)), .val (.int own_v0_36_s0), .val (.int ((xb &&& (7 : Int32)) - (4 : Int32))), .val (.int (own_v0_83 xb)), .val (.int (own_v0_91 xb)), .unset, .unset] [(.int (1 : Int32))])) ?_ (fun _ k => XS.iconst X27.here hx rfl (hb hby at_112) k)
      refine own_go (T' := T27) (f' := (mkF m 117 #[.val (.int xa), .val (.int xb), .val (.int (own_v0_1_s0 xa)), .val (.int (own_v0_23_s0 xa)), .val (.int own_v0_36_s0), .val (.int ((xb &&& (7 : Int32)) - (4 : Int32))), .val (.int (own_v0_83 xb)), .val (.int (own_v0_91 xb)), .unset, .unset] [(.int (1 : Int32))])) ?_ (fun _ k => XS.goto X27.here hx rfl (pc0 := 113) (pc' := 117) rfl (hb hby at_113) (by decide) (by decide) k)
      have em33 : (own_v0_109_s0 xb) = (1 : Int32) := (if_pos hc109_32)
      exact ⟨_, ⟨T27, _, (by rw [em33]), X27, e27, N27⟩, fun _ k => k⟩
    · refine own_go (T' := T27) (f' := (mkF m 116 #[.val (.int xa), .val (.int xb), .val (.int (own_v0_1_s0 xa)), .val (.int (own_v0_23_s0 xa)), .val (.int own_v0_36_s0), .val (.int ((xb &&& (7 : Int32)) - (4 : Int32))), .val (.int (own_v0_83 xb)), .val (.int (own_v0_91 xb)), .unset, .unset] [])) ?_ (fun _ k => XS.icmpYes X27.here hx rfl (pc0 := 109) (pc' := 116) rfl (hb hby at_109) rfl (feq hc109_32).2 (by decide) (by decide) k)
      refine own_go (T' := T27) (f' := (mkF m 117 #[.val (.int xa), .val (.int xb), .val (.int (own_v0_1_s0 xa)), .val (.int (own_v0_23_s0 xa)), .val (.int own_v0_36_s0), .val (.int ((xb &&& (7 : Int32)) - (4 : Int32))), .val (.int (own_v0_83 xb)), .val (.int (own_v0_91 xb)), .unset, .unset] [(.int (0 : Int32))])) ?_ (fun _ k => XS.iconst X27.here hx rfl (hb hby at_116) k)
      have em34 : (own_v0_109_s0 xb) = (0 : Int32) := (if_neg hc109_32)
      exact ⟨_, ⟨T27, _, (by rw [em34]), X27, e27, N27⟩, fun _ k => k⟩
  refine own_go (T' := T31) (f' := (mkF m 117 #[.val (.int xa), .val (.int xb), .val (.int (own_v0_1_s0 xa)), .val (.int (own_v0_23_s0 xa)), .val (.int own_v0_36_s0), .val (.int ((xb &&& (7 : Int32)) - (4 : Int32))), .val (.int (own_v0_83 xb)), .val (.int (own_v0_91 xb)), .unset, .unset] [(.int (own_v0_109_s0 xb))])) ?_ (mg31)
  refine own_go (T' := T31) (f' := (mkF m 119 #[.val (.int xa), .val (.int xb), .val (.int (own_v0_1_s0 xa)), .val (.int (own_v0_23_s0 xa)), .val (.int own_v0_36_s0), .val (.int ((xb &&& (7 : Int32)) - (4 : Int32))), .val (.int (own_v0_83 xb)), .val (.int (own_v0_91 xb)), .val (.int (own_v0_109_s0 xb)), .unset] [])) ?_ (fun _ k => XS.istore X31.here hx rfl (hb hby at_117) rfl (l' := #[.val (.int xa), .val (.int xb), .val (.int (own_v0_1_s0 xa)), .val (.int (own_v0_23_s0 xa)), .val (.int own_v0_36_s0), .val (.int ((xb &&& (7 : Int32)) - (4 : Int32))), .val (.int (own_v0_83 xb)), .val (.int (own_v0_91 xb)), .val (.int (own_v0_109_s0 xb)), .unset]) rfl k)
  refine own_go (T' := T31) (f' := (mkF m 121 #[.val (.int xa), .val (.int xb), .val (.int (own_v0_1_s0 xa)), .val (.int (own_v0_23_s0 xa)), .val (.int own_v0_36_s0), .val (.int ((xb &&& (7 : Int32)) - (4 : Int32))), .val (.int (own_v0_83 xb)), .val (.int (own_v0_91 xb)), .val (.int (own_v0_109_s0 xb)), .unset] [(.int (own_v0_91 xb))])) ?_ (fun _ k => XS.iload X31.here hx rfl (hb hby at_119) rfl  k)
  obtain ⟨_, _, ⟨T35, L35, k35, n35⟩, -, X35, ⟨Lc35, hQ35, l35, y35, z35⟩, st35⟩ := Jvm.LawKit.callS X31 hx (y := (⟨"com/example/eben/eben/io/FhirInstant", "isYear", "(I)Z"⟩ : MethodName)) hown (mvT hZ (hw _ (List.mem_of_getElem? (i := 0) rfl))) (mvT hZ (hw _ (List.mem_of_getElem? (i := 1) rfl))) (mvT hZ (hw _ (List.mem_of_getElem? (i := 2) rfl))) (mvT hZ (hw _ (List.mem_of_getElem? (i := 3) rfl))) (by decide) (backOf (W := 0) (own_rm1 l Z a0 hw [] (own_v0_91 xb) h0 n0 Z0) hZ (hw _ (List.mem_of_getElem? (i := 3) rfl)) (hw _ (List.mem_of_getElem? (i := 2) rfl)) (by decide) (by decide)) (g := (mkF m 121 #[.val (.int xa), .val (.int xb), .val (.int (own_v0_1_s0 xa)), .val (.int (own_v0_23_s0 xa)), .val (.int own_v0_36_s0), .val (.int ((xb &&& (7 : Int32)) - (4 : Int32))), .val (.int (own_v0_83 xb)), .val (.int (own_v0_91 xb)), .val (.int (own_v0_109_s0 xb)), .unset] [(.int (own_v0_91 xb))])) rfl (by rw [hml]; rfl) (argsL := [(.int (own_v0_91 xb))]) (rest := []) (lenOf own_pd0 rfl) rfl (by show 2 * 0 + _ ≤ _; exact Nat.le_of_eq rfl) (hb hby at_121) (fun _ _ => ⟨rfl, e31, (by decide : 0 + 0 ≤ _), (by decide : 0 + 0 ≤ _)⟩)
  dsimp only [Pt.U, Pt.locs, Pt.cells, Pt.slots] at X35 l35 y35 z35 st35 hQ35
  subst y35 z35
  obtain ⟨rfl, N35q, e35⟩ := hQ35
  have N35 : Fr n0 L35 := l35 ▸ Fr.app N31 N35q
  refine own_go (T' := T35) (f' := (mkF m 124 #[.val (.int xa), .val (.int xb), .val (.int (own_v0_1_s0 xa)), .val (.int (own_v0_23_s0 xa)), .val (.int own_v0_36_s0), .val (.int ((xb &&& (7 : Int32)) - (4 : Int32))), .val (.int (own_v0_83 xb)), .val (.int (own_v0_91 xb)), .val (.int (own_v0_109_s0 xb)), .unset] [(.int (own_f1 (own_v0_91 xb)))])) ?_ (st35)
  refine own_go (T' := T35) (f' := (mkF m 126 #[.val (.int xa), .val (.int xb), .val (.int (own_v0_1_s0 xa)), .val (.int (own_v0_23_s0 xa)), .val (.int own_v0_36_s0), .val (.int ((xb &&& (7 : Int32)) - (4 : Int32))), .val (.int (own_v0_83 xb)), .val (.int (own_v0_91 xb)), .val (.int (own_v0_109_s0 xb)), .unset] [(.int (own_v0_91 xb)), (.int (own_f1 (own_v0_91 xb)))])) ?_ (fun _ k => XS.iload X35.here hx rfl (hb hby at_124) rfl  k)
  refine own_go (T' := T35) (f' := (mkF m 129 #[.val (.int xa), .val (.int xb), .val (.int (own_v0_1_s0 xa)), .val (.int (own_v0_23_s0 xa)), .val (.int own_v0_36_s0), .val (.int ((xb &&& (7 : Int32)) - (4 : Int32))), .val (.int (own_v0_83 xb)), .val (.int (own_v0_91 xb)), .val (.int (own_v0_109_s0 xb)), .unset] [(.int (9999 : Int32)), (.int (own_v0_91 xb)), (.int (own_f1 (own_v0_91 xb)))])) ?_ (fun _ k => XS.sipush X35.here hx rfl (hb hby at_126) k)
  obtain ⟨_, ⟨T36, L36, rfl, X36, e36, N36⟩, mg36⟩ : own_Goes p.tables e below (fun uu => ∃ (T' : State) (L' : List Loc), uu = T'.setTop (mkF m 137 #[.val (.int xa), .val (.int xb), .val (.int (own_v0_1_s0 xa)), .val (.int (own_v0_23_s0 xa)), .val (.int own_v0_36_s0), .val (.int ((xb &&& (7 : Int32)) - (4 : Int32))), .val (.int (own_v0_83 xb)), .val (.int (own_v0_91 xb)), .val (.int (own_v0_109_s0 xb)), .unset] [(.int (own_v0_129_s0 xb)), (.int (own_f1 (own_v0_91 xb)))]) ∧ Stand p l e room_1 s m #[(.int xa), (.int xb)] below meth c T' L' 0 0 ∧ T'.heap = h0 ∧ Fr n0 L') T35 (mkF m 129 #[.val (.int xa), .val (.int xb), .val (.int (own_v0_1_s0 xa)), .val (.int (own_v0_23_s0 xa)), .val (.int own_v0_36_s0), .val (.int ((xb &&& (7 : Int32)) - (4 : Int32))), .val (.int (own_v0_83 xb)), .val (.int (own_v0_91 xb)), .val (.int (own_v0_109_s0 xb)), .unset] [(.int (9999 : Int32)), (.int (own_v0_91 xb)), (.int (own_f1 (own_v0_91 xb)))]) := by
    by_cases hc129_37 : (9999 : Int32) < (own_v0_91 xb)
    · refine own_go (T' := T35) (f' := (mkF m 136 #[.val (.int xa), .val (.int xb), .val (.int (own_v0_1_s0 xa)), .val (.int (own_v0_23_s0 xa)), .val (.int own_v0_36_s0), .val (.int ((xb &&& (7 : Int32)) - (4 : Int32))), .val (.int (own_v0_83 xb)), .val (.int (own_v0_91 xb)), .val (.int (own_v0_109_s0 xb)), .unset] [(.int (own_f1 (own_v0_91 xb)))])) ?_ (fun _ k => XS.icmpYes X35.here hx rfl (pc0 := 129) (pc' := 136) rfl (hb hby at_129) rfl (tlt hc129_37).2.2.1 (by decide) (by decide) k)
      refine own_go (T' := T35) (f' := (mkF m 137 #[.val (.int xa), .val (.int xb), .val (.int (own_v0_1_s0 xa)), .val (.int (own_v0_23_s0 xa)), .val (.int own_v0_36_s0), .val (.int ((xb &&& (7 : Int32)) - (4 : Int32))), .val (.int (own_v0_83 xb)), .val (.int (own_v0_91 xb)), .val (.int (own_v0_109_s0 xb)), .unset] [(.int (0 : Int32)), (.int (own_f1 (own_v0_91 xb)))])) ?_ (fun _ k => XS.iconst X35.here hx rfl (hb hby at_136) k)
      have em38 : (own_v0_129_s0 xb) = (0 : Int32) := (if_pos hc129_37)
      exact ⟨_, ⟨T35, _, (by rw [em38]), X35, e35, N35⟩, fun _ k => k⟩
    · refine own_go (T' := T35) (f' := (mkF m 132 #[.val (.int xa), .val (.int xb), .val (.int (own_v0_1_s0 xa)), .val (.int (own_v0_23_s0 xa)), .val (.int own_v0_36_s0), .val (.int ((xb &&& (7 : Int32)) - (4 : Int32))), .val (.int (own_v0_83 xb)), .val (.int (own_v0_91 xb)), .val (.int (own_v0_109_s0 xb)), .unset] [(.int (own_f1 (own_v0_91 xb)))])) ?_ (fun _ k => XS.icmpNo X35.here hx rfl (hb hby at_129) rfl (flt hc129_37).2.2.1 k)
      refine own_go (T' := T35) (f' := (mkF m 133 #[.val (.int xa), .val (.int xb), .val (.int (own_v0_1_s0 xa)), .val (.int (own_v0_23_s0 xa)), .val (.int own_v0_36_s0), .val (.int ((xb &&& (7 : Int32)) - (4 : Int32))), .val (.int (own_v0_83 xb)), .val (.int (own_v0_91 xb)), .val (.int (own_v0_109_s0 xb)), .unset] [(.int (1 : Int32)), (.int (own_f1 (own_v0_91 xb)))])) ?_ (fun _ k => XS.iconst X35.here hx rfl (hb hby at_132) k)
      refine own_go (T' := T35) (f' := (mkF m 137 #[.val (.int xa), .val (.int xb), .val (.int (own_v0_1_s0 xa)), .val (.int (own_v0_23_s0 xa)), .val (.int own_v0_36_s0), .val (.int ((xb &&& (7 : Int32)) - (4 : Int32))), .val (.int (own_v0_83 xb)), .val (.int (own_v0_91 xb)), .val (.int (own_v0_109_s0 xb)), .unset] [(.int (1 : Int32)), (.int (own_f1 (own_v0_91 xb)))])) ?_ (fun _ k => XS.goto X35.here hx rfl (pc0 := 133) (pc' := 137) rfl (hb hby at_133) (by decide) (by decide) k)
      have em39 : (own_v0_129_s0 xb) = (1 : Int32) := (if_neg hc129_37)
      exact ⟨_, ⟨T35, _, (by rw [em39]), X35, e35, N35⟩, fun _ k => k⟩
  refine own_go (T' := T36) (f' := (mkF m 137 #[.val (.int xa), .val (.int xb), .val (.int (own_v0_1_s0 xa)), .val (.int (own_v0_23_s0 xa)), .val (.int own_v0_36_s0), .val (.int ((xb &&& (7 : Int32)) - (4 : Int32))), .val (.int (own_v0_83 xb)), .val (.int (own_v0_91 xb)), .val (.int (own_v0_109_s0 xb)), .unset] [(.int (own_v0_129_s0 xb)), (.int (own_f1 (own_v0_91 xb)))])) ?_ (mg36)
  obtain ⟨_, ⟨T40, L40, rfl, X40, e40, N40⟩, mg40⟩ : own_Goes p.tables e below (fun uu => ∃ (T' : State) (L' : List Loc), uu = T'.setTop (mkF m 145 #[.val (.int xa), .val (.int xb), .val (.int (own_v0_1_s0 xa)), .val (.int (own_v0_23_s0 xa)), .val (.int own_v0_36_s0), .val (.int ((xb &&& (7 : Int32)) - (4 : Int32))), .val (.int (own_v0_83 xb)), .val (.int (own_v0_91 xb)), .val (.int (own_v0_109_s0 xb)), .unset] [(.int (own_v0_137_s0 xb))]) ∧ Stand p l e room_1 s m #[(.int xa), (.int xb)] below meth c T' L' 0 0 ∧ T'.heap = h0 ∧ Fr n0 L') T36 (mkF m 137 #[.val (.int xa), .val (.int xb), .val (.int (own_v0_1_s0 xa)), .val (.int (own_v0_23_s0 xa)), .val (.int own_v0_36_s0), .val (.int ((xb &&& (7 : Int32)) - (4 : Int32))), .val (.int (own_v0_83 xb)), .val (.int (own_v0_91 xb)), .val (.int (own_v0_109_s0 xb)), .unset] [(.int (own_v0_129_s0 xb)), (.int (own_f1 (own_v0_91 xb)))]) := by
    by_cases hc137_41 : (own_f1 (own_v0_91 xb)) = (own_v0_129_s0 xb)
    · refine own_go (T' := T36) (f' := (mkF m 140 #[.val (.int xa), .val (.int xb), .val (.int (own_v0_1_s0 xa)), .val (.int (own_v0_23_s0 xa)), .val (.int own_v0_36_s0), .val (.int ((xb &&& (7 : Int32)) - (4 : Int32))), .val (.int (own_v0_83 xb)), .val (.int (own_v0_91 xb)), .val (.int (own_v0_109_s0 xb)), .unset] [])) ?_ (fun _ k => XS.icmpNo X36.here hx rfl (hb hby at_137) rfl (teq hc137_41).2 k)
      refine own_go (T' := T36) (f' := (mkF m 141 #[.val (.int xa), .val (.int xb), .val (.int (own_v0_1_s0 xa)), .val (.int (own_v0_23_s0 xa)), .val (.int own_v0_36_s0), .val (.int ((xb &&& (7 : Int32)) - (4 : Int32))), .val (.int (own_v0_83 xb)), .val (.int (own_v0_91 xb)), .val (.int (own_v0_109_s0 xb)), .unset] [(.int (1 : Int32))])) ?_ (fun _ k => XS.iconst X36.here hx rfl (hb hby at_140) k)
      refine own_go (T' := T36) (f' := (mkF m 145 #[.val (.int xa), .val (.int xb), .val (.int (own_v0_1_s0 xa)), .val (.int (own_v0_23_s0 xa)), .val (.int own_v0_36_s0), .val (.int ((xb &&& (7 : Int32)) - (4 : Int32))), .val (.int (own_v0_83 xb)), .val (.int (own_v0_91 xb)), .val (.int (own_v0_109_s0 xb)), .unset] [(.int (1 : Int32))])) ?_ (fun _ k => XS.goto X36.here hx rfl (pc0 := 141) (pc' := 145) rfl (hb hby at_141) (by decide) (by decide) k)
      have em42 : (own_v0_137_s0 xb) = (1 : Int32) := (if_pos hc137_41)
      exact ⟨_, ⟨T36, _, (by rw [em42]), X36, e36, N36⟩, fun _ k => k⟩
    · refine own_go (T' := T36) (f' := (mkF m 144 #[.val (.int xa), .val (.int xb), .val (.int (own_v0_1_s0 xa)), .val (.int (own_v0_23_s0 xa)), .val (.int own_v0_36_s0), .val (.int ((xb &&& (7 : Int32)) - (4 : Int32))), .val (.int (own_v0_83 xb)), .val (.int (own_v0_91 xb)), .val (.int (own_v0_109_s0 xb)), .unset] [])) ?_ (fun _ k => XS.icmpYes X36.here hx rfl (pc0 := 137) (pc' := 144) rfl (hb hby at_137) rfl (feq hc137_41).2 (by decide) (by decide) k)
      refine own_go (T' := T36) (f' := (mkF m 145 #[.val (.int xa), .val (.int xb), .val (.int (own_v0_1_s0 xa)), .val (.int (own_v0_23_s0 xa)), .val (.int own_v0_36_s0), .val (.int ((xb &&& (7 : Int32)) - (4 : Int32))), .val (.int (own_v0_83 xb)), .val (.int (own_v0_91 xb)), .val (.int (own_v0_109_s0 xb)), .unset] [(.int (0 : Int32))])) ?_ (fun _ k => XS.iconst X36.here hx rfl (hb hby at_144) k)
      have em43 : (own_v0_137_s0 xb) = (0 : Int32) := (if_neg hc137_41)
      exact ⟨_, ⟨T36, _, (by rw [em43]), X36, e36, N36⟩, fun _ k => k⟩
  refine own_go (T' := T40) (f' := (mkF m 145 #[.val (.int xa), .val (.int xb), .val (.int (own_v0_1_s0 xa)), .val (.int (own_v0_23_s0 xa)), .val (.int own_v0_36_s0), .val (.int ((xb &&& (7 : Int32)) - (4 : Int32))), .val (.int (own_v0_83 xb)), .val (.int (own_v0_91 xb)), .val (.int (own_v0_109_s0 xb)), .unset] [(.int (own_v0_137_s0 xb))])) ?_ (mg40)
  refine own_go (T' := T40) (f' := (mkF m 147 #[.val (.int xa), .val (.int xb), .val (.int (own_v0_1_s0 xa)), .val (.int (own_v0_23_s0 xa)), .val (.int own_v0_36_s0), .val (.int ((xb &&& (7 : Int32)) - (4 : Int32))), .val (.int (own_v0_83 xb)), .val (.int (own_v0_91 xb)), .val (.int (own_v0_109_s0 xb)), .val (.int (own_v0_137_s0 xb))] [])) ?_ (fun _ k => XS.istore X40.here hx rfl (hb hby at_145) rfl (l' := #[.val (.int xa), .val (.int xb), .val (.int (own_v0_1_s0 xa)), .val (.int (own_v0_23_s0 xa)), .val (.int own_v0_36_s0), .val (.int ((xb &&& (7 : Int32)) - (4 : Int32))), .val (.int (own_v0_83 xb)), .val (.int (own_v0_91 xb)), .val (.int (own_v0_109_s0 xb)), .val (.int (own_v0_137_s0 xb))]) rfl k)
  refine own_go (T' := T40) (f' := (mkF m 148 #[.val (.int xa), .val (.int xb), .val (.int (own_v0_1_s0 xa)), .val (.int (own_v0_23_s0 xa)), .val (.int own_v0_36_s0), .val (.int ((xb &&& (7 : Int32)) - (4 : Int32))), .val (.int (own_v0_83 xb)), .val (.int (own_v0_91 xb)), .val (.int (own_v0_109_s0 xb)), .val (.int (own_v0_137_s0 xb))] [(.int (own_v0_23_s0 xa))])) ?_ (fun _ k => XS.iloadN X40.here hx rfl (hb hby at_147) rfl  k)
  obtain ⟨_, ⟨T44, L44, rfl, X44, e44, N44⟩, mg44⟩ : own_Goes p.tables e below (fun uu => ∃ (T' : State) (L' : List Loc), uu = T'.setTop (mkF m 171 #[.val (.int xa), .val (.int xb), .val (.int (own_v0_1_s0 xa)), .val (.int (own_v0_23_s0 xa)), .val (.int own_v0_36_s0), .val (.int ((xb &&& (7 : Int32)) - (4 : Int32))), .val (.int (own_v0_83 xb)), .val (.int (own_v0_91 xb)), .val (.int (own_v0_109_s0 xb)), .val (.int (own_v0_137_s0 xb))] [(.int (own_v0_148_s0 xa xb))]) ∧ Stand p l e room_1 s m #[(.int xa), (.int xb)] below meth c T' L' 0 0 ∧ T'.heap = h0 ∧ Fr n0 L') T40 (mkF m 148 #[.val (.int xa), .val (.int xb), .val (.int (own_v0_1_s0 xa)), .val (.int (own_v0_23_s0 xa)), .val (.int own_v0_36_s0), .val (.int ((xb &&& (7 : Int32)) - (4 : Int32))), .val (.int (own_v0_83 xb)), .val (.int (own_v0_91 xb)), .val (.int (own_v0_109_s0 xb)), .val (.int (own_v0_137_s0 xb))] [(.int (own_v0_23_s0 xa))]) := by
    by_cases hc148_45 : (own_v0_23_s0 xa) = (0 : Int32)
    · refine own_go (T' := T40) (f' := (mkF m 170 #[.val (.int xa), .val (.int xb), .val (.int (own_v0_1_s0 xa)), .val (.int (own_v0_23_s0 xa)), .val (.int own_v0_36_s0), .val (.int ((xb &&& (7 : Int32)) - (4 : Int32))), .val (.int (own_v0_83 xb)), .val (.int (own_v0_91 xb)), .val (.int (own_v0_109_s0 xb)), .val (.int (own_v0_137_s0 xb))] [])) ?_ (fun _ k => XS.ifYes X40.here hx rfl (pc0 := 148) (pc' := 170) rfl (hb hby at_148) rfl ((if0 _ _).trans (teq hc148_45).1) (by decide) (by decide) k)
      refine own_go (T' := T40) (f' := (mkF m 171 #[.val (.int xa), .val (.int xb), .val (.int (own_v0_1_s0 xa)), .val (.int (own_v0_23_s0 xa)), .val (.int own_v0_36_s0), .val (.int ((xb &&& (7 : Int32)) - (4 : Int32))), .val (.int (own_v0_83 xb)), .val (.int (own_v0_91 xb)), .val (.int (own_v0_109_s0 xb)), .val (.int (own_v0_137_s0 xb))] [(.int (0 : Int32))])) ?_ (fun _ k => XS.iconst X40.here hx rfl (hb hby at_170) k)
      have em46 : (own_v0_148_s0 xa xb) = (0 : Int32) := (if_pos hc148_45)
      exact ⟨_, ⟨T40, _, (by rw [em46]), X40, e40, N40⟩, fun _ k => k⟩
    · refine own_go (T' := T40) (f' := (mkF m 151 #[.val (.int xa), .val (.int xb), .val (.int (own_v0_1_s0 xa)), .val (.int (own_v0_23_s0 xa)), .val (.int own_v0_36_s0), .val (.int ((xb &&& (7 : Int32)) - (4 : Int32))), .val (.int (own_v0_83 xb)), .val (.int (own_v0_91 xb)), .val (.int (own_v0_109_s0 xb)), .val (.int (own_v0_137_s0 xb))] [])) ?_ (fun _ k => XS.ifNo X40.here hx rfl (hb hby at_148) rfl ((if0 _ _).trans (feq hc148_45).1) k)
      refine own_go (T' := T40) (f' := (mkF m 153 #[.val (.int xa), .val (.int xb), .val (.int (own_v0_1_s0 xa)), .val (.int (own_v0_23_s0 xa)), .val (.int own_v0_36_s0), .val (.int ((xb &&& (7 : Int32)) - (4 : Int32))), .val (.int (own_v0_83 xb)), .val (.int (own_v0_91 xb)), .val (.int (own_v0_109_s0 xb)), .val (.int (own_v0_137_s0 xb))] [(.int own_v0_36_s0)])) ?_ (fun _ k => XS.iload X40.here hx rfl (hb hby at_151) rfl  k)
      by_cases hc153_47 : own_v0_36_s0 = (0 : Int32)
      · refine own_go (T' := T40) (f' := (mkF m 170 #[.val (.int xa), .val (.int xb), .val (.int (own_v0_1_s0 xa)), .val (.int (own_v0_23_s0 xa)), .val (.int own_v0_36_s0), .val (.int ((xb &&& (7 : Int32)) - (4 : Int32))), .val (.int (own_v0_83 xb)), .val (.int (own_v0_91 xb)), .val (.int (own_v0_109_s0 xb)), .val (.int (own_v0_137_s0 xb))] [])) ?_ (fun _ k => XS.ifYes X40.here hx rfl (pc0 := 153) (pc' := 170) rfl (hb hby at_153) rfl ((if0 _ _).trans (teq hc153_47).1) (by decide) (by decide) k)
        refine own_go (T' := T40) (f' := (mkF m 171 #[.val (.int xa), .val (.int xb), .val (.int (own_v0_1_s0 xa)), .val (.int (own_v0_23_s0 xa)), .val (.int own_v0_36_s0), .val (.int ((xb &&& (7 : Int32)) - (4 : Int32))), .val (.int (own_v0_83 xb)), .val (.int (own_v0_91 xb)), .val (.int (own_v0_109_s0 xb)), .val (.int (own_v0_137_s0 xb))] [(.int (0 : Int32))])) ?_ (fun _ k => XS.iconst X40.here hx rfl (hb hby at_170) k)
        have em48 : (own_v0_148_s0 xa xb) = (0 : Int32) := (Eq.trans (if_neg hc148_45) (if_pos hc153_47))
        exact ⟨_, ⟨T40, _, (by rw [em48]), X40, e40, N40⟩, fun _ k => k⟩
      · refine own_go (T' := T40) (f' := (mkF m 156 #[.val (.int xa), .val (.int xb), .val (.int (own_v0_1_s0 xa)), .val (.int (own_v0_23_s0 xa)), .val (.int own_v0_36_s0), .val (.int ((xb &&& (7 : Int32)) - (4 : Int32))), .val (.int (own_v0_83 xb)), .val (.int (own_v0_91 xb)), .val (.int (own_v0_109_s0 xb)), .val (.int (own_v0_137_s0 xb))] [])) ?_ (fun _ k => XS.ifNo X40.here hx rfl (hb hby at_153) rfl ((if0 _ _).trans (feq hc153_47).1) k)
        refine own_go (T' := T40) (f' := (mkF m 158 #[.val (.int xa), .val (.int xb), .val (.int (own_v0_1_s0 xa)), .val (.int (own_v0_23_s0 xa)), .val (.int own_v0_36_s0), .val (.int ((xb &&& (7 : Int32)) - (4 : Int32))), .val (.int (own_v0_83 xb)), .val (.int (own_v0_91 xb)), .val (.int (own_v0_109_s0 xb)), .val (.int (own_v0_137_s0 xb))] [(.int (own_v0_109_s0 xb))])) ?_ (fun _ k => XS.iload X40.here hx rfl (hb hby at_156) rfl  k)
        by_cases hc158_49 : (own_v0_109_s0 xb) = (0 : Int32)
        · refine own_go (T' := T40) (f' := (mkF m 170 #[.val (.int xa), .val (.int xb), .val (.int (own_v0_1_s0 xa)), .val (.int (own_v0_23_s0 xa)), .val (.int own_v0_36_s0), .val (.int ((xb &&& (7 : Int32)) - (4 : Int32))), .val (.int (own_v0_83 xb)), .val (.int (own_v0_91 xb)), .val (.int (own_v0_109_s0 xb)), .val (.int (own_v0_137_s0 xb))] [])) ?_ (fun _ k => XS.ifYes X40.here hx rfl (pc0 := 158) (pc' := 170) rfl (hb hby at_158) rfl ((if0 _ _).trans (teq hc158_49).1) (by decide) (by decide) k)
          refine own_go (T' := T40) (f' := (mkF m 171 #[.val (.int xa), .val (.int xb), .val (.int (own_v0_1_s0 xa)), .val (.int (own_v0_23_s0 xa)), .val (.int own_v0_36_s0), .val (.int ((xb &&& (7 : Int32)) - (4 : Int32))), .val (.int (own_v0_83 xb)), .val (.int (own_v0_91 xb)), .val (.int (own_v0_109_s0 xb)), .val (.int (own_v0_137_s0 xb))] [(.int (0 : Int32))])) ?_ (fun _ k => XS.iconst X40.here hx rfl (hb hby at_170) k)
          have em50 : (own_v0_148_s0 xa xb) = (0 : Int32) := (Eq.trans (if_neg hc148_45) (Eq.trans (if_neg hc153_47) (if_pos hc158_49)))
          exact ⟨_, ⟨T40, _, (by rw [em50]), X40, e40, N40⟩, fun _ k => k⟩
        · refine own_go (T' := T40) (f' := (mkF m 161 #[.val (.int xa), .val (.int xb), .val (.int (own_v0_1_s0 xa)), .val (.int (own_v0_23_s0 xa)), .val (.int own_v0_36_s0), .val (.int ((xb &&& (7 : Int32)) - (4 : Int32))), .val (.int (own_v0_83 xb)), .val (.int (own_v0_91 xb)), .val (.int (own_v0_109_s0 xb)), .val (.int (own_v0_137_s0 xb))] [])) ?_ (fun _ k => XS.ifNo X40.here hx rfl (hb hby at_158) rfl ((if0 _ _).trans (feq hc158_49).1) k)
          refine own_go (T' := T40) (f' := (mkF m 163 #[.val (.int xa), .val (.int xb), .val (.int (own_v0_1_s0 xa)), .val (.int (own_v0_23_s0 xa)), .val (.int own_v0_36_s0), .val (.int ((xb &&& (7 : Int32)) - (4 : Int32))), .val (.int (own_v0_83 xb)), .val (.int (own_v0_91 xb)), .val (.int (own_v0_109_s0 xb)), .val (.int (own_v0_137_s0 xb))] [(.int (own_v0_137_s0 xb))])) ?_ (fun _ k => XS.iload X40.here hx rfl (hb hby at_161) rfl  k)
          by_cases hc163_51 : (own_v0_137_s0 xb) = (0 : Int32)
          · refine own_go (T' := T40) (f' := (mkF m 170 #[.val (.int xa), .val (.int xb), .val (.int (own_v0_1_s0 xa)), .val (.int (own_v0_23_s0 xa)), .val (.int own_v0_36_s0), .val (.int ((xb &&& (7 : Int32)) - (4 : Int32))), .val (.int (own_v0_83 xb)), .val (.int (own_v0_91 xb)), .val (.int (own_v0_109_s0 xb)), .val (.int (own_v0_137_s0 xb))] [])) ?_ (fun _ k => XS.ifYes X40.here hx rfl (pc0 := 163) (pc' := 170) rfl (hb hby at_163) rfl ((if0 _ _).trans (teq hc163_51).1) (by decide) (by decide) k)
            refine own_go (T' := T40) (f' := (mkF m 171 #[.val (.int xa), .val (.int xb), .val (.int (own_v0_1_s0 xa)), .val (.int (own_v0_23_s0 xa)), .val (.int own_v0_36_s0), .val (.int ((xb &&& (7 : Int32)) - (4 : Int32))), .val (.int (own_v0_83 xb)), .val (.int (own_v0_91 xb)), .val (.int (own_v0_109_s0 xb)), .val (.int (own_v0_137_s0 xb))] [(.int (0 : Int32))])) ?_ (fun _ k => XS.iconst X40.here hx rfl (hb hby at_170) k)
            have em52 : (own_v0_148_s0 xa xb) = (0 : Int32) := (Eq.trans (if_neg hc148_45) (Eq.trans (if_neg hc153_47) (Eq.trans (if_neg hc158_49) (if_pos hc163_51))))
            exact ⟨_, ⟨T40, _, (by rw [em52]), X40, e40, N40⟩, fun _ k => k⟩
          · refine own_go (T' := T40) (f' := (mkF m 166 #[.val (.int xa), .val (.int xb), .val (.int (own_v0_1_s0 xa)), .val (.int (own_v0_23_s0 xa)), .val (.int own_v0_36_s0), .val (.int ((xb &&& (7 : Int32)) - (4 : Int32))), .val (.int (own_v0_83 xb)), .val (.int (own_v0_91 xb)), .val (.int (own_v0_109_s0 xb)), .val (.int (own_v0_137_s0 xb))] [])) ?_ (fun _ k => XS.ifNo X40.here hx rfl (hb hby at_163) rfl ((if0 _ _).trans (feq hc163_51).1) k)
            refine own_go (T' := T40) (f' := (mkF m 167 #[.val (.int xa), .val (.int xb), .val (.int (own_v0_1_s0 xa)), .val (.int (own_v0_23_s0 xa)), .val (.int own_v0_36_s0), .val (.int ((xb &&& (7 : Int32)) - (4 : Int32))), .val (.int (own_v0_83 xb)), .val (.int (own_v0_91 xb)), .val (.int (own_v0_109_s0 xb)), .val (.int (own_v0_137_s0 xb))] [(.int (1 : Int32))])) ?_ (fun _ k => XS.iconst X40.here hx rfl (hb hby at_166) k)
            refine own_go (T' := T40) (f' := (mkF m 171 #[.val (.int xa), .val (.int xb), .val (.int (own_v0_1_s0 xa)), .val (.int (own_v0_23_s0 xa)), .val (.int own_v0_36_s0), .val (.int ((xb &&& (7 : Int32)) - (4 : Int32))), .val (.int (own_v0_83 xb)), .val (.int (own_v0_91 xb)), .val (.int (own_v0_109_s0 xb)), .val (.int (own_v0_137_s0 xb))] [(.int (1 : Int32))])) ?_ (fun _ k => XS.goto X40.here hx rfl (pc0 := 167) (pc' := 171) rfl (hb hby at_167) (by decide) (by decide) k)
            have em53 : (own_v0_148_s0 xa xb) = (1 : Int32) := (Eq.trans (if_neg hc148_45) (Eq.trans (if_neg hc153_47) (Eq.trans (if_neg hc158_49) (if_neg hc163_51))))
            exact ⟨_, ⟨T40, _, (by rw [em53]), X40, e40, N40⟩, fun _ k => k⟩
  refine own_go (T' := T44) (f' := (mkF m 171 #[.val (.int xa), .val (.int xb), .val (.int (own_v0_1_s0 xa)), .val (.int (own_v0_23_s0 xa)), .val (.int own_v0_36_s0), .val (.int ((xb &&& (7 : Int32)) - (4 : Int32))), .val (.int (own_v0_83 xb)), .val (.int (own_v0_91 xb)), .val (.int (own_v0_109_s0 xb)), .val (.int (own_v0_137_s0 xb))] [(.int (own_v0_148_s0 xa xb))])) ?_ (mg44)
  obtain ⟨fs54, hr54, hrun54, hended54, hW54, hsame54⟩ := X44.leave (v := some (.int (own_v0_148_s0 xa xb))) (fun h => by rw [Bd.returns] at h; cases h)
  refine ⟨_, ⟨_, hrun54, hended54, _, _, rfl, ?_, ⟨_, rfl⟩, hW54, hsame54.mono (by decide) (by decide)⟩, fun _ k => (own_retZ X44 hx Bd.returns (own_b0_148_s0 xa xb) (hb hby at_171) hr54).trans k⟩
  show own_Q0 Z xa xb h0 n0 _ T44.heap _
  rw [e44]
  exact ⟨rfl, N44⟩
theorem own_e1 (x : Int32) : own_f1 x = own_v0_1_s0 x := by
  unfold own_f1 own_v1_2_s0 own_v0_1_s0
  have d : (x / (10000 : Int32)).toInt = (x.toInt.tdiv 10000) := Jvm.Kit.i32_div (by simp [show (10000 : Int32).toInt = 10000 from rfl])
  by_cases h : 0 ≤ x.toInt
  · rw [Int.tdiv_eq_ediv_of_nonneg h] at d
    simp only [own_lt32, own_eq32 (x := x / 10000), d, show (0 : Int32).toInt = 0 from rfl, show (1 : Int32).toInt = 1 from rfl, show (9999 : Int32).toInt = 9999 from rfl]
    repeat' split
    all_goals first | rfl | (exfalso; omega)
  · simp only [own_lt32, show (0 : Int32).toInt = 0 from rfl, show (1 : Int32).toInt = 1 from rfl, show (9999 : Int32).toInt = 9999 from rfl]
    rw [if_pos (by omega), if_neg (by omega)]
theorem own_k (z : Int32) : ((z &&& (7 : Int32)) - (4 : Int32)).toInt = z.toInt % 8 - 4 := by
  have e := own_and7 z
  have e4 : (4 : Int32).toInt = 4 := rfl
  rw [own_sub_ok (by omega) (by omega), e, e4]
theorem own_e2 (z : Int32) : own_f1 (own_v0_83 z) = own_v0_101_s0 z := by
  have e := own_k z
  have e1 : (1 : Int32).toInt = 1 := rfl
  have e2 : (own_v0_83 z).toInt = 1 + (z.toInt % 8 - 4) := by unfold own_v0_83; rw [own_add_ok (by omega) (by omega), e, e1]
  unfold own_f1 own_v1_2_s0 own_v0_101_s0
  simp only [own_lt32, e2, e1, show (9999 : Int32).toInt = 9999 from rfl]
  repeat' split
  all_goals first | rfl | (exfalso; omega)
theorem own_e3 (z : Int32) : own_f1 (own_v0_91 z) = own_v0_129_s0 z := by
  have e := own_k z
  have e1 : (9999 : Int32).toInt = 9999 := rfl
  have e2 : (own_v0_91 z).toInt = 9999 + (z.toInt % 8 - 4) := by unfold own_v0_91; rw [own_add_ok (by omega) (by omega), e, e1]
  unfold own_f1 own_v1_2_s0 own_v0_129_s0
  simp only [own_lt32, e2, e1, show (1 : Int32).toInt = 1 from rfl]
  repeat' split
  all_goals first | rfl | (exfalso; omega)
theorem own_plain (xa xb : Int32) : (own_f0 xa xb) = 1 := by
  have a1 : own_v0_23_s0 xa = 1 := if_pos (own_e1 xa)
  have a2 : own_v0_36_s0 = 1 := by decide
  have a3 : own_v0_109_s0 xb = 1 := if_pos (own_e2 xb)
  have a4 : own_v0_137_s0 xb = 1 := if_pos (own_e3 xb)
  unfold own_f0 own_v0_148_s0
  rw [a1, a2, a3, a4]; decide

set_option maxRecDepth 65536 in
set_option maxHeartbeats 40000000 in
theorem comes_1 {Post : Tables → Env → Array Value → State → Outcome → State → Prop} (hpost : ∀ tb e args s v u, (limb_1_1.after args s (.returned v) u = true ∧ limb_1_2.after args s (.returned v) u = true ∧ True) → FrameEnd s (.returned v) u (Jvm.fieldLocs frame_1_writes args s ++ Jvm.arrayLocs frame_1_arrays args s ++ Jvm.staticLocs frame_1_statics s) 0 0 → Post tb e args s (.returned v) u) :
    ArmFor flags0 classFile x code maxLocals ret World_1 tables_1 room_1 Calls_1 rest_1 Pre_1 Post := by
  intro l hfl _ _ p e ha hc hk s m args below hf hA hF happ hP
  obtain ⟨hcalls, hrest, hpre⟩ := hP
  obtain ⟨-, -, -, hnamed, -, -, -, hat⟩ := (Spec.applies_iff hf).mp happ
  obtain ⟨hg, hn⟩ := and_e (Cond.before_iff.mp (show (Jvm.Cond.and given_1 narrow_1).before args s = true from hpre))
  obtain ⟨gg1, gg2⟩ := and_e hg
  obtain ⟨gg3, gg4⟩ := and_e gg2
  obtain ⟨w0, w1, rfl⟩ : ∃ w0 w1 : Value, args = #[w0, w1] := by
    have hs : args.size = 2 := by simpa [Cond.value, given_1] using gg1
    obtain ⟨L⟩ := args
    match L, hs with
    | [w0, w1], _ => exact ⟨w0, w1, rfl⟩
  have hw := fun d (hd : d ∈ tables_1) => atoms_spec (ws := Jvm.Cond.code x code maxLocals ret :: tables_1) hat d (List.mem_cons_of_mem _ hd)
  have hfit : Fit s := fun {y c} hc i hi => by
    obtain ⟨ha, rfl⟩ := Array.getElem?_eq_some_iff.mp hc
    have q := List.all_eq_true.mp ((Array.all_eq_true_iff_forall_mem.mp hF) _ (Array.getElem_mem ha)) i (List.mem_range.mpr hi)
    simpa [Array.getElem?_eq_getElem hi] using q
  obtain ⟨i0, ei0⟩ := is_v gg3
  obtain rfl : w0 = (.int i0) := Option.some.inj ei0
  obtain ⟨i1, ei1⟩ := is_v gg4
  obtain rfl : w1 = (.int i1) := Option.some.inj ei1
  obtain ⟨n, o, h1, h2, h3, _, L, rfl, ⟨rv, N⟩, hq⟩ := own_rm0 l s _ hw tables_1 i0 i1 s.heap s.heap.size (Nat.le_refl _) p e ha hc hk s m _ below hf ((Spec.applies_iff_loose hf).mp happ).1 ⟨rfl, State.Warmed39.refl s, rfl⟩ trivial
  rw [own_plain] at rv
  subst rv
  refine ⟨n, _, h1, h2, h3, hpost _ _ _ _ _ _ ⟨Cond.after_iff.mpr rfl, Cond.after_iff.mpr (eq_i res_at (Term.int_eval (1)) rfl), trivial⟩ ⟨hq.1, hq.2.1, (hq.2.2.sift fun y hy => Or.inr (N y hy)).mono (by decide) (by decide)⟩⟩
theorem main_1_1 : Claimed_1_1 := comes_1 fun _ _ _ _ _ _ h hF => ⟨h.1, hF⟩
theorem main_1_2 : Claimed_1_2 := comes_1 fun _ _ _ _ _ _ h hF => ⟨h.2.1, hF⟩
end Jvm.Pilot.@@N@@
namespace Jvm.Pilot.@@N@@
open Jvm Jvm.ClassFile Sem Op Lib Jvm.Free Jvm.Stand Jvm.Pilot.@@N@@.Jvm.D
/-! MADE BY PROGRAM (witnessworld.py) out of the Statement's table words and the real class files: 9 classes; the members and pool entries that the words name. The judged class is class 1, her method 1. -/
namespace start1
open Jvm.ClassFile
def u (s : String) : CpInfo := .utf8 (stringToUtf16 s)
/-- a pool by its gaps: so many unusable entries, then the entry; so many at the end -/
def gap : Nat → List CpInfo → List CpInfo
  | 0, r => r
  | n + 1, r => .unusable :: gap n r
def poolList (es : List (Nat × CpInfo)) (last : Nat) : List CpInfo := es.foldr (fun e r => gap e.1 (e.2 :: r)) (gap last [])
def pool (es : List (Nat × CpInfo)) (last : Nat) : Array CpInfo := ⟨poolList es last⟩
def fileOf (pool : Array CpInfo) (this : Nat) (attrs : Array Attribute := #[]) (ms : Array MethodInfo := #[]) (fl : Nat := 33) (sup : Nat := 0) (ifs : Array Nat := #[]) (fds : Array FieldInfo := #[]) : ClassFile where
  minorVersion := 0
  majorVersion := 65
  constantPool := pool
  accessFlags := fl
  thisClass := this
  superClass := sup
  interfaces := ifs
  fields := fds
  methods := ms
  attributes := attrs
def plain (name : String) (sup : Option ClassId) : Class where
  name := name
  kind := .ordinary
  loader := none
  accessFlags := 33
  super := sup
  interfaces := #[]
  cf := none
  fields := #[]
  methods := #[]
  instanceTypes := #[]
  staticTypes := #[]
  resolved := #[]
  callSites := []
  init := .initialized
  statics := none
  mirror := none

def pool0 : Array CpInfo := pool [(5, u "<init>"), (0, u "()V"), (1, .class_ 10), (1, u "java/lang/Object")] 113

def k0m0 : Method := { name := "<init>", desc := "()V", sig := { parameters := [], returnType := none }, accessFlags := 1, code := none }
/-- java/lang/Object -/
def k0 : Class := { plain "java/lang/Object" none with
  accessFlags := 33
  interfaces := #[]
  cf := some (fileOf pool0 8 #[] #[{ accessFlags := 1, nameIndex := 5, descriptorIndex := 6, attributes := #[] }] 33 0 #[] #[])
  fields := #[]
  methods := #[k0m0]
  instanceTypes := #[]
  staticTypes := #[]
  resolved := Array.replicate 124 none
  statics := none }

def pool1 : Array CpInfo := pool [(2, .class_ 4), (1, u "java/lang/Object"), (0, u "<init>"), (0, u "()V"), (0, .methodref 8 9), (0, .class_ 10), (0, .nameAndType 11 12), (0, u "com/example/eben/eben/io/FhirInstant"), (0, u "isYear"), (0, u "(I)Z"), (0, .class_ 14), (0, u "com/example/eben/eben/io/FhirInstantIsYearPinLaw"), (2, u "law"), (0, u "(II)Z")] 3

def k1m0 : Method := { name := "<init>", desc := "()V", sig := { parameters := [], returnType := none }, accessFlags := 2, code := none }
def k1c1 : Code := { maxStack := 3, maxLocals := 10, code := code, exceptionTable := #[], attributes := #[] }
def k1m1 : Method := { name := "law", desc := "(II)Z", sig := { parameters := [.int, .int], returnType := some .boolean }, accessFlags := 9, code := some k1c1 }
/-- com/example/eben/eben/io/FhirInstantIsYearPinLaw -/
def k1 : Class := { plain "com/example/eben/eben/io/FhirInstantIsYearPinLaw" (some 0) with
  accessFlags := 49
  interfaces := #[]
  cf := some (fileOf pool1 13 #[] #[{ accessFlags := 2, nameIndex := 5, descriptorIndex := 6, attributes := #[] }, { accessFlags := 9, nameIndex := 17, descriptorIndex := 18, attributes := #[] }] 49 2 #[] #[])
  fields := #[]
  methods := #[k1m0, k1m1]
  instanceTypes := #[]
  staticTypes := #[]
  resolved := Array.replicate 22 none
  statics := none }

def pool2 : Array CpInfo := pool [(2, .class_ 4), (1, u "java/lang/Object"), (0, u "<init>"), (0, u "()V"), (1, .class_ 10), (1, u "com/example/eben/eben/io/FhirInstant"), (0, u "FORM"), (0, u "Ljava/util/regex/Pattern;"), (73, u "isYear"), (0, u "(I)Z"), (2, u "UTC_MILLIS"), (0, u "Ljava/time/format/DateTimeFormatter;"), (89, u "SECOND"), (0, u "I"), (2, u "FRACTION"), (1, u "OFFSET"), (1, u "LEAP_SECOND"), (1, u "LAST_NANOSECOND"), (0, u "FRACTION_DIGITS"), (1, u "HALF_MILLISECOND"), (1, u "LAST_YEAR")] 29

def k2m0 : Method := { name := "<init>", desc := "()V", sig := { parameters := [], returnType := none }, accessFlags := 2, code := none }
def k2c1 : Code := { maxStack := 2, maxLocals := 1, code := prog_19_method_4_code, exceptionTable := #[], attributes := #[] }
def k2m1 : Method := { name := "isYear", desc := "(I)Z", sig := { parameters := [.int], returnType := some .boolean }, accessFlags := 8, code := some k2c1 }
/-- com/example/eben/eben/io/FhirInstant -/
def k2 : Class := { plain "com/example/eben/eben/io/FhirInstant" (some 0) with
  accessFlags := 49
  interfaces := #[]
  cf := some (fileOf pool2 8 #[] #[{ accessFlags := 2, nameIndex := 5, descriptorIndex := 6, attributes := #[] }, { accessFlags := 8, nameIndex := 86, descriptorIndex := 87, attributes := #[] }] 49 2 #[] #[{ accessFlags := 26, nameIndex := 11, descriptorIndex := 12, attributes := #[] }, { accessFlags := 26, nameIndex := 181, descriptorIndex := 182, attributes := #[] }, { accessFlags := 26, nameIndex := 185, descriptorIndex := 182, attributes := #[] }, { accessFlags := 26, nameIndex := 187, descriptorIndex := 182, attributes := #[] }, { accessFlags := 26, nameIndex := 189, descriptorIndex := 182, attributes := #[] }, { accessFlags := 26, nameIndex := 191, descriptorIndex := 182, attributes := #[] }, { accessFlags := 26, nameIndex := 192, descriptorIndex := 182, attributes := #[] }, { accessFlags := 26, nameIndex := 194, descriptorIndex := 182, attributes := #[] }, { accessFlags := 26, nameIndex := 196, descriptorIndex := 182, attributes := #[] }, { accessFlags := 26, nameIndex := 90, descriptorIndex := 91, attributes := #[] }])
  fields := #[{ name := "FORM", type := (.object "java/util/regex/Pattern"), accessFlags := 26, slot := 0, constantValue := 0 }, { name := "SECOND", type := .int, accessFlags := 26, slot := 1, constantValue := 0 }, { name := "FRACTION", type := .int, accessFlags := 26, slot := 2, constantValue := 0 }, { name := "OFFSET", type := .int, accessFlags := 26, slot := 3, constantValue := 0 }, { name := "LEAP_SECOND", type := .int, accessFlags := 26, slot := 4, constantValue := 0 }, { name := "LAST_NANOSECOND", type := .int, accessFlags := 26, slot := 5, constantValue := 0 }, { name := "FRACTION_DIGITS", type := .int, accessFlags := 26, slot := 6, constantValue := 0 }, { name := "HALF_MILLISECOND", type := .int, accessFlags := 26, slot := 7, constantValue := 0 }, { name := "LAST_YEAR", type := .int, accessFlags := 26, slot := 8, constantValue := 0 }, { name := "UTC_MILLIS", type := (.object "java/time/format/DateTimeFormatter"), accessFlags := 26, slot := 9, constantValue := 0 }]
  methods := #[k2m0, k2m1]
  instanceTypes := #[]
  staticTypes := #[(.object "java/util/regex/Pattern"), .int, .int, .int, .int, .int, .int, .int, .int, (.object "java/time/format/DateTimeFormatter")]
  resolved := Array.replicate 226 none
  statics := none }

def pool3 : Array CpInfo := pool [(1, u "java/lang/Cloneable"), (0, .class_ 1), (0, u "java/lang/Object"), (0, .class_ 3)] 3

/-- java/lang/Cloneable -/
def k3 : Class := { plain "java/lang/Cloneable" (some 0) with
  accessFlags := 1537
  interfaces := #[]
  cf := some (fileOf pool3 2 #[] #[] 1537 4 #[] #[])
  fields := #[]
  methods := #[]
  instanceTypes := #[]
  staticTypes := #[]
  resolved := Array.replicate 8 none
  statics := none }

def pool4 : Array CpInfo := pool [(1, u "java/io/Serializable"), (0, .class_ 1), (0, u "java/lang/Object"), (0, .class_ 3)] 3

/-- java/io/Serializable -/
def k4 : Class := { plain "java/io/Serializable" (some 0) with
  accessFlags := 1537
  interfaces := #[]
  cf := some (fileOf pool4 2 #[] #[] 1537 4 #[] #[])
  fields := #[]
  methods := #[]
  instanceTypes := #[]
  staticTypes := #[]
  resolved := Array.replicate 8 none
  statics := none }

/-- the primitive byte -/
def k5 : Class := { plain "byte" none with kind := .primitive 'B', accessFlags := 0x411 }
/-- [B -/
def k6 : Class := { plain "[B" (some 0) with kind := .array 5 .byte, interfaces := #[3, 4], accessFlags := 1041 }

/-- the primitive int -/
def k7 : Class := { plain "int" none with kind := .primitive 'I', accessFlags := 0x411 }
/-- [I -/
def k8 : Class := { plain "[I" (some 0) with kind := .array 7 .int, interfaces := #[3, 4], accessFlags := 1041 }

def heap : Heap := #[]
def classes : Array Class := #[k0, k1, k2, k3, k4, k5, k6, k7, k8]
def interned : List (Array UInt16 × Addr) := []
def slotsUsed : Nat := 0
def theMethod : MethodId := ⟨1, 1⟩
def args0 : Array Value := #[.int 2000, .int 5]
def aboutOver (below : List Frame) : State where
  vm := { classes := classes, interned := interned.toArray }
  heap := heap
  slotsUsed := slotsUsed
  threads := #[{ frames := .invoking theMethod args0 :: below }]
def below0 : List Frame := [.native { method := ⟨0, 0⟩, args := #[] }]
def about1 : State := aboutOver below0
def p0 : Program := .bare "" "" ""
def e0 : Env := launch0.env 0 0 0
theorem w_frames : about1.frames = Frame.invoking theMethod args0 :: below0 := rfl
set_option maxRecDepth 65536 in
theorem w_args : argsFit about1.vm theMethod args0 = true := by decide +kernel
set_option maxRecDepth 65536 in
theorem w_heap : heapFits about1 = true := by decide +kernel
set_option maxRecDepth 65536 in
theorem w_runnable : about1.curStatus? = some .runnable := by decide +kernel
set_option maxRecDepth 65536 in
theorem w_alone : about1.alone = true := by decide +kernel
set_option maxRecDepth 65536 in
theorem w_named : about1.methodNamed? x = some theMethod := by decide +kernel
set_option maxRecDepth 65536 in
theorem w_hears : about1.hears theMethod below0 = true := by decide +kernel
set_option maxRecDepth 65536 in
theorem w_ripe : about1.ripe theMethod args0 below0 = true := by decide +kernel
theorem w_running : about1.status = .running := rfl
set_option maxRecDepth 65536 in
theorem w_room : about1.hasRoom e0.platform room_1 = true :=
  launch0.hasRoom_least _ room_1 (by decide +kernel) (by decide +kernel) (by decide +kernel) (by decide +kernel) (by decide +kernel) (by decide +kernel)
theorem allAtoms_all (ts : List Jvm.Cond) (a : Array Jvm.Value) (st : Jvm.State) : (allAtoms ts).before a st = ts.all (fun c => c.before a st) := by
  induction ts with
  | nil => rfl
  | cons c t ih =>
    show (Jvm.Cond.and c (allAtoms t)).before a st = _
    rw [Jvm.Cond.before_and, ih, List.all_cons]
def words1 : List Jvm.Cond := Jvm.Cond.code x code maxLocals ret :: tables_1
/-- a 'code' word, met by the world's own term for the bytes: nothing is compared byte by byte -/
theorem code_word {y : MethodName} {bytes : ByteArray} {mx : Nat} {rt : Option FieldType} {a : Array Value} {s : State} {m : MethodId} {meth : Method} {c : Code} (h1 : s.methodNamed? y = some m) (h2 : s.vm.method? m = some meth) (h3 : meth.code = some c) (h4 : c.code = bytes)
    (h5 : (c.maxLocals == mx && c.exceptionTable.isEmpty && decide (c.maxStack ≤ mostOperands) && decide (meth.sig.returnType = rt) && !meth.locks && decide (parseMethodDescriptor y.desc = some meth.sig)) = true) : (Jvm.Cond.code y bytes mx rt).before a s = true := by
  simp only [Bool.and_eq_true, beq_iff_eq, Bool.not_eq_true', decide_eq_true_eq] at h5
  obtain ⟨⟨⟨⟨⟨g1, g2⟩, g3⟩, g4⟩, g5⟩, g6⟩ := h5
  simp [Cond.before, Cond.holds, Cond.value, h1, h2, h3, h4, g1, g2, g3, g4, g5, g6]
def isCode : Jvm.Cond → Bool
  | .code _ _ _ _ => true
  | _ => false
theorem all_split {L : List Jvm.Cond} {P : Jvm.Cond → Bool} (h1 : L.all (fun c => isCode c || P c) = true) (h2 : ∀ c ∈ L.filter isCode, P c = true) : L.all P = true := by
  refine List.all_eq_true.mpr fun c hc => ?_
  have h := List.all_eq_true.mp h1 c hc
  rcases Bool.eq_false_or_eq_true (isCode c) with hi | hi
  · exact h2 c (List.mem_filter.mpr ⟨hc, hi⟩)
  · simpa [hi] using h
set_option maxRecDepth 65536 in
theorem w_c0 : (Jvm.Cond.code x code maxLocals ret).before args0 about1 = true := code_word (m := ⟨1, 1⟩) (meth := k1m1) (c := k1c1) (by decide +kernel) rfl rfl rfl (by decide +kernel)
set_option maxRecDepth 65536 in
theorem w_c1 : (Jvm.Cond.code ({ cls := "com/example/eben/eben/io/FhirInstant", name := "isYear", desc := "(I)Z" } : Jvm.MethodName) prog_19_method_4_code (1 : Nat) (Option.some Jvm.ClassFile.FieldType.boolean)).before args0 about1 = true := code_word (m := ⟨2, 1⟩) (meth := k2m1) (c := k2c1) (by decide +kernel) rfl rfl rfl (by decide +kernel)
def codes1 : List Jvm.Cond := [Jvm.Cond.code x code maxLocals ret, Jvm.Cond.code ({ cls := "com/example/eben/eben/io/FhirInstant", name := "isYear", desc := "(I)Z" } : Jvm.MethodName) prog_19_method_4_code (1 : Nat) (Option.some Jvm.ClassFile.FieldType.boolean)]
set_option maxRecDepth 65536 in
theorem codes_eq : words1.filter isCode = codes1 := rfl
theorem w_codes : ∀ c ∈ words1.filter isCode, c.before args0 about1 = true := by
  rw [codes_eq]
  intro c hc
  simp only [codes1, List.mem_cons, List.not_mem_nil, or_false] at hc
  rcases hc with rfl | rfl
  · exact w_c0
  · exact w_c1
set_option maxRecDepth 65536 in
theorem w_t1 : words1.all (fun c => isCode c || c.before args0 about1) = true := by decide +kernel
theorem w_tables : (allAtoms (Jvm.Cond.code x code maxLocals ret :: tables_1)).before args0 about1 = true := by
  rw [allAtoms_all]
  show words1.all (fun c => c.before args0 about1) = true
  refine all_split ?_ w_codes
  rw [w_t1]
set_option maxRecDepth 65536 in
theorem w_case : (Jvm.Cond.and given_1 narrow_1).before args0 about1 = true := by decide +kernel
theorem w_applies : (headSpec (Jvm.Cond.code x code maxLocals ret :: tables_1) room_1).applies x e0.platform about1 = true :=
  (Spec.applies_iff w_frames).mpr ⟨w_running, w_runnable, w_alone, w_named, w_hears, w_ripe, w_room, w_tables⟩
theorem atStart : AtStart classFile x code maxLocals ret World_1 tables_1 room_1 Calls_1 rest_1 Pre_1 launch0 p0 e0 about1 theMethod args0 below0 :=
  ⟨lists_1, trivial, launch0.admits_env _ _ _, launch0.least_env, fairChoices_fair.cas, fairChoices_fair.clock, w_frames, w_args, w_heap, w_applies, trivial, trivial, w_case⟩
end start1
theorem witness_1 : WitnessClaimed_1 := ⟨start1.p0, start1.e0, start1.about1, start1.theMethod, start1.args0, start1.below0, start1.atStart⟩
end Jvm.Pilot.@@N@@
