import JvmDerived
import JvmDerived.Pilot.@@N@@Statement
import JvmDerived.Pilot.@@N@@Code
set_option linter.unusedVariables false
set_option linter.unusedSimpArgs false
@@BLOCK:NumsL.lean.txt@@
namespace Jvm.RoadKit
open Sem ClassFile Op Lib Jvm.Stand Jvm.Free Jvm.LawKit
section New
variable {p : Program} {l : Launch} {e : Env} {R : Room} {s : State} {m : MethodId} {args : Array Value} {below : List Frame} {meth : Method} {c : Code} {T : State} {locs : List Loc} {cells slots : Nat}
theorem retI (X : Stand p l e R s m args below meth c T locs cells slots) (hx : p.tables.exec = Jvm.exec) {pc : Nat} {Ls : Array Slot} {z : Int32} {rest : List Value} (hret : meth.sig.returnType = some .int) (hd : decode c.code pc = .ok (.ireturn, 1)) {fs : List Frame}
    (hl : ∀ (f : JFrame) (acts : List Action), f.method = m → f.locked = none → f.entered = [] → (doReturn e (T.setTop f) acts (some (.int z))).1 = T.setFrames fs) : Steps p.tables e below (T.setTop (mkF m pc Ls (.int z :: rest))) (T.setFrames fs) := by
  have hm' : T.vm.method? m = some meth := X.method'
  have hn : narrow .int (.int z) = .int z := rfl
  show Steps p.tables e below (T.setTop { method := m, pc := pc, locals := Ls, stack := _ :: rest, locked := none }) _
  jvm_step X.here [X.here.top, hx, hd, hm', hret, hn]
  first | (intro acts; rw [hl _ acts rfl rfl rfl]) | rw [hl _ _ rfl rfl rfl]
  exact Steps.refl _
def own_irem (x y : Int32) : Int32 := x - x / y * y
def own_lrem (x y : Int64) : Int64 := x - x / y * y
theorem own_retZ (X : Stand p l e R s m args below meth c T locs cells slots) (hx : p.tables.exec = Jvm.exec) {pc : Nat} {Ls : Array Slot} {z : Int32} {rest : List Value} (hret : meth.sig.returnType = some .boolean) (hz : z &&& 1 = z) (hd : decode c.code pc = .ok (.ireturn, 1)) {fs : List Frame}
    (hl : ∀ (f : JFrame) (acts : List Action), f.method = m → f.locked = none → f.entered = [] → (doReturn e (T.setTop f) acts (some (.int z))).1 = T.setFrames fs) : Steps p.tables e below (T.setTop (mkF m pc Ls (.int z :: rest))) (T.setFrames fs) :=
  retN X hx (t := .boolean) hret (by simp) hd (by rw [show nar .boolean z = z from hz]; exact hl)
theorem own_ite_bool {q : Prop} [Decidable q] {a b : Int32} (ha : a &&& 1 = a) (hb : b &&& 1 = b) : (if q then a else b) &&& 1 = (if q then a else b) := by split <;> assumption
theorem own_retJ (X : Stand p l e R s m args below meth c T locs cells slots) (hx : p.tables.exec = Jvm.exec) {pc : Nat} {Ls : Array Slot} {z : Int64} {rest : List Value} (hret : meth.sig.returnType = some .long) (hd : decode c.code pc = .ok (.lreturn, 1)) {fs : List Frame}
    (hl : ∀ (f : JFrame) (acts : List Action), f.method = m → f.locked = none → f.entered = [] → (doReturn e (T.setTop f) acts (some (.long z))).1 = T.setFrames fs) : Steps p.tables e below (T.setTop (mkF m pc Ls (.long z :: rest))) (T.setFrames fs) := by
  have hm' : T.vm.method? m = some meth := X.method'
  show Steps p.tables e below (T.setTop { method := m, pc := pc, locals := Ls, stack := _ :: rest, locked := none }) _
  jvm_step X.here [X.here.top, hx, hd, hm', hret, narrow]
  first | (intro acts; rw [hl _ acts rfl rfl rfl]) | rw [hl _ _ rfl rfl rfl]
  exact Steps.refl _
/-- the run goes from here to a state of which P holds -/
def own_Goes (tb : Tables) (e : Env) (below : List Frame) (P : State → Prop) (T : State) (f : JFrame) : Prop :=
  ∃ u, P u ∧ ∀ t, Steps tb e below u t → Steps tb e below (T.setTop f) t
theorem own_go {tb : Tables} {P : State → Prop} {T T' : State} {f f' : JFrame} (k : own_Goes tb e below P T' f') (h : ∀ t, Steps tb e below (T'.setTop f') t → Steps tb e below (T.setTop f) t) : own_Goes tb e below P T f := by
  obtain ⟨u, hu, hk⟩ := k
  exact ⟨u, hu, fun t q => h t (hk t q)⟩
theorem own_out {tb : Tables} {Q : Outcome → State → Prop} {T : State} {f : JFrame} (k : own_Goes tb e below (fun u => ∃ o, u.status = .running ∧ Ended u below o ∧ Q o u) T f) :
    ∃ s₂ o, Steps tb e below (T.setTop f) s₂ ∧ s₂.status = .running ∧ Ended s₂ below o ∧ Q o s₂ := by
  obtain ⟨u, ⟨o, h1, h2, h3⟩, hk⟩ := k
  exact ⟨u, o, hk u (Steps.refl _), h1, h2, h3⟩
theorem own_lsw {tb : Tables} [Ours tb] {T target : State} {g : JFrame} (h : At T m c below) (hx : tb.exec = Jvm.exec) (hg : g.method = m) {dflt : Int} {pairs : Array (Int × Int)} {len : Nat} {o : Int} {pc0 pc' : Nat} (hpc : g.pc = pc0) (hd : decode c.code g.pc = .ok (.lookupswitch dflt pairs, len)) {i : Int32} {rest : List Value} (hs : g.stack = .int i :: rest)
    (hord : (pairs.toList.zip (pairs.toList.drop 1)).all (fun (a, next) => a.1 < next.1) = true) (hoff : lookupswitch.offset pairs.toList dflt i.toInt = o) (ho : 0 ≤ (pc0 : Int) + o) (hp : ((pc0 : Int) + o).toNat = pc')
    (hr : Steps tb e below (T.setTop { g with pc := pc', stack := rest }) target) : Steps tb e below (T.setTop g) target := by
  subst hg hpc hp
  jvm_step h [h.top, hx, hd, hs, hoff, ho, lookupswitch.wp_chain]
  exact ⟨by simpa using hord, hr⟩
theorem own_ne_key {i k : Int32} (h : ¬ i = k) : ¬ (k.toInt = i.toInt) := fun q => h (Int32.toInt_inj.mp q.symm)
theorem own_selP {s : State} {args : Array Value} {y : MethodName} {n : Nat} (wi : (Cond.instantiable y.cls n).before args s = true) (hp : s.PrivateAt y) (hi : (Cond.instanceMethod y).before args s = true) (hy : y.cls ≠ "java/lang/invoke/MethodHandle" ∧ y.cls ≠ "java/lang/invoke/VarHandle") : (Cond.selects y.cls y y).before args s = true := by
  obtain ⟨c, k, h1, h2, -, h3, -⟩ := Cond.instantiable_spec wi
  simp only [Bool.or_eq_false_iff] at h3
  exact selects_self_of_private h1 h2 h3.1 hp hi hy
end New
end Jvm.RoadKit
namespace Jvm.RoadKit
open Sem ClassFile Op Lib Jvm.Stand Jvm.Free Jvm.LawKit
theorem own_lt32 {x y : Int32} : x < y ↔ x.toInt < y.toInt := Int32.lt_iff_toInt_lt
theorem own_eq32 {x y : Int32} : x = y ↔ x.toInt = y.toInt := (Int32.toInt_inj).symm
theorem own_mod32 (x y : Int32) : (own_irem x y).toInt = x.toInt.tmod y.toInt := by
  rw [show own_irem x y = x % y from irem_eq_mod x y]; exact Int32.toInt_mod x y
theorem own_pos31 (x : Int32) : (x &&& (2147483647 : Int32)).toInt = x.toInt % 2147483648 := Jvm.Kit.i32_mask x 2147483647 (k := 31) (by decide) (by decide)
theorem own_rem31 (x : Int32) (y : Int32) (hy : 0 < y.toInt) : (own_irem (x &&& (2147483647 : Int32)) y).toInt = (x.toInt % 2147483648) % y.toInt := by
  rw [own_mod32, own_pos31, Int.tmod_eq_emod_of_nonneg (by omega)]
theorem own_and3 (x : Int32) : (x &&& (3 : Int32)).toInt = x.toInt % 4 := Jvm.Kit.i32_mask x 3 (k := 2) (by decide) (by decide)
theorem own_and7 (x : Int32) : (x &&& (7 : Int32)).toInt = x.toInt % 8 := Jvm.Kit.i32_mask x 7 (k := 3) (by decide) (by decide)
theorem own_and63 (x : Int32) : (x &&& (63 : Int32)).toInt = x.toInt % 64 := Jvm.Kit.i32_mask x 63 (k := 6) (by decide) (by decide)
theorem own_and255 (x : Int32) : (x &&& (255 : Int32)).toInt = x.toInt % 256 := Jvm.Kit.i32_mask x 255 (k := 8) (by decide) (by decide)
theorem own_add_ok {x y : Int32} (h1 : -2147483648 ≤ x.toInt + y.toInt) (h2 : x.toInt + y.toInt < 2147483648) : (x + y).toInt = x.toInt + y.toInt := Jvm.Kit.i32_add (by omega) (by omega)
theorem own_sub_ok {x y : Int32} (h1 : -2147483648 ≤ x.toInt - y.toInt) (h2 : x.toInt - y.toInt < 2147483648) : (x - y).toInt = x.toInt - y.toInt := Jvm.Kit.i32_sub (by omega) (by omega)
theorem own_nat32 {x : Int32} (h : 0 ≤ x.toInt) : (x.toNatClampNeg : Int) = x.toInt := by simp only [Int32.toNatClampNeg]; omega
theorem own_rng (x : Int32) : -2147483648 ≤ x.toInt ∧ x.toInt < 2147483648 := ⟨x.le_toInt, x.toInt_lt⟩
theorem own_m3 (y : Int32) : ¬ (y &&& (3 : Int32)) < (0 : Int32) ∧ (y &&& (3 : Int32)).toNatClampNeg ≤ 3 := by
  have e := own_and3 y
  refine ⟨?_, ?_⟩
  · rw [own_lt32, e, show (0 : Int32).toInt = 0 from rfl]; omega
  · have := own_nat32 (x := y &&& 3) (by omega); omega
end Jvm.RoadKit
namespace Jvm.Pilot.@@N@@
open Jvm Jvm.ClassFile Sem Op Lib Jvm.Free Jvm.Stand Jvm.LawKit Jvm.RoadKit Bundle Jvm.Pilot.@@N@@.Jvm.D
theorem own_pn0 : plainName "com/example/inca_dove/incadove/addresses/DomainName" = true := by first | (simp [plainName, overriddenIn]; done) | decide +kernel
theorem own_d1_0 : decode prog_1_method_4_code 0 = .ok (.iload_n 0, 1) := by decide +kernel
theorem own_d1_1 : decode prog_1_method_4_code 1 = .ok (.bipush 65, 2) := by decide +kernel
theorem own_d1_3 : decode prog_1_method_4_code 3 = .ok (.if_icmp .lt 9, 3) := by decide +kernel
theorem own_d1_6 : decode prog_1_method_4_code 6 = .ok (.iload_n 0, 1) := by decide +kernel
theorem own_d1_7 : decode prog_1_method_4_code 7 = .ok (.bipush 90, 2) := by decide +kernel
theorem own_d1_9 : decode prog_1_method_4_code 9 = .ok (.if_icmp .le 27, 3) := by decide +kernel
theorem own_d1_12 : decode prog_1_method_4_code 12 = .ok (.iload_n 0, 1) := by decide +kernel
theorem own_d1_13 : decode prog_1_method_4_code 13 = .ok (.bipush 97, 2) := by decide +kernel
theorem own_d1_15 : decode prog_1_method_4_code 15 = .ok (.if_icmp .lt 9, 3) := by decide +kernel
theorem own_d1_18 : decode prog_1_method_4_code 18 = .ok (.iload_n 0, 1) := by decide +kernel
theorem own_d1_19 : decode prog_1_method_4_code 19 = .ok (.bipush 122, 2) := by decide +kernel
theorem own_d1_21 : decode prog_1_method_4_code 21 = .ok (.if_icmp .le 15, 3) := by decide +kernel
theorem own_d1_24 : decode prog_1_method_4_code 24 = .ok (.iload_n 0, 1) := by decide +kernel
theorem own_d1_25 : decode prog_1_method_4_code 25 = .ok (.bipush 48, 2) := by decide +kernel
theorem own_d1_27 : decode prog_1_method_4_code 27 = .ok (.if_icmp .lt 13, 3) := by decide +kernel
theorem own_d1_30 : decode prog_1_method_4_code 30 = .ok (.iload_n 0, 1) := by decide +kernel
theorem own_d1_31 : decode prog_1_method_4_code 31 = .ok (.bipush 57, 2) := by decide +kernel
theorem own_d1_33 : decode prog_1_method_4_code 33 = .ok (.if_icmp .gt 7, 3) := by decide +kernel
theorem own_d1_36 : decode prog_1_method_4_code 36 = .ok (.iconst 1, 1) := by decide +kernel
theorem own_d1_37 : decode prog_1_method_4_code 37 = .ok (.goto 4, 3) := by decide +kernel
theorem own_d1_40 : decode prog_1_method_4_code 40 = .ok (.iconst 0, 1) := by decide +kernel
theorem own_d1_41 : decode prog_1_method_4_code 41 = .ok (.ireturn, 1) := by decide +kernel
def own_v1_3_s0 (xa : Int32) : Int32 := (if xa < (65 : Int32) then (if xa < (97 : Int32) then (if xa < (48 : Int32) then (0 : Int32) else (if (57 : Int32) < xa then (0 : Int32) else (1 : Int32))) else (if (122 : Int32) < xa then (if xa < (48 : Int32) then (0 : Int32) else (if (57 : Int32) < xa then (0 : Int32) else (1 : Int32))) else (1 : Int32))) else (if (90 : Int32) < xa then (if xa < (97 : Int32) then (if xa < (48 : Int32) then (0 : Int32) else (if (57 : Int32) < xa then (0 : Int32) else (1 : Int32))) else (if (122 : Int32) < xa then (if xa < (48 : Int32) then (0 : Int32) else (if (57 : Int32) < xa then (0 : Int32) else (1 : Int32))) else (1 : Int32))) else (1 : Int32)))
def own_f1 (xa : Int32) : Int32 := (own_v1_3_s0 xa)
theorem own_b1_3_s0 (xa : Int32) : (own_v1_3_s0 xa) &&& 1 = (own_v1_3_s0 xa) := (own_ite_bool (own_ite_bool (own_ite_bool (by decide) (own_ite_bool (by decide) (by decide))) (own_ite_bool (own_ite_bool (by decide) (own_ite_bool (by decide) (by decide))) (by decide))) (own_ite_bool (own_ite_bool (own_ite_bool (by decide) (own_ite_bool (by decide) (by decide))) (own_ite_bool (own_ite_bool (by decide) (own_ite_bool (by decide) (by decide))) (by decide))) (by decide)))
theorem own_bf1 (xa : Int32) : (own_f1 xa) &&& 1 = (own_f1 xa) := (own_b1_3_s0 xa)
theorem own_ef1 (m : MethodId) (xa : Int32) : entryFrame m #[(.int xa)] 1 = mkF m 0 #[.val (.int xa)] [] := by first | (simp [entryFrame, mkF, argsToLocals, Value.category]; done) | rfl
abbrev own_room1 : Room := { frames := 0, cells := 0, slots := 0, locals := 0 }
def own_Q1 (Z : State) (xa : Int32) (h0 : Heap) (n0 : Nat) (v : Option Value) (h : Heap) (L : List Loc) : Prop := v = some (.int (own_f1 xa)) ∧ Fr n0 L ∧ h = h0
set_option maxRecDepth 65536 in
set_option maxHeartbeats 40000000 in
theorem own_rm1 (l : Launch) (Z : State) (a0 : Array Value) (hw : ∀ d ∈ tables_1, d.before a0 Z = true) (ws : List Jvm.Cond) (xa : Int32) (h0 : Heap) (n0 : Nat) (Z0 : n0 ≤ h0.size) :
    MetFree l (⟨"com/example/inca_dove/incadove/addresses/DomainName", "isLetterOrDigit", "(C)Z"⟩ : MethodName) (head1 (Jvm.Cond.code (⟨"com/example/inca_dove/incadove/addresses/DomainName", "isLetterOrDigit", "(C)Z"⟩ : MethodName) prog_1_method_4_code 1 (some .boolean) :: ws) own_room1) (fun a U => a = #[(.int xa)] ∧ Z.Warmed39 U.vm ∧ U.heap = h0) (fun _ _ _ _ _ => True) (fun _ U o U' => ∃ v L, o = .returned v ∧ own_Q1 Z xa h0 n0 v U'.heap L ∧ FrameEnd U o U' L own_room1.cells own_room1.slots) := by
  refine MetFree.of_bodySF (plainFor_of_name own_pn0) hisR ?_
  intro p e s m args below meth c s₁ Bd hml0 hP hK
  obtain ⟨rfl, hZ, hh⟩ := hP
  have hx := Bd.exec
  have hby := Bd.bytes
  have hml : c.maxLocals = 1 := hml0
  have hown : s.vm.findClass "com/example/inca_dove/incadove/addresses/DomainName" = some m.cls := findClass_of_methodNamed Bd.named
  have hnm := (name_of_methodNamed Bd.named Bd.method).1
  have X0 : Stand p l e own_room1 s m #[(.int xa)] below meth c s₁ [] 0 0 := Stand.of_body Bd
  have e0 : s₁.heap = h0 := by rw [← hh, Bd.state]; rfl
  have N0 := Fr.nil n0
  refine own_out (Q := fun o U' => ∃ v L, o = .returned v ∧ own_Q1 Z xa h0 n0 v U'.heap L ∧ FrameEnd s o U' L own_room1.cells own_room1.slots) ?_
  refine own_go (T' := s₁) (f' := (mkF m 0 #[.val (.int xa)] [])) ?_ (fun _ k => castTop (own_ef1 m xa) k)
  refine own_go (T' := s₁) (f' := (mkF m 1 #[.val (.int xa)] [(.int xa)])) ?_ (fun _ k => XS.iloadN X0.here hx rfl (hb hby own_d1_0) rfl  k)
  refine own_go (T' := s₁) (f' := (mkF m 3 #[.val (.int xa)] [(.int (65 : Int32)), (.int xa)])) ?_ (fun _ k => XS.bipush X0.here hx rfl (hb hby own_d1_1) k)
  obtain ⟨_, ⟨T1, L1, rfl, X1, e1, N1⟩, mg1⟩ : own_Goes p.tables e below (fun uu => ∃ (T' : State) (L' : List Loc), uu = T'.setTop (mkF m 41 #[.val (.int xa)] [(.int (own_v1_3_s0 xa))]) ∧ Stand p l e own_room1 s m #[(.int xa)] below meth c T' L' 0 0 ∧ T'.heap = h0 ∧ Fr n0 L') s₁ (mkF m 3 #[.val (.int xa)] [(.int (65 : Int32)), (.int xa)]) := by
    by_cases hc3_2 : xa < (65 : Int32)
    · refine own_go (T' := s₁) (f' := (mkF m 12 #[.val (.int xa)] [])) ?_ (fun _ k => XS.icmpYes X0.here hx rfl (pc0 := 3) (pc' := 12) rfl (hb hby own_d1_3) rfl (tlt hc3_2).1 (by decide) (by decide) k)
      refine own_go (T' := s₁) (f' := (mkF m 13 #[.val (.int xa)] [(.int xa)])) ?_ (fun _ k => XS.iloadN X0.here hx rfl (hb hby own_d1_12) rfl  k)
      refine own_go (T' := s₁) (f' := (mkF m 15 #[.val (.int xa)] [(.int (97 : Int32)), (.int xa)])) ?_ (fun _ k => XS.bipush X0.here hx rfl (hb hby own_d1_13) k)
      by_cases hc15_3 : xa < (97 : Int32)
      · refine own_go (T' := s₁) (f' := (mkF m 24 #[.val (.int xa)] [])) ?_ (fun _ k => XS.icmpYes X0.here hx rfl (pc0 := 15) (pc' := 24) rfl (hb hby own_d1_15) rfl (tlt hc15_3).1 (by decide) (by decide) k)
        refine own_go (T' := s₁) (f' := (mkF m 25 #[.val (.int xa)] [(.int xa)])) ?_ (fun _ k => XS.iloadN X0.here hx rfl (hb hby own_d1_24) rfl  k)
        refine own_go (T' := s₁) (f' := (mkF m 27 #[.val (.int xa)] [(.int (48 : Int32)), (.int xa)])) ?_ (fun _ k => XS.bipush X0.here hx rfl (hb hby own_d1_25) k)
        by_cases hc27_4 : xa < (48 : Int32)
        · refine own_go (T' := s₁) (f' := (mkF m 40 #[.val (.int xa)] [])) ?_ (fun _ k => XS.icmpYes X0.here hx rfl (pc0 := 27) (pc' := 40) rfl (hb hby own_d1_27) rfl (tlt hc27_4).1 (by decide) (by decide) k)
          refine own_go (T' := s₁) (f' := (mkF m 41 #[.val (.int xa)] [(.int (0 : Int32))])) ?_ (fun _ k => XS.iconst X0.here hx rfl (hb hby own_d1_40) k)
          have em5 : (own_v1_3_s0 xa) = (0 : Int32) := (Eq.trans (if_pos hc3_2) (Eq.trans (if_pos hc15_3) (if_pos hc27_4)))
          exact ⟨_, ⟨s₁, _, (by rw [em5]), X0, e0, N0⟩, fun _ k => k⟩
        · refine own_go (T' := s₁) (f' := (mkF m 30 #[.val (.int xa)] [])) ?_ (fun _ k => XS.icmpNo X0.here hx rfl (hb hby own_d1_27) rfl (flt hc27_4).1 k)
          refine own_go (T' := s₁) (f' := (mkF m 31 #[.val (.int xa)] [(.int xa)])) ?_ (fun _ k => XS.iloadN X0.here hx rfl (hb hby own_d1_30) rfl  k)
          refine own_go (T' := s₁) (f' := (mkF m 33 #[.val (.int xa)] [(.int (57 : Int32)), (.int xa)])) ?_ (fun _ k => XS.bipush X0.here hx rfl (hb hby own_d1_31) k)
          by_cases hc33_6 : (57 : Int32) < xa
          · refine own_go (T' := s₁) (f' := (mkF m 40 #[.val (.int xa)] [])) ?_ (fun _ k => XS.icmpYes X0.here hx rfl (pc0 := 33) (pc' := 40) rfl (hb hby own_d1_33) rfl (tlt hc33_6).2.2.1 (by decide) (by decide) k)
            refine own_go (T' := s₁) (f' := (mkF m 41 #[.val (.int xa)] [(.int (0 : Int32))])) ?_ (fun _ k => XS.iconst X0.here hx rfl (hb hby own_d1_40) k)
            have em7 : (own_v1_3_s0 xa) = (0 : Int32) := (Eq.trans (if_pos hc3_2) (Eq.trans (if_pos hc15_3) (Eq.trans (if_neg hc27_4) (if_pos hc33_6))))
            exact ⟨_, ⟨s₁, _, (by rw [em7]), X0, e0, N0⟩, fun _ k => k⟩
          · refine own_go (T' := s₁) (f' := (mkF m 36 #[.val (.int xa)] [])) ?_ (fun _ k => XS.icmpNo X0.here hx rfl (hb hby own_d1_33) rfl (flt hc33_6).2.2.1 k)
            refine own_go (T' := s₁) (f' := (mkF m 37 #[.val (.int xa)] [(.int (1 : Int32))])) ?_ (fun _ k => XS.iconst X0.here hx rfl (hb hby own_d1_36) k)
            refine own_go (T' := s₁) (f' := (mkF m 41 #[.val (.int xa)] [(.int (1 : Int32))])) ?_ (fun _ k => XS.goto X0.here hx rfl (pc0 := 37) (pc' := 41) rfl (hb hby own_d1_37) (by decide) (by decide) k)
            have em8 : (own_v1_3_s0 xa) = (1 : Int32) := (Eq.trans (if_pos hc3_2) (Eq.trans (if_pos hc15_3) (Eq.trans (if_neg hc27_4) (if_neg hc33_6))))
            exact ⟨_, ⟨s₁, _, (by rw [em8]), X0, e0, N0⟩, fun _ k => k⟩
      · refine own_go (T' := s₁) (f' := (mkF m 18 #[.val (.int xa)] [])) ?_ (fun _ k => XS.icmpNo X0.here hx rfl (hb hby own_d1_15) rfl (flt hc15_3).1 k)
        refine own_go (T' := s₁) (f' := (mkF m 19 #[.val (.int xa)] [(.int xa)])) ?_ (fun _ k => XS.iloadN X0.here hx rfl (hb hby own_d1_18) rfl  k)
        refine own_go (T' := s₁) (f' := (mkF m 21 #[.val (.int xa)] [(.int (122 : Int32)), (.int xa)])) ?_ (fun _ k => XS.bipush X0.here hx rfl (hb hby own_d1_19) k)
        by_cases hc21_9 : (122 : Int32) < xa
        · refine own_go (T' := s₁) (f' := (mkF m 24 #[.val (.int xa)] [])) ?_ (fun _ k => XS.icmpNo X0.here hx rfl (hb hby own_d1_21) rfl (tlt hc21_9).2.2.2 k)
          refine own_go (T' := s₁) (f' := (mkF m 25 #[.val (.int xa)] [(.int xa)])) ?_ (fun _ k => XS.iloadN X0.here hx rfl (hb hby own_d1_24) rfl  k)
          refine own_go (T' := s₁) (f' := (mkF m 27 #[.val (.int xa)] [(.int (48 : Int32)), (.int xa)])) ?_ (fun _ k => XS.bipush X0.here hx rfl (hb hby own_d1_25) k)
          by_cases hc27_10 : xa < (48 : Int32)
          · refine own_go (T' := s₁) (f' := (mkF m 40 #[.val (.int xa)] [])) ?_ (fun _ k => XS.icmpYes X0.here hx rfl (pc0 := 27) (pc' := 40) rfl (hb hby own_d1_27) rfl (tlt hc27_10).1 (by decide) (by decide) k)
            refine own_go (T' := s₁) (f' := (mkF m 41 #[.val (.int xa)] [(.int (0 : Int32))])) ?_ (fun _ k => XS.iconst X0.here hx rfl (hb hby own_d1_40) k)
            have em11 : (own_v1_3_s0 xa) = (0 : Int32) := (Eq.trans (if_pos hc3_2) (Eq.trans (if_neg hc15_3) (Eq.trans (if_pos hc21_9) (if_pos hc27_10))))
            exact ⟨_, ⟨s₁, _, (by rw [em11]), X0, e0, N0⟩, fun _ k => k⟩
          · refine own_go (T' := s₁) (f' := (mkF m 30 #[.val (.int xa)] [])) ?_ (fun _ k => XS.icmpNo X0.here hx rfl (hb hby own_d1_27) rfl (flt hc27_10).1 k)
            refine own_go (T' := s₁) (f' := (mkF m 31 #[.val (.int xa)] [(.int xa)])) ?_ (fun _ k => XS.iloadN X0.here hx rfl (hb hby own_d1_30) rfl  k)
            refine own_go (T' := s₁) (f' := (mkF m 33 #[.val (.int xa)] [(.int (57 : Int32)), (.int xa)])) ?_ (fun _ k => XS.bipush X0.here hx rfl (hb hby own_d1_31) k)
            by_cases hc33_12 : (57 : Int32) < xa
            · refine own_go (T' := s₁) (f' := (mkF m 40 #[.val (.int xa)] [])) ?_ (fun _ k => XS.icmpYes X0.here hx rfl (pc0 := 33) (pc' := 40) rfl (hb hby own_d1_33) rfl (tlt hc33_12).2.2.1 (by decide) (by decide) k)
              refine own_go (T' := s₁) (f' := (mkF m 41 #[.val (.int xa)] [(.int (0 : Int32))])) ?_ (fun _ k => XS.iconst X0.here hx rfl (hb hby own_d1_40) k)
              have em13 : (own_v1_3_s0 xa) = (0 : Int32) := (Eq.trans (if_pos hc3_2) (Eq.trans (if_neg hc15_3) (Eq.trans (if_pos hc21_9) (Eq.trans (if_neg hc27_10) (if_pos hc33_12)))))
              exact ⟨_, ⟨s₁, _, (by rw [em13]), X0, e0, N0⟩, fun _ k => k⟩
            · refine own_go (T' := s₁) (f' := (mkF m 36 #[.val (.int xa)] [])) ?_ (fun _ k => XS.icmpNo X0.here hx rfl (hb hby own_d1_33) rfl (flt hc33_12).2.2.1 k)
              refine own_go (T' := s₁) (f' := (mkF m 37 #[.val (.int xa)] [(.int (1 : Int32))])) ?_ (fun _ k => XS.iconst X0.here hx rfl (hb hby own_d1_36) k)
              refine own_go (T' := s₁) (f' := (mkF m 41 #[.val (.int xa)] [(.int (1 : Int32))])) ?_ (fun _ k => XS.goto X0.here hx rfl (pc0 := 37) (pc' := 41) rfl (hb hby own_d1_37) (by decide) (by decide) k)
              have em14 : (own_v1_3_s0 xa) = (1 : Int32) := (Eq.trans (if_pos hc3_2) (Eq.trans (if_neg hc15_3) (Eq.trans (if_pos hc21_9) (Eq.trans (if_neg hc27_10) (if_neg hc33_12)))))
              exact ⟨_, ⟨s₁, _, (by rw [em14]), X0, e0, N0⟩, fun _ k => k⟩
        · refine own_go (T' := s₁) (f' := (mkF m 36 #[.val (.int xa)] [])) ?_ (fun _ k => XS.icmpYes X0.here hx rfl (pc0 := 21) (pc' := 36) rfl (hb hby own_d1_21) rfl (flt hc21_9).2.2.2 (by decide) (by decide) k)
          refine own_go (T' := s₁) (f' := (mkF m 37 #[.val (.int xa)] [(.int (1 : Int32))])) ?_ (fun _ k => XS.iconst X0.here hx rfl (hb hby own_d1_36) k)
          refine own_go (T' := s₁) (f' := (mkF m 41 #[.val (.int xa)] [(.int (1 : Int32))])) ?_ (fun _ k => XS.goto X0.here hx rfl (pc0 := 37) (pc' := 41) rfl (hb hby own_d1_37) (by decide) (by decide) k)
          have em15 : (own_v1_3_s0 xa) = (1 : Int32) := (Eq.trans (if_pos hc3_2) (Eq.trans (if_neg hc15_3) (if_neg hc21_9)))
          exact ⟨_, ⟨s₁, _, (by rw [em15]), X0, e0, N0⟩, fun _ k => k⟩
    · refine own_go (T' := s₁) (f' := (mkF m 6 #[.val (.int xa)] [])) ?_ (fun _ k => XS.icmpNo X0.here hx rfl (hb hby own_d1_3) rfl (flt hc3_2).1 k)
      refine own_go (T' := s₁) (f' := (mkF m 7 #[.val (.int xa)] [(.int xa)])) ?_ (fun _ k => XS.iloadN X0.here hx rfl (hb hby own_d1_6) rfl  k)
      refine own_go (T' := s₁) (f' := (mkF m 9 #[.val (.int xa)] [(.int (90 : Int32)), (.int xa)])) ?_ (fun _ k => XS.bipush X0.here hx rfl (hb hby own_d1_7) k)
      by_cases hc9_16 : (90 : Int32) < xa
      · refine own_go (T' := s₁) (f' := (mkF m 12 #[.val (.int xa)] [])) ?_ (fun _ k => XS.icmpNo X0.here hx rfl (hb hby own_d1_9) rfl (tlt hc9_16).2.2.2 k)
        refine own_go (T' := s₁) (f' := (mkF m 13 #[.val (.int xa)] [(.int xa)])) ?_ (fun _ k => XS.iloadN X0.here hx rfl (hb hby own_d1_12) rfl  k)
        refine own_go (T' := s₁) (f' := (mkF m 15 #[.val (.int xa)] [(.int (97 : Int32)), (.int xa)])) ?_ (fun _ k => XS.bipush X0.here hx rfl (hb hby own_d1_13) k)
        by_cases hc15_17 : xa < (97 : Int32)
        · refine own_go (T' := s₁) (f' := (mkF m 24 #[.val (.int xa)] [])) ?_ (fun _ k => XS.icmpYes X0.here hx rfl (pc0 := 15) (pc' := 24) rfl (hb hby own_d1_15) rfl (tlt hc15_17).1 (by decide) (by decide) k)
          refine own_go (T' := s₁) (f' := (mkF m 25 #[.val (.int xa)] [(.int xa)])) ?_ (fun _ k => XS.iloadN X0.here hx rfl (hb hby own_d1_24) rfl  k)
          refine own_go (T' := s₁) (f' := (mkF m 27 #[.val (.int xa)] [(.int (48 : Int32)), (.int xa)])) ?_ (fun _ k => XS.bipush X0.here hx rfl (hb hby own_d1_25) k)
          by_cases hc27_18 : xa < (48 : Int32)
          · refine own_go (T' := s₁) (f' := (mkF m 40 #[.val (.int xa)] [])) ?_ (fun _ k => XS.icmpYes X0.here hx rfl (pc0 := 27) (pc' := 40) rfl (hb hby own_d1_27) rfl (tlt hc27_18).1 (by decide) (by decide) k)
            refine own_go (T' := s₁) (f' := (mkF m 41 #[.val (.int xa)] [(.int (0 : Int32))])) ?_ (fun _ k => XS.iconst X0.here hx rfl (hb hby own_d1_40) k)
            have em19 : (own_v1_3_s0 xa) = (0 : Int32) := (Eq.trans (if_neg hc3_2) (Eq.trans (if_pos hc9_16) (Eq.trans (if_pos hc15_17) (if_pos hc27_18))))
            exact ⟨_, ⟨s₁, _, (by rw [em19]), X0, e0, N0⟩, fun _ k => k⟩
          · refine own_go (T' := s₁) (f' := (mkF m 30 #[.val (.int xa)] [])) ?_ (fun _ k => XS.icmpNo X0.here hx rfl (hb hby own_d1_27) rfl (flt hc27_18).1 k)
            refine own_go (T' := s₁) (f' := (mkF m 31 #[.val (.int xa)] [(.int xa)])) ?_ (fun _ k => XS.iloadN X0.here hx rfl (hb hby own_d1_30) rfl  k)
            refine own_go (T' := s₁) (f' := (mkF m 33 #[.val (.int xa)] [(.int (57 : Int32)), (.int xa)])) ?_ (fun _ k => XS.bipush X0.here hx rfl (hb hby own_d1_31) k)
            by_cases hc33_20 : (57 : Int32) < xa
            · refine own_go (T' := s₁) (f' := (mkF m 40 #[.val (.int xa)] [])) ?_ (fun _ k => XS.icmpYes X0.here hx rfl (pc0 := 33) (pc' := 40) rfl (hb hby own_d1_33) rfl (tlt hc33_20).2.2.1 (by decide) (by decide) k)
              refine own_go (T' := s₁) (f' := (mkF m 41 #[.val (.int xa)] [(.int (0 : Int32))])) ?_ (fun _ k => XS.iconst X0.here hx rfl (hb hby own_d1_40) k)
              have em21 : (own_v1_3_s0 xa) = (0 : Int32) := (Eq.trans (if_neg hc3_2) (Eq.trans (if_pos hc9_16) (Eq.trans (if_pos hc15_17) (Eq.trans (if_neg hc27_18) (if_pos hc33_20)))))
              exact ⟨_, ⟨s₁, _, (by rw [em21]), X0, e0, N0⟩, fun _ k => k⟩
            · refine own_go (T' := s₁) (f' := (mkF m 36 #[.val (.int xa)] [])) ?_ (fun _ k => XS.icmpNo X0.here hx rfl (hb hby own_d1_33) rfl (flt hc33_20).2.2.1 k)
              refine own_go (T' := s₁) (f' := (mkF m 37 #[.val (.int xa)] [(.int (1 : Int32))])) ?_ (fun _ k => XS.iconst X0.here hx rfl (hb hby own_d1_36) k)
              refine own_go (T' := s₁) (f' := (mkF m 41 #[.val (.int xa)] [(.int (1 : Int32))])) ?_ (fun _ k => XS.goto X0.here hx rfl (pc0 := 37) (pc' := 41) rfl (hb hby own_d1_37) (by decide) (by decide) k)
              have em22 : (own_v1_3_s0 xa) = (1 : Int32) := (Eq.trans (if_neg hc3_2) (Eq.trans (if_pos hc9_16) (Eq.trans (if_pos hc15_17) (Eq.trans (if_neg hc27_18) (if_neg hc33_20)))))
              exact ⟨_, ⟨s₁, _, (by rw [em22]), X0, e0, N0⟩, fun _ k => k⟩
        · refine own_go (T' := s₁) (f' := (mkF m 18 #[.val (.int xa)] [])) ?_ (fun _ k => XS.icmpNo X0.here hx rfl (hb hby own_d1_15) rfl (flt hc15_17).1 k)
          refine own_go (T' := s₁) (f' := (mkF m 19 #[.val (.int xa)] [(.int xa)])) ?_ (fun _ k => XS.iloadN X0.here hx rfl (hb hby own_d1_18) rfl  k)
          refine own_go (T' := s₁) (f' := (mkF m 21 #[.val (.int xa)] [(.int (122 : Int32)), (.int xa)])) ?_ (fun _ k => XS.bipush X0.here hx rfl (hb hby own_d1_19) k)
          by_cases hc21_23 : (122 : Int32) < xa
          · refine own_go (T' := s₁) (f' := (mkF m 24 #[.val (.int xa)] [])) ?_ (fun _ k => XS.icmpNo X0.here hx rfl (hb hby own_d1_21) rfl (tlt hc21_23).2.2.2 k)
            refine own_go (T' := s₁) (f' := (mkF m 25 #[.val (.int xa)] [(.int xa)])) ?_ (fun _ k => XS.iloadN X0.here hx rfl (hb hby own_d1_24) rfl  k)
            refine own_go (T' := s₁) (f' := (mkF m 27 #[.val (.int xa)] [(.int (48 : Int32)), (.int xa)])) ?_ (fun _ k => XS.bipush X0.here hx rfl (hb hby own_d1_25) k)
            by_cases hc27_24 : xa < (48 : Int32)
            · refine own_go (T' := s₁) (f' := (mkF m 40 #[.val (.int xa)] [])) ?_ (fun _ k => XS.icmpYes X0.here hx rfl (pc0 := 27) (pc' := 40) rfl (hb hby own_d1_27) rfl (tlt hc27_24).1 (by decide) (by decide) k)
              refine own_go (T' := s₁) (f' := (mkF m 41 #[.val (.int xa)] [(.int (0 : Int32))])) ?_ (fun _ k => XS.iconst X0.here hx rfl (hb hby own_d1_40) k)
              have em25 : (own_v1_3_s0 xa) = (0 : Int32) := (Eq.trans (if_neg hc3_2) (Eq.trans (if_pos hc9_16) (Eq.trans (if_neg hc15_17) (Eq.trans (if_pos hc21_23) (if_pos hc27_24)))))
              exact ⟨_, ⟨s₁, _, (by rw [em25]), X0, e0, N0⟩, fun _ k => k⟩
            · refine own_go (T' := s₁) (f' := (mkF m 30 #[.val (.int xa)] [])) ?_ (fun _ k => XS.icmpNo X0.here hx rfl (hb hby own_d1_27) rfl (flt hc27_24).1 k)
              refine own_go (T' := s₁) (f' := (mkF m 31 #[.val (.int xa)] [(.int xa)])) ?_ (fun _ k => XS.iloadN X0.here hx rfl (hb hby own_d1_30) rfl  k)
              refine own_go (T' := s₁) (f' := (mkF m 33 #[.val (.int xa)] [(.int (57 : Int32)), (.int xa)])) ?_ (fun _ k => XS.bipush X0.here hx rfl (hb hby own_d1_31) k)
              by_cases hc33_26 : (57 : Int32) < xa
              · refine own_go (T' := s₁) (f' := (mkF m 40 #[.val (.int xa)] [])) ?_ (fun _ k => XS.icmpYes X0.here hx rfl (pc0 := 33) (pc' := 40) rfl (hb hby own_d1_33) rfl (tlt hc33_26).2.2.1 (by decide) (by decide) k)
                refine own_go (T' := s₁) (f' := (mkF m 41 #[.val (.int xa)] [(.int (0 : Int32))])) ?_ (fun _ k => XS.iconst X0.here hx rfl (hb hby own_d1_40) k)
                have em27 : (own_v1_3_s0 xa) = (0 : Int32) := (Eq.trans (if_neg hc3_2) (Eq.trans (if_pos hc9_16) (Eq.trans (if_neg hc15_17) (Eq.trans (if_pos hc21_23) (Eq.trans (if_neg hc27_24) (if_pos hc33_26))))))
                exact ⟨_, ⟨s₁, _, (by rw [em27]), X0, e0, N0⟩, fun _ k => k⟩
              · refine own_go (T' := s₁) (f' := (mkF m 36 #[.val (.int xa)] [])) ?_ (fun _ k => XS.icmpNo X0.here hx rfl (hb hby own_d1_33) rfl (flt hc33_26).2.2.1 k)
                refine own_go (T' := s₁) (f' := (mkF m 37 #[.val (.int xa)] [(.int (1 : Int32))])) ?_ (fun _ k => XS.iconst X0.here hx rfl (hb hby own_d1_36) k)
                refine own_go (T' := s₁) (f' := (mkF m 41 #[.val (.int xa)] [(.int (1 : Int32))])) ?_ (fun _ k => XS.goto X0.here hx rfl (pc0 := 37) (pc' := 41) rfl (hb hby own_d1_37) (by decide) (by decide) k)
                have em28 : (own_v1_3_s0 xa) = (1 : Int32) := (Eq.trans (if_neg hc3_2) (Eq.trans (if_pos hc9_16) (Eq.trans (if_neg hc15_17) (Eq.trans (if_pos hc21_23) (Eq.trans (if_neg hc27_24) (if_neg hc33_26))))))
                exact ⟨_, ⟨s₁, _, (by rw [em28]), X0, e0, N0⟩, fun _ k => k⟩
          · refine own_go (T' := s₁) (f' := (mkF m 36 #[.val (.int xa)] [])) ?_ (fun _ k => XS.icmpYes X0.here hx rfl (pc0 := 21) (pc' := 36) rfl (hb hby own_d1_21) rfl (flt hc21_23).2.2.2 (by decide) (by decide) k)
            refine own_go (T' := s₁) (f' := (mkF m 37 #[.val (.int xa)] [(.int (1 : Int32))])) ?_ (fun _ k => XS.iconst X0.here hx rfl (hb hby own_d1_36) k)
            refine own_go (T' := s₁) (f' := (mkF m 41 #[.val (.int xa)] [(.int (1 : Int32))])) ?_ (fun _ k => XS.goto X0.here hx rfl (pc0 := 37) (pc' := 41) rfl (hb hby own_d1_37) (by decide) (by decide) k)
            have em29 : (own_v1_3_s0 xa) = (1 : Int32) := (Eq.trans (if_neg hc3_2) (Eq.trans (if_pos hc9_16) (Eq.trans (if_neg hc15_17) (if_neg hc21_23))))
            exact ⟨_, ⟨s₁, _, (by rw [em29]), X0, e0, N0⟩, fun _ k => k⟩
      · refine own_go (T' := s₁) (f' := (mkF m 36 #[.val (.int xa)] [])) ?_ (fun _ k => XS.icmpYes X0.here hx rfl (pc0 := 9) (pc' := 36) rfl (hb hby own_d1_9) rfl (flt hc9_16).2.2.2 (by decide) (by decide) k)
        refine own_go (T' := s₁) (f' := (mkF m 37 #[.val (.int xa)] [(.int (1 : Int32))])) ?_ (fun _ k => XS.iconst X0.here hx rfl (hb hby own_d1_36) k)
        refine own_go (T' := s₁) (f' := (mkF m 41 #[.val (.int xa)] [(.int (1 : Int32))])) ?_ (fun _ k => XS.goto X0.here hx rfl (pc0 := 37) (pc' := 41) rfl (hb hby own_d1_37) (by decide) (by decide) k)
        have em30 : (own_v1_3_s0 xa) = (1 : Int32) := (Eq.trans (if_neg hc3_2) (if_neg hc9_16))
        exact ⟨_, ⟨s₁, _, (by rw [em30]), X0, e0, N0⟩, fun _ k => k⟩
  refine own_go (T' := T1) (f' := (mkF m 41 #[.val (.int xa)] [(.int (own_v1_3_s0 xa))])) ?_ (mg1)
  obtain ⟨fs31, hr31, hrun31, hended31, hW31, hsame31⟩ := X1.leave (v := some (.int (own_v1_3_s0 xa))) (fun h => by rw [Bd.returns] at h; cases h)
  refine ⟨_, ⟨_, hrun31, hended31, _, _, rfl, ?_, ⟨_, rfl⟩, hW31, hsame31.mono (by decide) (by decide)⟩, fun _ k => (own_retZ X1 hx Bd.returns (own_b1_3_s0 xa) (hb hby own_d1_41) hr31).trans k⟩
  show own_Q1 Z xa h0 n0 _ T1.heap _
  rw [e1]
  exact ⟨rfl, N1, rfl⟩
theorem own_pd0 : parseMethodDescriptor "(C)Z" = some ⟨[.char], some .boolean⟩ := by decide +kernel
theorem own_pn1 : plainName "com/example/inca_dove/incadove/addresses/DomainNameIsLetterOrDigitPinLaw" = true := by first | (simp [plainName, overriddenIn]; done) | decide +kernel
def own_v0_7 (xa : Int32) : Int32 := ((xa.toUInt32.toUInt16.toUInt32.toInt32) ||| (32 : Int32))
def own_v0_11_s0 (xa : Int32) : Int32 := (if (own_v0_7 xa) < (97 : Int32) then (0 : Int32) else (if (122 : Int32) < (own_v0_7 xa) then (0 : Int32) else (1 : Int32)))
def own_v0_30 (xa : Int32) : Int32 := ((xa.toUInt32.toUInt16.toUInt32.toInt32) - (48 : Int32))
def own_v0_34_s0 (xa : Int32) : Int32 := (if (own_v0_30 xa) < (0 : Int32) then (0 : Int32) else (if (9 : Int32) < (own_v0_30 xa) then (0 : Int32) else (1 : Int32)))
def own_v0_56_s0 (xa : Int32) : Int32 := (if (own_v0_11_s0 xa) = (0 : Int32) then (if (own_v0_34_s0 xa) = (0 : Int32) then (0 : Int32) else (1 : Int32)) else (1 : Int32))
def own_v0_69_s0 (xa : Int32) : Int32 := (if (own_f1 (xa.toUInt32.toUInt16.toUInt32.toInt32)) = (own_v0_56_s0 xa) then (1 : Int32) else (0 : Int32))
def own_f0 (xa : Int32) : Int32 := (own_v0_69_s0 xa)
theorem own_b0_69_s0 (xa : Int32) : (own_v0_69_s0 xa) &&& 1 = (own_v0_69_s0 xa) := (own_ite_bool (by decide) (by decide))
theorem own_bf0 (xa : Int32) : (own_f0 xa) &&& 1 = (own_f0 xa) := (own_b0_69_s0 xa)
theorem own_ef0 (m : MethodId) (xa : Int32) : entryFrame m #[(.int xa)] maxLocals = mkF m 0 #[.val (.int xa), .unset, .unset, .unset, .unset, .unset] [] := by first | (simp [entryFrame, mkF, argsToLocals, Value.category, maxLocals]; done) | rfl
def own_Q0 (Z : State) (xa : Int32) (h0 : Heap) (n0 : Nat) (v : Option Value) (h : Heap) (L : List Loc) : Prop := v = some (.int (own_f0 xa)) ∧ Fr n0 L
set_option maxRecDepth 65536 in
set_option maxHeartbeats 40000000 in
theorem own_rm0 (l : Launch) (Z : State) (a0 : Array Value) (hw : ∀ d ∈ tables_1, d.before a0 Z = true) (ws : List Jvm.Cond) (xa : Int32) (h0 : Heap) (n0 : Nat) (Z0 : n0 ≤ h0.size) :
    MetFree l x (head1 (Jvm.Cond.code x code maxLocals ret :: ws) room_1) (fun a U => a = #[(.int xa)] ∧ Z.Warmed39 U.vm ∧ U.heap = h0) (fun _ _ _ _ _ => True) (fun _ U o U' => ∃ v L, o = .returned v ∧ own_Q0 Z xa h0 n0 v U'.heap L ∧ FrameEnd U o U' L 0 0) := by
  refine MetFree.of_bodySF (plainFor_of_name own_pn1) hisR ?_
  intro p e s m args below meth c s₁ Bd hml0 hP hK
  obtain ⟨rfl, hZ, hh⟩ := hP
  have hx := Bd.exec
  have hby := Bd.bytes
  have hml : c.maxLocals = 6 := hml0
  have hown : s.vm.findClass "com/example/inca_dove/incadove/addresses/DomainNameIsLetterOrDigitPinLaw" = some m.cls := findClass_of_methodNamed Bd.named
  have hnm := (name_of_methodNamed Bd.named Bd.method).1
  have X0 : Stand p l e room_1 s m #[(.int xa)] below meth c s₁ [] 0 0 := Stand.of_body Bd
  have e0 : s₁.heap = h0 := by rw [← hh, Bd.state]; rfl
  have N0 := Fr.nil n0
  refine own_out (Q := fun o U' => ∃ v L, o = .returned v ∧ own_Q0 Z xa h0 n0 v U'.heap L ∧ FrameEnd s o U' L 0 0) ?_
  refine own_go (T' := s₁) (f' := (mkF m 0 #[.val (.int xa), .unset, .unset, .unset, .unset, .unset] [])) ?_ (fun _ k => castTop (own_ef0 m xa) k)
  refine own_go (T' := s₁) (f' := (mkF m 1 #[.val (.int xa), .unset, .unset, .unset, .unset, .unset] [(.int xa)])) ?_ (fun _ k => XS.iloadN X0.here hx rfl (hb hby at_0) rfl  k)
  refine own_go (T' := s₁) (f' := (mkF m 2 #[.val (.int xa), .unset, .unset, .unset, .unset, .unset] [(.int (xa.toUInt32.toUInt16.toUInt32.toInt32))])) ?_ (fun _ k => XS.i2c X0.here hx rfl (hb hby at_1) rfl k)
  refine own_go (T' := s₁) (f' := (mkF m 3 #[.val (.int xa), .val (.int (xa.toUInt32.toUInt16.toUInt32.toInt32)), .unset, .unset, .unset, .unset] [])) ?_ (fun _ k => XS.istoreN X0.here hx rfl (hb hby at_2) rfl (l' := #[.val (.int xa), .val (.int (xa.toUInt32.toUInt16.toUInt32.toInt32)), .unset, .unset, .unset, .unset]) rfl k)
  refine own_go (T' := s₁) (f' := (mkF m 4 #[.val (.int xa), .val (.int (xa.toUInt32.toUInt16.toUInt32.toInt32)), .unset, .unset, .unset, .unset] [(.int (xa.toUInt32.toUInt16.toUInt32.toInt32))])) ?_ (fun _ k => XS.iloadN X0.here hx rfl (hb hby at_3) rfl  k)
  refine own_go (T' := s₁) (f' := (mkF m 6 #[.val (.int xa), .val (.int (xa.toUInt32.toUInt16.toUInt32.toInt32)), .unset, .unset, .unset, .unset] [(.int (32 : Int32)), (.int (xa.toUInt32.toUInt16.toUInt32.toInt32))])) ?_ (fun _ k => XS.bipush X0.here hx rfl (hb hby at_4) k)
  refine own_go (T' := s₁) (f' := (mkF m 7 #[.val (.int xa), .val (.int (xa.toUInt32.toUInt16.toUInt32.toInt32)), .unset, .unset, .unset, .unset] [(.int ((xa.toUInt32.toUInt16.toUInt32.toInt32) ||| (32 : Int32)))])) ?_ (fun _ k => XS.ior X0.here hx rfl (hb hby at_6) rfl k)
  refine own_go (T' := s₁) (f' := (mkF m 8 #[.val (.int xa), .val (.int (xa.toUInt32.toUInt16.toUInt32.toInt32)), .val (.int (own_v0_7 xa)), .unset, .unset, .unset] [])) ?_ (fun _ k => XS.istoreN X0.here hx rfl (hb hby at_7) rfl (l' := #[.val (.int xa), .val (.int (xa.toUInt32.toUInt16.toUInt32.toInt32)), .val (.int (own_v0_7 xa)), .unset, .unset, .unset]) rfl k)
  refine own_go (T' := s₁) (f' := (mkF m 9 #[.val (.int xa), .val (.int (xa.toUInt32.toUInt16.toUInt32.toInt32)), .val (.int (own_v0_7 xa)), .unset, .unset, .unset] [(.int (own_v0_7 xa))])) ?_ (fun _ k => XS.iloadN X0.here hx rfl (hb hby at_8) rfl  k)
  refine own_go (T' := s₁) (f' := (mkF m 11 #[.val (.int xa), .val (.int (xa.toUInt32.toUInt16.toUInt32.toInt32)), .val (.int (own_v0_7 xa)), .unset, .unset, .unset] [(.int (97 : Int32)), (.int (own_v0_7 xa))])) ?_ (fun _ k => XS.bipush X0.here hx rfl (hb hby at_9) k)
  obtain ⟨_, ⟨T1, L1, rfl, X1, e1, N1⟩, mg1⟩ : own_Goes p.tables e below (fun uu => ∃ (T' : State) (L' : List Loc), uu = T'.setTop (mkF m 25 #[.val (.int xa), .val (.int (xa.toUInt32.toUInt16.toUInt32.toInt32)), .val (.int (own_v0_7 xa)), .unset, .unset, .unset] [(.int (own_v0_11_s0 xa))]) ∧ Stand p l e room_1 s m #[(.int xa)] below meth c T' L' 0 0 ∧ T'.heap = h0 ∧ Fr n0 L') s₁ (mkF m 11 #[.val (.int xa), .val (.int (xa.toUInt32.toUInt16.toUInt32.toInt32)), .val (.int (own_v0_7 xa)), .unset, .unset, .unset] [(.int (97 : Int32)), (.int (own_v0_7 xa))]) := by
    by_cases hc11_2 : (own_v0_7 xa) < (97 : Int32)
    · refine own_go (T' := s₁) (f' := (mkF m 24 #[.val (.int xa), .val (.int (xa.toUInt32.toUInt16.toUInt32.toInt32)), .val (.int (own_v0_7 xa)), .unset, .unset, .unset] [])) ?_ (fun _ k => XS.icmpYes X0.here hx rfl (pc0 := 11) (pc' := 24) rfl (hb hby at_11) rfl (tlt hc11_2).1 (by decide) (by decide) k)
      refine own_go (T' := s₁) (f' := (mkF m 25 #[.val (.int xa), .val (.int (xa.toUInt32.toUInt16.toUInt32.toInt32)), .val (.int (own_v0_7 xa)), .unset, .unset, .unset] [(.int (0 : Int32))])) ?_ (fun _ k => XS.iconst X0.here hx rfl (hb hby at_24) k)
      have em3 : (own_v0_11_s0 xa) = (0 : Int32) := (if_pos hc11_2)
      exact ⟨_, ⟨s₁, _, (by rw [em3]), X0, e0, N0⟩, fun _ k => k⟩
    · refine own_go (T' := s₁) (f' := (mkF m 14 #[.val (.int xa), .val (.int (xa.toUInt32.toUInt16.toUInt32.toInt32)), .val (.int (own_v0_7 xa)), .unset, .unset, .unset] [])) ?_ (fun _ k => XS.icmpNo X0.here hx rfl (hb hby at_11) rfl (flt hc11_2).1 k)
      refine own_go (T' := s₁) (f' := (mkF m 15 #[.val (.int xa), .val (.int (xa.toUInt32.toUInt16.toUInt32.toInt32)), .val (.int (own_v0_7 xa)), .unset, .unset, .unset] [(.int (own_v0_7 xa))])) ?_ (fun _ k => XS.iloadN X0.here hx rfl (hb hby at_14) rfl  k)
      refine own_go (T' := s₁) (f' := (mkF m 17 #[.val (.int xa), .val (.int (xa.toUInt32.toUInt16.toUInt32.toInt32)), .val (.int (own_v0_7 xa)), .unset, .unset, .unset] [(.int (122 : Int32)), (.int (own_v0_7 xa))])) ?_ (fun _ k => XS.bipush X0.here hx rfl (hb hby at_15) k)
      by_cases hc17_4 : (122 : Int32) < (own_v0_7 xa)
      · refine own_go (T' := s₁) (f' := (mkF m 24 #[.val (.int xa), .val (.int (xa.toUInt32.toUInt16.toUInt32.toInt32)), .val (.int (own_v0_7 xa)), .unset, .unset, .unset] [])) ?_ (fun _ k => XS.icmpYes X0.here hx rfl (pc0 := 17) (pc' := 24) rfl (hb hby at_17) rfl (tlt hc17_4).2.2.1 (by decide) (by decide) k)
        refine own_go (T' := s₁) (f' := (mkF m 25 #[.val (.int xa), .val (.int (xa.toUInt32.toUInt16.toUInt32.toInt32)), .val (.int (own_v0_7 xa)), .unset, .unset, .unset] [(.int (0 : Int32))])) ?_ (fun _ k => XS.iconst X0.here hx rfl (hb hby at_24) k)
        have em5 : (own_v0_11_s0 xa) = (0 : Int32) := (Eq.trans (if_neg hc11_2) (if_pos hc17_4))
        exact ⟨_, ⟨s₁, _, (by rw [em5]), X0, e0, N0⟩, fun _ k => k⟩
      · refine own_go (T' := s₁) (f' := (mkF m 20 #[.val (.int xa), .val (.int (xa.toUInt32.toUInt16.toUInt32.toInt32)), .val (.int (own_v0_7 xa)), .unset, .unset, .unset] [])) ?_ (fun _ k => XS.icmpNo X0.here hx rfl (hb hby at_17) rfl (flt hc17_4).2.2.1 k)
        refine own_go (T' := s₁) (f' := (mkF m 21 #[.val (.int xa), .val (.int (xa.toUInt32.toUInt16.toUInt32.toInt32)), .val (.int (own_v0_7 xa)), .unset, .unset, .unset] [(.int (1 : Int32))])) ?_ (fun _ k => XS.iconst X0.here hx rfl (hb hby at_20) k)
        refine own_go (T' := s₁) (f' := (mkF m 25 #[.val (.int xa), .val (.int (xa.toUInt32.toUInt16.toUInt32.toInt32)), .val (.int (own_v0_7 xa)), .unset, .unset, .unset] [(.int (1 : Int32))])) ?_ (fun _ k => XS.goto X0.here hx rfl (pc0 := 21) (pc' := 25) rfl (hb hby at_21) (by decide) (by decide) k)
        have em6 : (own_v0_11_s0 xa) = (1 : Int32) := (Eq.trans (if_neg hc11_2) (if_neg hc17_4))
        exact ⟨_, ⟨s₁, _, (by rw [em6]), X0, e0, N0⟩, fun _ k => k⟩
  refine own_go (T' := T1) (f' := (mkF m 25 #[.val (.int xa), .val (.int (xa.toUInt32.toUInt16.toUInt32.toInt32)), .val (.int (own_v0_7 xa)), .unset, .unset, .unset] [(.int (own_v0_11_s0 xa))])) ?_ (mg1)
  refine own_go (T' := T1) (f' := (mkF m 26 #[.val (.int xa), .val (.int (xa.toUInt32.toUInt16.toUInt32.toInt32)), .val (.int (own_v0_7 xa)), .val (.int (own_v0_11_s0 xa)), .unset, .unset] [])) ?_ (fun _ k => XS.istoreN X1.here hx rfl (hb hby at_25) rfl (l' := #[.val (.int xa), .val (.int (xa.toUInt32.toUInt16.toUInt32.toInt32)), .val (.int (own_v0_7 xa)), .val (.int (own_v0_11_s0 xa)), .unset, .unset]) rfl k)
  refine own_go (T' := T1) (f' := (mkF m 27 #[.val (.int xa), .val (.int (xa.toUInt32.toUInt16.toUInt32.toInt32)), .val (.int (own_v0_7 xa)), .val (.int (own_v0_11_s0 xa)), .unset, .unset] [(.int (xa.toUInt32.toUInt16.toUInt32.toInt32))])) ?_ (fun _ k => XS.iloadN X1.here hx rfl (hb hby at_26) rfl  k)
  refine own_go (T' := T1) (f' := (mkF m 29 #[.val (.int xa), .val (.int (xa.toUInt32.toUInt16.toUInt32.toInt32)), .val (.int (own_v0_7 xa)), .val (.int (own_v0_11_s0 xa)), .unset, .unset] [(.int (48 : Int32)), (.int (xa.toUInt32.toUInt16.toUInt32.toInt32))])) ?_ (fun _ k => XS.bipush X1.here hx rfl (hb hby at_27) k)
  refine own_go (T' := T1) (f' := (mkF m 30 #[.val (.int xa), .val (.int (xa.toUInt32.toUInt16.toUInt32.toInt32)), .val (.int (own_v0_7 xa)), .val (.int (own_v0_11_s0 xa)), .unset, .unset] [(.int ((xa.toUInt32.toUInt16.toUInt32.toInt32) - (48 : Int32)))])) ?_ (fun _ k => XS.isub X1.here hx rfl (hb hby at_29) rfl k)
  refine own_go (T' := T1) (f' := (mkF m 32 #[.val (.int xa), .val (.int (xa.toUInt32.toUInt16.toUInt32.toInt32)), .val (.int (own_v0_7 xa)), .val (.int (own_v0_11_s0 xa)), .val (.int (own_v0_30 xa)), .unset] [])) ?_ (fun _ k => XS.istore X1.here hx rfl (hb hby at_30) rfl (l' := #[.val (.int xa), .val (.int (xa.toUInt32.toUInt16.toUInt32.toInt32)), .val (.int (own_v0_7 xa)), .val (.int (own_v0_11_s0 xa)), .val (.int (own_v0_30 xa)), .unset]) rfl k)
  refine own_go (T' := T1) (f' := (mkF m 34 #[.val (.int xa), .val (.int (xa.toUInt32.toUInt16.toUInt32.toInt32)), .val (.int (own_v0_7 xa)), .val (.int (own_v0_11_s0 xa)), .val (.int (own_v0_30 xa)), .unset] [(.int (own_v0_30 xa))])) ?_ (fun _ k => XS.iload X1.here hx rfl (hb hby at_32) rfl  k)
  obtain ⟨_, ⟨T7, L7, rfl, X7, e7, N7⟩, mg7⟩ : own_Goes p.tables e below (fun uu => ∃ (T' : State) (L' : List Loc), uu = T'.setTop (mkF m 49 #[.val (.int xa), .val (.int (xa.toUInt32.toUInt16.toUInt32.toInt32)), .val (.int (own_v0_7 xa)), .val (.int (own_v0_11_s0 xa)), .val (.int (own_v0_30 xa)), .unset] [(.int (own_v0_34_s0 xa))]) ∧ Stand p l e room_1 s m #[(.int xa)] below meth c T' L' 0 0 ∧ T'.heap = h0 ∧ Fr n0 L') T1 (mkF m 34 #[.val (.int xa), .val (.int (xa.toUInt32.toUInt16.toUInt32.toInt32)), .val (.int (own_v0_7 xa)), .val (.int (own_v0_11_s0 xa)), .val (.int (own_v0_30 xa)), .unset] [(.int (own_v0_30 xa))]) := by
    by_cases hc34_8 : (own_v0_30 xa) < (0 : Int32)
    · refine own_go (T' := T1) (f' := (mkF m 48 #[.val (.int xa), .val (.int (xa.toUInt32.toUInt16.toUInt32.toInt32)), .val (.int (own_v0_7 xa)), .val (.int (own_v0_11_s0 xa)), .val (.int (own_v0_30 xa)), .unset] [])) ?_ (fun _ k => XS.ifYes X1.here hx rfl (pc0 := 34) (pc' := 48) rfl (hb hby at_34) rfl ((if0 _ _).trans (tlt hc34_8).1) (by decide) (by decide) k)
      refine own_go (T' := T1) (f' := (mkF m 49 #[.val (.int xa), .val (.int (xa.toUInt32.toUInt16.toUInt32.toInt32)), .val (.int (own_v0_7 xa)), .val (.int (own_v0_11_s0 xa)), .val (.int (own_v0_30 xa)), .unset] [(.int (0 : Int32))])) ?_ (fun _ k => XS.iconst X1.here hx rfl (hb hby at_48) k)
      have em9 : (own_v0_34_s0 xa) = (0 : Int32) := (if_pos hc34_8)
      exact ⟨_, ⟨T1, _, (by rw [em9]), X1, e1, N1⟩, fun _ k => k⟩
    · refine own_go (T' := T1) (f' := (mkF m 37 #[.val (.int xa), .val (.int (xa.toUInt32.toUInt16.toUInt32.toInt32)), .val (.int (own_v0_7 xa)), .val (.int (own_v0_11_s0 xa)), .val (.int (own_v0_30 xa)), .unset] [])) ?_ (fun _ k => XS.ifNo X1.here hx rfl (hb hby at_34) rfl ((if0 _ _).trans (flt hc34_8).1) k)
      refine own_go (T' := T1) (f' := (mkF m 39 #[.val (.int xa), .val (.int (xa.toUInt32.toUInt16.toUInt32.toInt32)), .val (.int (own_v0_7 xa)), .val (.int (own_v0_11_s0 xa)), .val (.int (own_v0_30 xa)), .unset] [(.int (own_v0_30 xa))])) ?_ (fun _ k => XS.iload X1.here hx rfl (hb hby at_37) rfl  k)
      refine own_go (T' := T1) (f' := (mkF m 41 #[.val (.int xa), .val (.int (xa.toUInt32.toUInt16.toUInt32.toInt32)), .val (.int (own_v0_7 xa)), .val (.int (own_v0_11_s0 xa)), .val (.int (own_v0_30 xa)), .unset] [(.int (9 : Int32)), (.int (own_v0_30 xa))])) ?_ (fun _ k => XS.bipush X1.here hx rfl (hb hby at_39) k)
      by_cases hc41_10 : (9 : Int32) < (own_v0_30 xa)
      · refine own_go (T' := T1) (f' := (mkF m 48 #[.val (.int xa), .val (.int (xa.toUInt32.toUInt16.toUInt32.toInt32)), .val (.int (own_v0_7 xa)), .val (.int (own_v0_11_s0 xa)), .val (.int (own_v0_30 xa)), .unset] [])) ?_ (fun _ k => XS.icmpYes X1.here hx rfl (pc0 := 41) (pc' := 48) rfl (hb hby at_41) rfl (tlt hc41_10).2.2.1 (by decide) (by decide) k)
        refine own_go (T' := T1) (f' := (mkF m 49 #[.val (.int xa), .val (.int (xa.toUInt32.toUInt16.toUInt32.toInt32)), .val (.int (own_v0_7 xa)), .val (.int (own_v0_11_s0 xa)), .val (.int (own_v0_30 xa)), .unset] [(.int (0 : Int32))])) ?_ (fun _ k => XS.iconst X1.here hx rfl (hb hby at_48) k)
        have em11 : (own_v0_34_s0 xa) = (0 : Int32) := (Eq.trans (if_neg hc34_8) (if_pos hc41_10))
        exact ⟨_, ⟨T1, _, (by rw [em11]), X1, e1, N1⟩, fun _ k => k⟩
      · refine own_go (T' := T1) (f' := (mkF m 44 #[.val (.int xa), .val (.int (xa.toUInt32.toUInt16.toUInt32.toInt32)), .val (.int (own_v0_7 xa)), .val (.int (own_v0_11_s0 xa)), .val (.int (own_v0_30 xa)), .unset] [])) ?_ (fun _ k => XS.icmpNo X1.here hx rfl (hb hby at_41) rfl (flt hc41_10).2.2.1 k)
        refine own_go (T' := T1) (f' := (mkF m 45 #[.val (.int xa), .val (.int (xa.toUInt32.toUInt16.toUInt32.toInt32)), .val (.int (own_v0_7 xa)), .val (.int (own_v0_11_s0 xa)), .val (.int (own_v0_30 xa)), .unset] [(.int (1 : Int32))])) ?_ (fun _ k => XS.iconst X1.here hx rfl (hb hby at_44) k)
        refine own_go (T' := T1) (f' := (mkF m 49 #[.val (.int xa), .val (.int (xa.toUInt32.toUInt16.toUInt32.toInt32)), .val (.int (own_v0_7 xa)), .val (.int (own_v0_11_s0 xa)), .val (.int (own_v0_30 xa)), .unset] [(.int (1 : Int32))])) ?_ (fun _ k => XS.goto X1.here hx rfl (pc0 := 45) (pc' := 49) rfl (hb hby at_45) (by decide) (by decide) k)
        have em12 : (own_v0_34_s0 xa) = (1 : Int32) := (Eq.trans (if_neg hc34_8) (if_neg hc41_10))
        exact ⟨_, ⟨T1, _, (by rw [em12]), X1, e1, N1⟩, fun _ k => k⟩
  refine own_go (T' := T7) (f' := (mkF m 49 #[.val (.int xa), .val (.int (xa.toUInt32.toUInt16.toUInt32.toInt32)), .val (.int (own_v0_7 xa)), .val (.int (own_v0_11_s0 xa)), .val (.int (own_v0_30 xa)), .unset] [(.int (own_v0_34_s0 xa))])) ?_ (mg7)
  refine own_go (T' := T7) (f' := (mkF m 51 #[.val (.int xa), .val (.int (xa.toUInt32.toUInt16.toUInt32.toInt32)), .val (.int (own_v0_7 xa)), .val (.int (own_v0_11_s0 xa)), .val (.int (own_v0_30 xa)), .val (.int (own_v0_34_s0 xa))] [])) ?_ (fun _ k => XS.istore X7.here hx rfl (hb hby at_49) rfl (l' := #[.val (.int xa), .val (.int (xa.toUInt32.toUInt16.toUInt32.toInt32)), .val (.int (own_v0_7 xa)), .val (.int (own_v0_11_s0 xa)), .val (.int (own_v0_30 xa)), .val (.int (own_v0_34_s0 xa))]) rfl k)
  refine own_go (T' := T7) (f' := (mkF m 52 #[.val (.int xa), .val (.int (xa.toUInt32.toUInt16.toUInt32.toInt32)), .val (.int (own_v0_7 xa)), .val (.int (own_v0_11_s0 xa)), .val (.int (own_v0_30 xa)), .val (.int (own_v0_34_s0 xa))] [(.int (xa.toUInt32.toUInt16.toUInt32.toInt32))])) ?_ (fun _ k => XS.iloadN X7.here hx rfl (hb hby at_51) rfl  k)
  obtain ⟨_, _, ⟨T13, L13, k13, n13⟩, -, X13, ⟨Lc13, hQ13, l13, y13, z13⟩, st13⟩ := Jvm.LawKit.callS X7 hx (y := (⟨"com/example/inca_dove/incadove/addresses/DomainName", "isLetterOrDigit", "(C)Z"⟩ : MethodName)) hown (mvT hZ (hw _ (List.mem_of_getElem? (i := 0) rfl))) (mvT hZ (hw _ (List.mem_of_getElem? (i := 1) rfl))) (mvT hZ (hw _ (List.mem_of_getElem? (i := 2) rfl))) (mvT hZ (hw _ (List.mem_of_getElem? (i := 3) rfl))) (by decide) (backOf (W := 0) (own_rm1 l Z a0 hw [] (xa.toUInt32.toUInt16.toUInt32.toInt32) h0 n0 Z0) hZ (hw _ (List.mem_of_getElem? (i := 3) rfl)) (hw _ (List.mem_of_getElem? (i := 2) rfl)) (by decide) (by decide)) (g := (mkF m 52 #[.val (.int xa), .val (.int (xa.toUInt32.toUInt16.toUInt32.toInt32)), .val (.int (own_v0_7 xa)), .val (.int (own_v0_11_s0 xa)), .val (.int (own_v0_30 xa)), .val (.int (own_v0_34_s0 xa))] [(.int (xa.toUInt32.toUInt16.toUInt32.toInt32))])) rfl (by rw [hml]; rfl) (argsL := [(.int (xa.toUInt32.toUInt16.toUInt32.toInt32))]) (rest := []) (lenOf own_pd0 rfl) rfl (by show 2 * 0 + _ ≤ _; exact Nat.le_of_eq rfl) (hb hby at_52) (fun _ _ => ⟨rfl, e7, (by decide : 0 + 0 ≤ _), (by decide : 0 + 0 ≤ _)⟩)
  dsimp only [Pt.U, Pt.locs, Pt.cells, Pt.slots] at X13 l13 y13 z13 st13 hQ13
  subst y13 z13
  obtain ⟨rfl, N13q, e13⟩ := hQ13
  have N13 : Fr n0 L13 := l13 ▸ Fr.app N7 N13q
  refine own_go (T' := T13) (f' := (mkF m 55 #[.val (.int xa), .val (.int (xa.toUInt32.toUInt16.toUInt32.toInt32)), .val (.int (own_v0_7 xa)), .val (.int (own_v0_11_s0 xa)), .val (.int (own_v0_30 xa)), .val (.int (own_v0_34_s0 xa))] [(.int (own_f1 (xa.toUInt32.toUInt16.toUInt32.toInt32)))])) ?_ (st13)
  refine own_go (T' := T13) (f' := (mkF m 56 #[.val (.int xa), .val (.int (xa.toUInt32.toUInt16.toUInt32.toInt32)), .val (.int (own_v0_7 xa)), .val (.int (own_v0_11_s0 xa)), .val (.int (own_v0_30 xa)), .val (.int (own_v0_34_s0 xa))] [(.int (own_v0_11_s0 xa)), (.int (own_f1 (xa.toUInt32.toUInt16.toUInt32.toInt32)))])) ?_ (fun _ k => XS.iloadN X13.here hx rfl (hb hby at_55) rfl  k)
  obtain ⟨_, ⟨T14, L14, rfl, X14, e14, N14⟩, mg14⟩ : own_Goes p.tables e below (fun uu => ∃ (T' : State) (L' : List Loc), uu = T'.setTop (mkF m 69 #[.val (.int xa), .val (.int (xa.toUInt32.toUInt16.toUInt32.toInt32)), .val (.int (own_v0_7 xa)), .val (.int (own_v0_11_s0 xa)), .val (.int (own_v0_30 xa)), .val (.int (own_v0_34_s0 xa))] [(.int (own_v0_56_s0 xa)), (.int (own_f1 (xa.toUInt32.toUInt16.toUInt32.toInt32)))]) ∧ Stand p l e room_1 s m #[(.int xa)] below meth c T' L' 0 0 ∧ T'.heap = h0 ∧ Fr n0 L') T13 (mkF m 56 #[.val (.int xa), .val (.int (xa.toUInt32.toUInt16.toUInt32.toInt32)), .val (.int (own_v0_7 xa)), .val (.int (own_v0_11_s0 xa)), .val (.int (own_v0_30 xa)), .val (.int (own_v0_34_s0 xa))] [(.int (own_v0_11_s0 xa)), (.int (own_f1 (xa.toUInt32.toUInt16.toUInt32.toInt32)))]) := by
    by_cases hc56_15 : (own_v0_11_s0 xa) = (0 : Int32)
    · refine own_go (T' := T13) (f' := (mkF m 59 #[.val (.int xa), .val (.int (xa.toUInt32.toUInt16.toUInt32.toInt32)), .val (.int (own_v0_7 xa)), .val (.int (own_v0_11_s0 xa)), .val (.int (own_v0_30 xa)), .val (.int (own_v0_34_s0 xa))] [(.int (own_f1 (xa.toUInt32.toUInt16.toUInt32.toInt32)))])) ?_ (fun _ k => XS.ifNo X13.here hx rfl (hb hby at_56) rfl ((if0 _ _).trans (teq hc56_15).2) k)
      refine own_go (T' := T13) (f' := (mkF m 61 #[.val (.int xa), .val (.int (xa.toUInt32.toUInt16.toUInt32.toInt32)), .val (.int (own_v0_7 xa)), .val (.int (own_v0_11_s0 xa)), .val (.int (own_v0_30 xa)), .val (.int (own_v0_34_s0 xa))] [(.int (own_v0_34_s0 xa)), (.int (own_f1 (xa.toUInt32.toUInt16.toUInt32.toInt32)))])) ?_ (fun _ k => XS.iload X13.here hx rfl (hb hby at_59) rfl  k)
      by_cases hc61_16 : (own_v0_34_s0 xa) = (0 : Int32)
      · refine own_go (T' := T13) (f' := (mkF m 68 #[.val (.int xa), .val (.int (xa.toUInt32.toUInt16.toUInt32.toInt32)), .val (.int (own_v0_7 xa)), .val (.int (own_v0_11_s0 xa)), .val (.int (own_v0_30 xa)), .val (.int (own_v0_34_s0 xa))] [(.int (own_f1 (xa.toUInt32.toUInt16.toUInt32.toInt32)))])) ?_ (fun _ k => XS.ifYes X13.here hx rfl (pc0 := 61) (pc' := 68) rfl (hb hby at_61) rfl ((if0 _ _).trans (teq hc61_16).1) (by decide) (by decide) k)
        refine own_go (T' := T13) (f' := (mkF m 69 #[.val (.int xa), .val (.int (xa.toUInt32.toUInt16.toUInt32.toInt32)), .val (.int (own_v0_7 xa)), .val (.int (own_v0_11_s0 xa)), .val (.int (own_v0_30 xa)), .val (.int (own_v0_34_s0 xa))] [(.int (0 : Int32)), (.int (own_f1 (xa.toUInt32.toUInt16.toUInt32.toInt32)))])) ?_ (fun _ k => XS.iconst X13.here hx rfl (hb hby at_68) k)
        have em17 : (own_v0_56_s0 xa) = (0 : Int32) := (Eq.trans (if_pos hc56_15) (if_pos hc61_16))
        exact ⟨_, ⟨T13, _, (by rw [em17]), X13, e13, N13⟩, fun _ k => k⟩
      · refine own_go (T' := T13) (f' := (mkF m 64 #[.val (.int xa), .val (.int (xa.toUInt32.toUInt16.toUInt32.toInt32)), .val (.int (own_v0_7 xa)), .val (.int (own_v0_11_s0 xa)), .val (.int (own_v0_30 xa)), .val (.int (own_v0_34_s0 xa))] [(.int (own_f1 (xa.toUInt32.toUInt16.toUInt32.toInt32)))])) ?_ (fun _ k => XS.ifNo X13.here hx rfl (hb hby at_61) rfl ((if0 _ _).trans (feq hc61_16).1) k)
        refine own_go (T' := T13) (f' := (mkF m 65 #[.val (.int xa), .val (.int (xa.toUInt32.toUInt16.toUInt32.toInt32)), .val (.int (own_v0_7 xa)), .val (.int (own_v0_11_s0 xa)), .val (.int (own_v0_30 xa)), .val (.int (own_v0_34_s0 xa))] [(.int (1 : Int32)), (.int (own_f1 (xa.toUInt32.toUInt16.toUInt32.toInt32)))])) ?_ (fun _ k => XS.iconst X13.here hx rfl (hb hby at_64) k)
        refine own_go (T' := T13) (f' := (mkF m 69 #[.val (.int xa), .val (.int (xa.toUInt32.toUInt16.toUInt32.toInt32)), .val (.int (own_v0_7 xa)), .val (.int (own_v0_11_s0 xa)), .val (.int (own_v0_30 xa)), .val (.int (own_v0_34_s0 xa))] [(.int (1 : Int32)), (.int (own_f1 (xa.toUInt32.toUInt16.toUInt32.toInt32)))])) ?_ (fun _ k => XS.goto X13.here hx rfl (pc0 := 65) (pc' := 69) rfl (hb hby at_65) (by decide) (by decide) k)
        have em18 : (own_v0_56_s0 xa) = (1 : Int32) := (Eq.trans (if_pos hc56_15) (if_neg hc61_16))
        exact ⟨_, ⟨T13, _, (by rw [em18]), X13, e13, N13⟩, fun _ k => k⟩
    · refine own_go (T' := T13) (f' := (mkF m 64 #[.val (.int xa), .val (.int (xa.toUInt32.toUInt16.toUInt32.toInt32)), .val (.int (own_v0_7 xa)), .val (.int (own_v0_11_s0 xa)), .val (.int (own_v0_30 xa)), .val (.int (own_v0_34_s0 xa))] [(.int (own_f1 (xa.toUInt32.toUInt16.toUInt32.toInt32)))])) ?_ (fun _ k => XS.ifYes X13.here hx rfl (pc0 := 56) (pc' := 64) rfl (hb hby at_56) rfl ((if0 _ _).trans (feq hc56_15).2) (by decide) (by decide) k)
      refine own_go (T' := T13) (f' := (mkF m 65 #[.val (.int xa), .val (.int (xa.toUInt32.toUInt16.toUInt32.toInt32)), .val (.int (own_v0_7 xa)), .val (.int (own_v0_11_s0 xa)), .val (.int (own_v0_30 xa)), .val (.int (own_v0_34_s0 xa))] [(.int (1 : Int32)), (.int (own_f1 (xa.toUInt32.toUInt16.toUInt32.toInt32)))])) ?_ (fun _ k => XS.iconst X13.here hx rfl (hb hby at_64) k)
      refine own_go (T' := T13) (f' := (mkF m 69 #[.val (.int xa), .val (.int (xa.toUInt32.toUInt16.toUInt32.toInt32)), .val (.int (own_v0_7 xa)), .val (.int (own_v0_11_s0 xa)), .val (.int (own_v0_30 xa)), .val (.int (own_v0_34_s0 xa))] [(.int (1 : Int32)), (.int (own_f1 (xa.toUInt32.toUInt16.toUInt32.toInt32)))])) ?_ (fun _ k => XS.goto X13.here hx rfl (pc0 := 65) (pc' := 69) rfl (hb hby at_65) (by decide) (by decide) k)
      have em19 : (own_v0_56_s0 xa) = (1 : Int32) := (if_neg hc56_15)
      exact ⟨_, ⟨T13, _, (by rw [em19]), X13, e13, N13⟩, fun _ k => k⟩
  refine own_go (T' := T14) (f' := (mkF m 69 #[.val (.int xa), .val (.int (xa.toUInt32.toUInt16.toUInt32.toInt32)), .val (.int (own_v0_7 xa)), .val (.int (own_v0_11_s0 xa)), .val (.int (own_v0_30 xa)), .val (.int (own_v0_34_s0 xa))] [(.int (own_v0_56_s0 xa)), (.int (own_f1 (xa.toUInt32.toUInt16.toUInt32.toInt32)))])) ?_ (mg14)
  obtain ⟨_, ⟨T20, L20, rfl, X20, e20, N20⟩, mg20⟩ : own_Goes p.tables e below (fun uu => ∃ (T' : State) (L' : List Loc), uu = T'.setTop (mkF m 77 #[.val (.int xa), .val (.int (xa.toUInt32.toUInt16.toUInt32.toInt32)), .val (.int (own_v0_7 xa)), .val (.int (own_v0_11_s0 xa)), .val (.int (own_v0_30 xa)), .val (.int (own_v0_34_s0 xa))] [(.int (own_v0_69_s0 xa))]) ∧ Stand p l e room_1 s m #[(.int xa)] below meth c T' L' 0 0 ∧ T'.heap = h0 ∧ Fr n0 L') T14 (mkF m 69 #[.val (.int xa), .val (.int (xa.toUInt32.toUInt16.toUInt32.toInt32)), .val (.int (own_v0_7 xa)), .val (.int (own_v0_11_s0 xa)), .val (.int (own_v0_30 xa)), .val (.int (own_v0_34_s0 xa))] [(.int (own_v0_56_s0 xa)), (.int (own_f1 (xa.toUInt32.toUInt16.toUInt32.toInt32)))]) := by
    by_cases hc69_21 : (own_f1 (xa.toUInt32.toUInt16.toUInt32.toInt32)) = (own_v0_56_s0 xa)
    · refine own_go (T' := T14) (f' := (mkF m 72 #[.val (.int xa), .val (.int (xa.toUInt32.toUInt16.toUInt32.toInt32)), .val (.int (own_v0_7 xa)), .val (.int (own_v0_11_s0 xa)), .val (.int (own_v0_30 xa)), .val (.int (own_v0_34_s0 xa))] [])) ?_ (fun _ k => XS.icmpNo X14.here hx rfl (hb hby at_69) rfl (teq hc69_21).2 k)
      refine own_go (T' := T14) (f' := (mkF m 73 #[.val (.int xa), .val (.int (xa.toUInt32.toUInt16.toUInt32.toInt32)), .val (.int (own_v0_7 xa)), .val (.int (own_v0_11_s0 xa)), .val (.int (own_v0_30 xa)), .val (.int (own_v0_34_s0 xa))] [(.int (1 : Int32))])) ?_ (fun _ k => XS.iconst X14.here hx rfl (hb hby at_72) k)
      refine own_go (T' := T14) (f' := (mkF m 77 #[.val (.int xa), .val (.int (xa.toUInt32.toUInt16.toUInt32.toInt32)), .val (.int (own_v0_7 xa)), .val (.int (own_v0_11_s0 xa)), .val (.int (own_v0_30 xa)), .val (.int (own_v0_34_s0 xa))] [(.int (1 : Int32))])) ?_ (fun _ k => XS.goto X14.here hx rfl (pc0 := 73) (pc' := 77) rfl (hb hby at_73) (by decide) (by decide) k)
      have em22 : (own_v0_69_s0 xa) = (1 : Int32) := (if_pos hc69_21)
      exact ⟨_, ⟨T14, _, (by rw [em22]), X14, e14, N14⟩, fun _ k => k⟩
    · refine own_go (T' := T14) (f' := (mkF m 76 #[.val (.int xa), .val (.int (xa.toUInt32.toUInt16.toUInt32.toInt32)), .val (.int (own_v0_7 xa)), .val (.int (own_v0_11_s0 xa)), .val (.int (own_v0_30 xa)), .val (.int (own_v0_34_s0 xa))] [])) ?_ (fun _ k => XS.icmpYes X14.here hx rfl (pc0 := 69) (pc' := 76) rfl (hb hby at_69) rfl (feq hc69_21).2 (by decide) (by decide) k)
      refine own_go (T' := T14) (f' := (mkF m 77 #[.val (.int xa), .val (.int (xa.toUInt32.toUInt16.toUInt32.toInt32)), .val (.int (own_v0_7 xa)), .val (.int (own_v0_11_s0 xa)), .val (.int (own_v0_30 xa)), .val (.int (own_v0_34_s0 xa))] [(.int (0 : Int32))])) ?_ (fun _ k => XS.iconst X14.here hx rfl (hb hby at_76) k)
      have em23 : (own_v0_69_s0 xa) = (0 : Int32) := (if_neg hc69_21)
      exact ⟨_, ⟨T14, _, (by rw [em23]), X14, e14, N14⟩, fun _ k => k⟩
  refine own_go (T' := T20) (f' := (mkF m 77 #[.val (.int xa), .val (.int (xa.toUInt32.toUInt16.toUInt32.toInt32)), .val (.int (own_v0_7 xa)), .val (.int (own_v0_11_s0 xa)), .val (.int (own_v0_30 xa)), .val (.int (own_v0_34_s0 xa))] [(.int (own_v0_69_s0 xa))])) ?_ (mg20)
  obtain ⟨fs24, hr24, hrun24, hended24, hW24, hsame24⟩ := X20.leave (v := some (.int (own_v0_69_s0 xa))) (fun h => by rw [Bd.returns] at h; cases h)
  refine ⟨_, ⟨_, hrun24, hended24, _, _, rfl, ?_, ⟨_, rfl⟩, hW24, hsame24.mono (by decide) (by decide)⟩, fun _ k => (own_retZ X20 hx Bd.returns (own_b0_69_s0 xa) (hb hby at_77) hr24).trans k⟩
  show own_Q0 Z xa h0 n0 _ T20.heap _
  rw [e20]
  exact ⟨rfl, N20⟩
def own_g (c : Int32) : Int32 := if (if (c ||| (32 : Int32)) < (97 : Int32) then (0 : Int32) else (if (122 : Int32) < (c ||| (32 : Int32)) then (0 : Int32) else (1 : Int32))) = (0 : Int32) then (if (if (c - (48 : Int32)) < (0 : Int32) then (0 : Int32) else (if (9 : Int32) < (c - (48 : Int32)) then (0 : Int32) else (1 : Int32))) = (0 : Int32) then (0 : Int32) else (1 : Int32)) else (1 : Int32)
theorem own_small : ∀ n : Fin 128, own_f1 (Int32.ofNat n.val) = own_g (Int32.ofNat n.val) := by decide +kernel
theorem own_toInt_small {y : Int32} (h : y.toBitVec.toNat < 2 ^ 31) : y.toInt = (y.toBitVec.toNat : Int) := by
  show y.toBitVec.toInt = _
  rw [BitVec.toInt_eq_toNat_of_lt (by omega)]
theorem own_all (c : Int32) (h : c.toBitVec.toNat < 65536) : own_f1 c = own_g c := by
  have e := own_toInt_small (y := c) (by omega)
  by_cases q : c.toBitVec.toNat < 128
  · have hc : c = Int32.ofNat c.toBitVec.toNat := by
      apply Int32.toBitVec_inj.mp
      apply BitVec.eq_of_toNat_eq
      show _ = (BitVec.ofNat 32 c.toBitVec.toNat).toNat
      rw [BitVec.toNat_ofNat]; omega
    rw [hc]; exact own_small ⟨_, q⟩
  · have hor : (c ||| (32 : Int32)).toBitVec.toNat = c.toBitVec.toNat ||| 32 := by rw [Int32.toBitVec_or, BitVec.toNat_or]; rfl
    have hge : c.toBitVec.toNat ≤ c.toBitVec.toNat ||| 32 := Nat.left_le_or
    have hlt : c.toBitVec.toNat ||| 32 < 2 ^ 16 := Nat.or_lt_two_pow (by omega) (by omega)
    have e2 := own_toInt_small (y := c ||| (32 : Int32)) (by omega)
    have e48 : (48 : Int32).toInt = 48 := rfl
    have e3 : (c - (48 : Int32)).toInt = c.toInt - 48 := by rw [own_sub_ok (by omega) (by omega), e48]
    have k0 : own_f1 c = 0 := by
      unfold own_f1 own_v1_3_s0
      simp only [own_lt32, show (48 : Int32).toInt = 48 from rfl, show (57 : Int32).toInt = 57 from rfl, show (65 : Int32).toInt = 65 from rfl, show (90 : Int32).toInt = 90 from rfl, show (97 : Int32).toInt = 97 from rfl, show (122 : Int32).toInt = 122 from rfl]
      repeat' split
      all_goals first | rfl | (exfalso; omega)
    have k1 : (if (c ||| (32 : Int32)) < (97 : Int32) then (0 : Int32) else (if (122 : Int32) < (c ||| (32 : Int32)) then (0 : Int32) else (1 : Int32))) = 0 := by
      simp only [own_lt32, show (97 : Int32).toInt = 97 from rfl, show (122 : Int32).toInt = 122 from rfl]
      repeat' split
      all_goals first | rfl | (exfalso; omega)
    have k2 : (if (c - (48 : Int32)) < (0 : Int32) then (0 : Int32) else (if (9 : Int32) < (c - (48 : Int32)) then (0 : Int32) else (1 : Int32))) = 0 := by
      simp only [own_lt32, e3, show (0 : Int32).toInt = 0 from rfl, show (9 : Int32).toInt = 9 from rfl]
      repeat' split
      all_goals first | rfl | (exfalso; omega)
    rw [k0]; unfold own_g; rw [k1, k2, if_pos rfl, if_pos rfl]
theorem own_plain (xa : Int32) : (own_f0 xa) = 1 := by
  refine if_pos (own_all _ ?_)
  have e : (xa.toUInt32.toUInt16.toUInt32.toInt32).toBitVec.toNat = xa.toUInt32.toUInt16.toUInt32.toNat := rfl
  rw [e, UInt16.toNat_toUInt32]
  exact xa.toUInt32.toUInt16.toNat_lt

set_option maxRecDepth 65536 in
set_option maxHeartbeats 40000000 in
theorem comes_1 {Post : Tables → Env → Array Value → State → Outcome → State → Prop} (hpost : ∀ tb e args s v u, (limb_1_1.after args s (.returned v) u = true ∧ limb_1_2.after args s (.returned v) u = true ∧ True) → FrameEnd s (.returned v) u (Jvm.fieldLocs frame_1_writes args s ++ Jvm.arrayLocs frame_1_arrays args s ++ Jvm.staticLocs frame_1_statics s) 0 0 → Post tb e args s (.returned v) u) :
    ArmFor flags0 classFile x code maxLocals ret World_1 tables_1 room_1 Calls_1 rest_1 Pre_1 Post := by
  intro l hfl _ _ p e ha hc hk s m args below hf hA hF happ hP
  obtain ⟨hcalls, hrest, hpre⟩ := hP
  obtain ⟨-, -, -, hnamed, -, -, -, hat⟩ := (Spec.applies_iff hf).mp happ
  obtain ⟨hg, hn⟩ := and_e (Cond.before_iff.mp (show (Jvm.Cond.and given_1 narrow_1).before args s = true from hpre))
  obtain ⟨gg1, gg2⟩ := and_e hg
  obtain ⟨w0, rfl⟩ : ∃ w0 : Value, args = #[w0] := by
    have hs : args.size = 1 := by simpa [Cond.value, given_1] using gg1
    obtain ⟨L⟩ := args
    match L, hs with
    | [w0], _ => exact ⟨w0, rfl⟩
  have hw := fun d (hd : d ∈ tables_1) => atoms_spec (ws := Jvm.Cond.code x code maxLocals ret :: tables_1) hat d (List.mem_cons_of_mem _ hd)
  have hfit : Fit s := fun {y c} hc i hi => by
    obtain ⟨ha, rfl⟩ := Array.getElem?_eq_some_iff.mp hc
    have q := List.all_eq_true.mp ((Array.all_eq_true_iff_forall_mem.mp hF) _ (Array.getElem_mem ha)) i (List.mem_range.mpr hi)
    simpa [Array.getElem?_eq_getElem hi] using q
  obtain ⟨i0, ei0⟩ := is_v gg2
  obtain rfl : w0 = (.int i0) := Option.some.inj ei0
  obtain ⟨n, o, h1, h2, h3, _, L, rfl, ⟨rv, N⟩, hq⟩ := own_rm0 l s _ hw tables_1 i0 s.heap s.heap.size (Nat.le_refl _) p e ha hc hk s m _ below hf ((Spec.applies_iff_loose hf).mp happ).1 ⟨rfl, State.Warmed39.refl s, rfl⟩ trivial
  rw [own_plain] at rv
  subst rv
  refine ⟨n, _, h1, h2, h3, hpost _ _ _ _ _ _ ⟨Cond.after_iff.mpr rfl, Cond.after_iff.mpr (eq_i res_at (Term.int_eval (1)) rfl), trivial⟩ ⟨hq.1, hq.2.1, (hq.2.2.sift fun y hy => Or.inr (N y hy)).mono (by decide) (by decide)⟩⟩
theorem main_1_1 : Claimed_1_1 := comes_1 fun _ _ _ _ _ _ h hF => ⟨h.1, hF⟩
theorem main_1_2 : Claimed_1_2 := comes_1 fun _ _ _ _ _ _ h hF => ⟨h.2.1, hF⟩
end Jvm.Pilot.@@N@@
namespace Jvm.Pilot.@@N@@
open Jvm Jvm.ClassFile Sem Op Lib Jvm.Free Jvm.Stand Jvm.Pilot.@@N@@.Jvm.D
/-! MADE BY PROGRAM (witnessworld.py) out of the Statement's table words and the real class files: 9 classes; the members and pool entries that the words name. The judged class is class 1, her method 1. -/
namespace start1
open Jvm.ClassFile
def u (s : String) : CpInfo := .utf8 (stringToUtf16 s)
/-- a pool by its gaps: so many unusable entries, then the entry; so many at the end -/
def gap : Nat → List CpInfo → List CpInfo
  | 0, r => r
  | n + 1, r => .unusable :: gap n r
def poolList (es : List (Nat × CpInfo)) (last : Nat) : List CpInfo := es.foldr (fun e r => gap e.1 (e.2 :: r)) (gap last [])
def pool (es : List (Nat × CpInfo)) (last : Nat) : Array CpInfo := ⟨poolList es last⟩
def fileOf (pool : Array CpInfo) (this : Nat) (attrs : Array Attribute := #[]) (ms : Array MethodInfo := #[]) (fl : Nat := 33) (sup : Nat := 0) (ifs : Array Nat := #[]) (fds : Array FieldInfo := #[]) : ClassFile where
  minorVersion := 0
  majorVersion := 65
  constantPool := pool
  accessFlags := fl
  thisClass := this
  superClass := sup
  interfaces := ifs
  fields := fds
  methods := ms
  attributes := attrs
def plain (name : String) (sup : Option ClassId) : Class where
  name := name
  kind := .ordinary
  loader := none
  accessFlags := 33
  super := sup
  interfaces := #[]
  cf := none
  fields := #[]
  methods := #[]
  instanceTypes := #[]
  staticTypes := #[]
  resolved := #[]
  callSites := []
  init := .initialized
  statics := none
  mirror := none

def pool0 : Array CpInfo := pool [(5, u "<init>"), (0, u "()V"), (1, .class_ 10), (1, u "java/lang/Object")] 113

def k0m0 : Method := { name := "<init>", desc := "()V", sig := { parameters := [], returnType := none }, accessFlags := 1, code := none }
/-- java/lang/Object -/
def k0 : Class := { plain "java/lang/Object" none with
  accessFlags := 33
  interfaces := #[]
  cf := some (fileOf pool0 8 #[] #[{ accessFlags := 1, nameIndex := 5, descriptorIndex := 6, attributes := #[] }] 33 0 #[] #[])
  fields := #[]
  methods := #[k0m0]
  instanceTypes := #[]
  staticTypes := #[]
  resolved := Array.replicate 124 none
  statics := none }

def pool1 : Array CpInfo := pool [(2, .class_ 4), (1, u "java/lang/Object"), (0, u "<init>"), (0, u "()V"), (0, .methodref 8 9), (0, .class_ 10), (0, .nameAndType 11 12), (0, u "com/example/inca_dove/incadove/addresses/DomainName"), (0, u "isLetterOrDigit"), (0, u "(C)Z"), (0, .class_ 14), (0, u "com/example/inca_dove/incadove/addresses/DomainNameIsLetterOrDigitPinLaw"), (2, u "law"), (0, u "(I)Z")] 3

def k1m0 : Method := { name := "<init>", desc := "()V", sig := { parameters := [], returnType := none }, accessFlags := 2, code := none }
def k1c1 : Code := { maxStack := 2, maxLocals := 6, code := code, exceptionTable := #[], attributes := #[] }
def k1m1 : Method := { name := "law", desc := "(I)Z", sig := { parameters := [.int], returnType := some .boolean }, accessFlags := 9, code := some k1c1 }
/-- com/example/inca_dove/incadove/addresses/DomainNameIsLetterOrDigitPinLaw -/
def k1 : Class := { plain "com/example/inca_dove/incadove/addresses/DomainNameIsLetterOrDigitPinLaw" (some 0) with
  accessFlags := 49
  interfaces := #[]
  cf := some (fileOf pool1 13 #[] #[{ accessFlags := 2, nameIndex := 5, descriptorIndex := 6, attributes := #[] }, { accessFlags := 9, nameIndex := 17, descriptorIndex := 18, attributes := #[] }] 49 2 #[] #[])
  fields := #[]
  methods := #[k1m0, k1m1]
  instanceTypes := #[]
  staticTypes := #[]
  resolved := Array.replicate 22 none
  statics := none }

def pool2 : Array CpInfo := pool [(2, .class_ 4), (1, u "java/lang/Object"), (0, u "<init>"), (0, u "()V"), (10, .class_ 18), (0, u "com/example/inca_dove/incadove/addresses/DomainName"), (10, u "isLetterOrDigit"), (0, u "(C)Z"), (0, u "LONGEST_NAME"), (0, u "I"), (2, u "LONGEST_LABEL")] 8

def k2m0 : Method := { name := "<init>", desc := "()V", sig := { parameters := [], returnType := none }, accessFlags := 2, code := none }
def k2c1 : Code := { maxStack := 2, maxLocals := 1, code := prog_1_method_4_code, exceptionTable := #[], attributes := #[] }
def k2m1 : Method := { name := "isLetterOrDigit", desc := "(C)Z", sig := { parameters := [.char], returnType := some .boolean }, accessFlags := 8, code := some k2c1 }
/-- com/example/inca_dove/incadove/addresses/DomainName -/
def k2 : Class := { plain "com/example/inca_dove/incadove/addresses/DomainName" (some 0) with
  accessFlags := 49
  interfaces := #[]
  cf := some (fileOf pool2 17 #[] #[{ accessFlags := 2, nameIndex := 5, descriptorIndex := 6, attributes := #[] }, { accessFlags := 8, nameIndex := 29, descriptorIndex := 30, attributes := #[] }] 49 2 #[] #[{ accessFlags := 26, nameIndex := 31, descriptorIndex := 32, attributes := #[] }, { accessFlags := 26, nameIndex := 35, descriptorIndex := 32, attributes := #[] }])
  fields := #[{ name := "LONGEST_NAME", type := .int, accessFlags := 26, slot := 0, constantValue := 0 }, { name := "LONGEST_LABEL", type := .int, accessFlags := 26, slot := 1, constantValue := 0 }]
  methods := #[k2m0, k2m1]
  instanceTypes := #[]
  staticTypes := #[.int, .int]
  resolved := Array.replicate 44 none
  statics := none }

def pool3 : Array CpInfo := pool [(1, u "java/lang/Cloneable"), (0, .class_ 1), (0, u "java/lang/Object"), (0, .class_ 3)] 3

/-- java/lang/Cloneable -/
def k3 : Class := { plain "java/lang/Cloneable" (some 0) with
  accessFlags := 1537
  interfaces := #[]
  cf := some (fileOf pool3 2 #[] #[] 1537 4 #[] #[])
  fields := #[]
  methods := #[]
  instanceTypes := #[]
  staticTypes := #[]
  resolved := Array.replicate 8 none
  statics := none }

def pool4 : Array CpInfo := pool [(1, u "java/io/Serializable"), (0, .class_ 1), (0, u "java/lang/Object"), (0, .class_ 3)] 3

/-- java/io/Serializable -/
def k4 : Class := { plain "java/io/Serializable" (some 0) with
  accessFlags := 1537
  interfaces := #[]
  cf := some (fileOf pool4 2 #[] #[] 1537 4 #[] #[])
  fields := #[]
  methods := #[]
  instanceTypes := #[]
  staticTypes := #[]
  resolved := Array.replicate 8 none
  statics := none }

/-- the primitive byte -/
def k5 : Class := { plain "byte" none with kind := .primitive 'B', accessFlags := 0x411 }
/-- [B -/
def k6 : Class := { plain "[B" (some 0) with kind := .array 5 .byte, interfaces := #[3, 4], accessFlags := 1041 }

/-- the primitive int -/
def k7 : Class := { plain "int" none with kind := .primitive 'I', accessFlags := 0x411 }
/-- [I -/
def k8 : Class := { plain "[I" (some 0) with kind := .array 7 .int, interfaces := #[3, 4], accessFlags := 1041 }

def heap : Heap := #[]
def classes : Array Class := #[k0, k1, k2, k3, k4, k5, k6, k7, k8]
def interned : List (Array UInt16 × Addr) := []
def slotsUsed : Nat := 0
def theMethod : MethodId := ⟨1, 1⟩
def args0 : Array Value := #[.int 65]
def aboutOver (below : List Frame) : State where
  vm := { classes := classes, interned := interned.toArray }
  heap := heap
  slotsUsed := slotsUsed
  threads := #[{ frames := .invoking theMethod args0 :: below }]
def below0 : List Frame := [.native { method := ⟨0, 0⟩, args := #[] }]
def about1 : State := aboutOver below0
def p0 : Program := .bare "" "" ""
def e0 : Env := launch0.env 0 0 0
theorem w_frames : about1.frames = Frame.invoking theMethod args0 :: below0 := rfl
set_option maxRecDepth 65536 in
theorem w_args : argsFit about1.vm theMethod args0 = true := by decide +kernel
set_option maxRecDepth 65536 in
theorem w_heap : heapFits about1 = true := by decide +kernel
set_option maxRecDepth 65536 in
theorem w_runnable : about1.curStatus? = some .runnable := by decide +kernel
set_option maxRecDepth 65536 in
theorem w_alone : about1.alone = true := by decide +kernel
set_option maxRecDepth 65536 in
theorem w_named : about1.methodNamed? x = some theMethod := by decide +kernel
set_option maxRecDepth 65536 in
theorem w_hears : about1.hears theMethod below0 = true := by decide +kernel
set_option maxRecDepth 65536 in
theorem w_ripe : about1.ripe theMethod args0 below0 = true := by decide +kernel
theorem w_running : about1.status = .running := rfl
set_option maxRecDepth 65536 in
theorem w_room : about1.hasRoom e0.platform room_1 = true :=
  launch0.hasRoom_least _ room_1 (by decide +kernel) (by decide +kernel) (by decide +kernel) (by decide +kernel) (by decide +kernel) (by decide +kernel)
theorem allAtoms_all (ts : List Jvm.Cond) (a : Array Jvm.Value) (st : Jvm.State) : (allAtoms ts).before a st = ts.all (fun c => c.before a st) := by
  induction ts with
  | nil => rfl
  | cons c t ih =>
    show (Jvm.Cond.and c (allAtoms t)).before a st = _
    rw [Jvm.Cond.before_and, ih, List.all_cons]
def words1 : List Jvm.Cond := Jvm.Cond.code x code maxLocals ret :: tables_1
/-- a 'code' word, met by the world's own term for the bytes: nothing is compared byte by byte -/
theorem code_word {y : MethodName} {bytes : ByteArray} {mx : Nat} {rt : Option FieldType} {a : Array Value} {s : State} {m : MethodId} {meth : Method} {c : Code} (h1 : s.methodNamed? y = some m) (h2 : s.vm.method? m = some meth) (h3 : meth.code = some c) (h4 : c.code = bytes)
    (h5 : (c.maxLocals == mx && c.exceptionTable.isEmpty && decide (c.maxStack ≤ mostOperands) && decide (meth.sig.returnType = rt) && !meth.locks && decide (parseMethodDescriptor y.desc = some meth.sig)) = true) : (Jvm.Cond.code y bytes mx rt).before a s = true := by
  simp only [Bool.and_eq_true, beq_iff_eq, Bool.not_eq_true', decide_eq_true_eq] at h5
  obtain ⟨⟨⟨⟨⟨g1, g2⟩, g3⟩, g4⟩, g5⟩, g6⟩ := h5
  simp [Cond.before, Cond.holds, Cond.value, h1, h2, h3, h4, g1, g2, g3, g4, g5, g6]
def isCode : Jvm.Cond → Bool
  | .code _ _ _ _ => true
  | _ => false
theorem all_split {L : List Jvm.Cond} {P : Jvm.Cond → Bool} (h1 : L.all (fun c => isCode c || P c) = true) (h2 : ∀ c ∈ L.filter isCode, P c = true) : L.all P = true := by
  refine List.all_eq_true.mpr fun c hc => ?_
  have h := List.all_eq_true.mp h1 c hc
  rcases Bool.eq_false_or_eq_true (isCode c) with hi | hi
  · exact h2 c (List.mem_filter.mpr ⟨hc, hi⟩)
  · simpa [hi] using h
set_option maxRecDepth 65536 in
theorem w_c0 : (Jvm.Cond.code x code maxLocals ret).before args0 about1 = true := code_word (m := ⟨1, 1⟩) (meth := k1m1) (c := k1c1) (by decide +kernel) rfl rfl rfl (by decide +kernel)
set_option maxRecDepth 65536 in
theorem w_c1 : (Jvm.Cond.code ({ cls := "com/example/inca_dove/incadove/addresses/DomainName", name := "isLetterOrDigit", desc := "(C)Z" } : Jvm.MethodName) prog_1_method_4_code (1 : Nat) (Option.some Jvm.ClassFile.FieldType.boolean)).before args0 about1 = true := code_word (m := ⟨2, 1⟩) (meth := k2m1) (c := k2c1) (by decide +kernel) rfl rfl rfl (by decide +kernel)
def codes1 : List Jvm.Cond := [Jvm.Cond.code x code maxLocals ret, Jvm.Cond.code ({ cls := "com/example/inca_dove/incadove/addresses/DomainName", name := "isLetterOrDigit", desc := "(C)Z" } : Jvm.MethodName) prog_1_method_4_code (1 : Nat) (Option.some Jvm.ClassFile.FieldType.boolean)]
set_option maxRecDepth 65536 in
theorem codes_eq : words1.filter isCode = codes1 := rfl
theorem w_codes : ∀ c ∈ words1.filter isCode, c.before args0 about1 = true := by
  rw [codes_eq]
  intro c hc
  simp only [codes1, List.mem_cons, List.not_mem_nil, or_false] at hc
  rcases hc with rfl | rfl
  · exact w_c0
  · exact w_c1
set_option maxRecDepth 65536 in
theorem w_t1 : words1.all (fun c => isCode c || c.before args0 about1) = true := by decide +kernel
theorem w_tables : (allAtoms (Jvm.Cond.code x code maxLocals ret :: tables_1)).before args0 about1 = true := by
  rw [allAtoms_all]
  show words1.all (fun c => c.before args0 about1) = true
  refine all_split ?_ w_codes
  rw [w_t1]
set_option maxRecDepth 65536 in
theorem w_case : (Jvm.Cond.and given_1 narrow_1).before args0 about1 = true := by decide +kernel
theorem w_applies : (headSpec (Jvm.Cond.code x code maxLocals ret :: tables_1) room_1).applies x e0.platform about1 = true :=
  (Spec.applies_iff w_frames).mpr ⟨w_running, w_runnable, w_alone, w_named, w_hears, w_ripe, w_room, w_tables⟩
theorem atStart : AtStart classFile x code maxLocals ret World_1 tables_1 room_1 Calls_1 rest_1 Pre_1 launch0 p0 e0 about1 theMethod args0 below0 :=
  ⟨lists_1, trivial, launch0.admits_env _ _ _, launch0.least_env, fairChoices_fair.cas, fairChoices_fair.clock, w_frames, w_args, w_heap, w_applies, trivial, trivial, w_case⟩
end start1
theorem witness_1 : WitnessClaimed_1 := ⟨start1.p0, start1.e0, start1.about1, start1.theMethod, start1.args0, start1.below0, start1.atStart⟩
end Jvm.Pilot.@@N@@
