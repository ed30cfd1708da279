import JvmDerived
import JvmDerived.Pilot.@@N@@Statement
import JvmDerived.Pilot.@@N@@Code
set_option linter.unusedVariables false
set_option linter.unusedSimpArgs false
@@BLOCK:NumsL.lean.txt@@
namespace Jvm.RoadKit
open Sem ClassFile Op Lib Jvm.Stand Jvm.Free Jvm.LawKit
section New
variable {p : Program} {l : Launch} {e : Env} {R : Room} {s : State} {m : MethodId} {args : Array Value} {below : List Frame} {meth : Method} {c : Code} {T : State} {locs : List Loc} {cells slots : Nat}
theorem retI (X : Stand p l e R s m args below meth c T locs cells slots) (hx : p.tables.exec = Jvm.exec) {pc : Nat} {Ls : Array Slot} {z : Int32} {rest : List Value} (hret : meth.sig.returnType = some .int) (hd : decode c.code pc = .ok (.ireturn, 1)) {fs : List Frame}
    (hl : ∀ (f : JFrame) (acts : List Action), f.method = m → f.locked = none → f.entered = [] → (doReturn e (T.setTop f) acts (some (.int z))).1 = T.setFrames fs) : Steps p.tables e below (T.setTop (mkF m pc Ls (.int z :: rest))) (T.setFrames fs) := by
  have hm' : T.vm.method? m = some meth := X.method'
  have hn : narrow .int (.int z) = .int z := rfl
  show Steps p.tables e below (T.setTop { method := m, pc := pc, locals := Ls, stack := _ :: rest, locked := none }) _
  jvm_step X.here [X.here.top, hx, hd, hm', hret, hn]
  first | (intro acts; rw [hl _ acts rfl rfl rfl]) | rw [hl _ _ rfl rfl rfl]
  exact Steps.refl _
def own_irem (x y : Int32) : Int32 := x - x / y * y
def own_lrem (x y : Int64) : Int64 := x - x / y * y
theorem own_retZ (X : Stand p l e R s m args below meth c T locs cells slots) (hx : p.tables.exec = Jvm.exec) {pc : Nat} {Ls : Array Slot} {z : Int32} {rest : List Value} (hret : meth.sig.returnType = some .boolean) (hz : z &&& 1 = z) (hd : decode c.code pc = .ok (.ireturn, 1)) {fs : List Frame}
    (hl : ∀ (f : JFrame) (acts : List Action), f.method = m → f.locked = none → f.entered = [] → (doReturn e (T.setTop f) acts (some (.int z))).1 = T.setFrames fs) : Steps p.tables e below (T.setTop (mkF m pc Ls (.int z :: rest))) (T.setFrames fs) :=
  retN X hx (t := .boolean) hret (by simp) hd (by rw [show nar .boolean z = z from hz]; exact hl)
theorem own_ite_bool {q : Prop} [Decidable q] {a b : Int32} (ha : a &&& 1 = a) (hb : b &&& 1 = b) : (if q then a else b) &&& 1 = (if q then a else b) := by split <;> assumption
theorem own_retJ (X : Stand p l e R s m args below meth c T locs cells slots) (hx : p.tables.exec = Jvm.exec) {pc : Nat} {Ls : Array Slot} {z : Int64} {rest : List Value} (hret : meth.sig.returnType = some .long) (hd : decode c.code pc = .ok (.lreturn, 1)) {fs : List Frame}
    (hl : ∀ (f : JFrame) (acts : List Action), f.method = m → f.locked = none → f.entered = [] → (doReturn e (T.setTop f) acts (some (.long z))).1 = T.setFrames fs) : Steps p.tables e below (T.setTop (mkF m pc Ls (.long z :: rest))) (T.setFrames fs) := by
  have hm' : T.vm.method? m = some meth := X.method'
  show Steps p.tables e below (T.setTop { method := m, pc := pc, locals := Ls, stack := _ :: rest, locked := none }) _
  jvm_step X.here [X.here.top, hx, hd, hm', hret, narrow]
  first | (intro acts; rw [hl _ acts rfl rfl rfl]) | rw [hl _ _ rfl rfl rfl]
  exact Steps.refl _
/-- the run goes from here to a state of which P holds -/
def own_Goes (tb : Tables) (e : Env) (below : List Frame) (P : State → Prop) (T : State) (f : JFrame) : Prop :=
  ∃ u, P u ∧ ∀ t, Steps tb e below u t → Steps tb e below (T.setTop f) t
theorem own_go {tb : Tables} {P : State → Prop} {T T' : State} {f f' : JFrame} (k : own_Goes tb e below P T' f') (h : ∀ t, Steps tb e below (T'.setTop f') t → Steps tb e below (T.setTop f) t) : own_Goes tb e below P T f := by
  obtain ⟨u, hu, hk⟩ := k
  exact ⟨u, hu, fun t q => h t (hk t q)⟩
theorem own_out {tb : Tables} {Q : Outcome → State → Prop} {T : State} {f : JFrame} (k : own_Goes tb e below (fun u => ∃ o, u.status = .running ∧ Ended u below o ∧ Q o u) T f) :
    ∃ s₂ o, Steps tb e below (T.setTop f) s₂ ∧ s₂.status = .running ∧ Ended s₂ below o ∧ Q o s₂ := by
  obtain ⟨u, ⟨o, h1, h2, h3⟩, hk⟩ := k
  exact ⟨u, o, hk u (Steps.refl _), h1, h2, h3⟩
theorem own_lsw {tb : Tables} [Ours tb] {T target : State} {g : JFrame} (h : At T m c below) (hx : tb.exec = Jvm.exec) (hg : g.method = m) {dflt : Int} {pairs : Array (Int × Int)} {len : Nat} {o : Int} {pc0 pc' : Nat} (hpc : g.pc = pc0) (hd : decode c.code g.pc = .ok (.lookupswitch dflt pairs, len)) {i : Int32} {rest : List Value} (hs : g.stack = .int i :: rest)
    (hord : (pairs.toList.zip (pairs.toList.drop 1)).all (fun (a, next) => a.1 < next.1) = true) (hoff : lookupswitch.offset pairs.toList dflt i.toInt = o) (ho : 0 ≤ (pc0 : Int) + o) (hp : ((pc0 : Int) + o).toNat = pc')
    (hr : Steps tb e below (T.setTop { g with pc := pc', stack := rest }) target) : Steps tb e below (T.setTop g) target := by
  subst hg hpc hp
  jvm_step h [h.top, hx, hd, hs, hoff, ho, lookupswitch.wp_chain]
  exact ⟨by simpa using hord, hr⟩
theorem own_ne_key {i k : Int32} (h : ¬ i = k) : ¬ (k.toInt = i.toInt) := fun q => h (Int32.toInt_inj.mp q.symm)
theorem own_selP {s : State} {args : Array Value} {y : MethodName} {n : Nat} (wi : (Cond.instantiable y.cls n).before args s = true) (hp : s.PrivateAt y) (hi : (Cond.instanceMethod y).before args s = true) (hy : y.cls ≠ "java/lang/invoke/MethodHandle" ∧ y.cls ≠ "java/lang/invoke/VarHandle") : (Cond.selects y.cls y y).before args s = true := by
  obtain ⟨c, k, h1, h2, -, h3, -⟩ := Cond.instantiable_spec wi
  simp only [Bool.or_eq_false_iff] at h3
  exact selects_self_of_private h1 h2 h3.1 hp hi hy
end New
end Jvm.RoadKit
namespace Jvm.RoadKit
open Sem ClassFile Op Lib Jvm.Stand Jvm.Free Jvm.LawKit
theorem own_lt32 {x y : Int32} : x < y ↔ x.toInt < y.toInt := Int32.lt_iff_toInt_lt
theorem own_eq32 {x y : Int32} : x = y ↔ x.toInt = y.toInt := (Int32.toInt_inj).symm
theorem own_mod32 (x y : Int32) : (own_irem x y).toInt = x.toInt.tmod y.toInt := by
  rw [show own_irem x y = x % y from irem_eq_mod x y]; exact Int32.toInt_mod x y
theorem own_pos31 (x : Int32) : (x &&& (2147483647 : Int32)).toInt = x.toInt % 2147483648 := Jvm.Kit.i32_mask x 2147483647 (k := 31) (by decide) (by decide)
theorem own_rem31 (x : Int32) (y : Int32) (hy : 0 < y.toInt) : (own_irem (x &&& (2147483647 : Int32)) y).toInt = (x.toInt % 2147483648) % y.toInt := by
  rw [own_mod32, own_pos31, Int.tmod_eq_emod_of_nonneg (by omega)]
theorem own_and3 (x : Int32) : (x &&& (3 : Int32)).toInt = x.toInt % 4 := Jvm.Kit.i32_mask x 3 (k := 2) (by decide) (by decide)
theorem own_and7 (x : Int32) : (x &&& (7 : Int32)).toInt = x.toInt % 8 := Jvm.Kit.i32_mask x 7 (k := 3) (by decide) (by decide)
theorem own_and63 (x : Int32) : (x &&& (63 : Int32)).toInt = x.toInt % 64 := Jvm.Kit.i32_mask x 63 (k := 6) (by decide) (by decide)
theorem own_and255 (x : Int32) : (x &&& (255 : Int32)).toInt = x.toInt % 256 := Jvm.Kit.i32_mask x 255 (k := 8) (by decide) (by decide)
theorem own_add_ok {x y : Int32} (h1 : -2147483648 ≤ x.toInt + y.toInt) (h2 : x.toInt + y.toInt < 2147483648) : (x + y).toInt = x.toInt + y.toInt := Jvm.Kit.i32_add (by omega) (by omega)
theorem own_sub_ok {x y : Int32} (h1 : -2147483648 ≤ x.toInt - y.toInt) (h2 : x.toInt - y.toInt < 2147483648) : (x - y).toInt = x.toInt - y.toInt := Jvm.Kit.i32_sub (by omega) (by omega)
theorem own_nat32 {x : Int32} (h : 0 ≤ x.toInt) : (x.toNatClampNeg : Int) = x.toInt := by simp only [Int32.toNatClampNeg]; omega
theorem own_rng (x : Int32) : -2147483648 ≤ x.toInt ∧ x.toInt < 2147483648 := ⟨x.le_toInt, x.toInt_lt⟩
theorem own_m3 (y : Int32) : ¬ (y &&& (3 : Int32)) < (0 : Int32) ∧ (y &&& (3 : Int32)).toNatClampNeg ≤ 3 := by
  have e := own_and3 y
  refine ⟨?_, ?_⟩
  · rw [own_lt32, e, show (0 : Int32).toInt = 0 from rfl]; omega
  · have := own_nat32 (x := y &&& 3) (by omega); omega
end Jvm.RoadKit
namespace Jvm.Pilot.@@N@@
open Jvm Jvm.ClassFile Sem Op Lib Jvm.Free Jvm.Stand Jvm.LawKit Jvm.RoadKit Bundle Jvm.Pilot.@@N@@.Jvm.D
theorem own_pn0 : plainName "com/example/eben/eben/io/ByteWords" = true := by first | (simp [plainName, overriddenIn]; done) | decide +kernel
theorem own_d1_0 : decode prog_13_method_3_code 0 = .ok (.iload_n 0, 1) := by decide +kernel
theorem own_d1_1 : decode prog_13_method_3_code 1 = .ok (.sipush 255, 3) := by decide +kernel
theorem own_d1_4 : decode prog_13_method_3_code 4 = .ok (.iand, 1) := by decide +kernel
theorem own_d1_5 : decode prog_13_method_3_code 5 = .ok (.i2l, 1) := by decide +kernel
theorem own_d1_6 : decode prog_13_method_3_code 6 = .ok (.ldc2_w 19, 3) := by decide +kernel
theorem own_d1_9 : decode prog_13_method_3_code 9 = .ok (.lmul, 1) := by decide +kernel
theorem own_d1_10 : decode prog_13_method_3_code 10 = .ok (.lreturn, 1) := by decide +kernel
def own_f1 (xa : Int32) : Int64 := (((xa &&& (255 : Int32)).toInt64) * (72340172838076673 : Int64))
theorem own_ef1 (m : MethodId) (xa : Int32) : entryFrame m #[(.int xa)] 1 = mkF m 0 #[.val (.int xa)] [] := by first | (simp [entryFrame, mkF, argsToLocals, Value.category]; done) | rfl
abbrev own_room1 : Room := { frames := 0, cells := 0, slots := 0, locals := 0 }
def own_Q1 (Z : State) (xa : Int32) (h0 : Heap) (n0 : Nat) (v : Option Value) (h : Heap) (L : List Loc) : Prop := v = some (.long (own_f1 xa)) ∧ Fr n0 L ∧ h = h0
set_option maxRecDepth 65536 in
set_option maxHeartbeats 40000000 in
theorem own_rm1 (l : Launch) (Z : State) (a0 : Array Value) (hw : ∀ d ∈ tables_1, d.before a0 Z = true) (ws : List Jvm.Cond) (xa : Int32) (h0 : Heap) (n0 : Nat) (Z0 : n0 ≤ h0.size) :
    MetFree l (⟨"com/example/eben/eben/io/ByteWords", "spread", "(B)J"⟩ : MethodName) (head1 (Jvm.Cond.code (⟨"com/example/eben/eben/io/ByteWords", "spread", "(B)J"⟩ : MethodName) prog_13_method_3_code 1 (some .long) :: ws) own_room1) (fun a U => a = #[(.int xa)] ∧ Z.Warmed39 U.vm ∧ U.heap = h0) (fun _ _ _ _ _ => True) (fun _ U o U' => ∃ v L, o = .returned v ∧ own_Q1 Z xa h0 n0 v U'.heap L ∧ FrameEnd U o U' L own_room1.cells own_room1.slots) := by
  refine MetFree.of_bodySF (plainFor_of_name own_pn0) hisR ?_
  intro p e s m args below meth c s₁ Bd hml0 hP hK
  obtain ⟨rfl, hZ, hh⟩ := hP
  have hx := Bd.exec
  have hby := Bd.bytes
  have hml : c.maxLocals = 1 := hml0
  have hown : s.vm.findClass "com/example/eben/eben/io/ByteWords" = some m.cls := findClass_of_methodNamed Bd.named
  have hnm := (name_of_methodNamed Bd.named Bd.method).1
  have X0 : Stand p l e own_room1 s m #[(.int xa)] below meth c s₁ [] 0 0 := Stand.of_body Bd
  have e0 : s₁.heap = h0 := by rw [← hh, Bd.state]; rfl
  have N0 := Fr.nil n0
  refine own_out (Q := fun o U' => ∃ v L, o = .returned v ∧ own_Q1 Z xa h0 n0 v U'.heap L ∧ FrameEnd s o U' L own_room1.cells own_room1.slots) ?_
  refine own_go (T' := s₁) (f' := (mkF m 0 #[.val (.int xa)] [])) ?_ (fun _ k => castTop (own_ef1 m xa) k)
  refine own_go (T' := s₁) (f' := (mkF m 1 #[.val (.int xa)] [(.int xa)])) ?_ (fun _ k => XS.iloadN X0.here hx rfl (hb hby own_d1_0) rfl  k)
  refine own_go (T' := s₁) (f' := (mkF m 4 #[.val (.int xa)] [(.int (255 : Int32)), (.int xa)])) ?_ (fun _ k => XS.sipush X0.here hx rfl (hb hby own_d1_1) k)
  refine own_go (T' := s₁) (f' := (mkF m 5 #[.val (.int xa)] [(.int (xa &&& (255 : Int32)))])) ?_ (fun _ k => XS.iand X0.here hx rfl (hb hby own_d1_4) rfl k)
  refine own_go (T' := s₁) (f' := (mkF m 6 #[.val (.int xa)] [(.long ((xa &&& (255 : Int32)).toInt64))])) ?_ (fun _ k => XS.i2l X0.here hx rfl (hb hby own_d1_5) rfl k)
  refine own_go (T' := s₁) (f' := (mkF m 9 #[.val (.int xa)] [(.long (72340172838076673 : Int64)), (.long ((xa &&& (255 : Int32)).toInt64))])) ?_ (X0.ldc2Long hx hown (mvT hZ (hw _ (List.mem_of_getElem? (i := 6) rfl))) (g := (mkF m 6 #[.val (.int xa)] [(.long ((xa &&& (255 : Int32)).toInt64))])) rfl (hb hby own_d1_6))
  refine own_go (T' := s₁) (f' := (mkF m 10 #[.val (.int xa)] [(.long (((xa &&& (255 : Int32)).toInt64) * (72340172838076673 : Int64)))])) ?_ (fun _ k => XS.lmul X0.here hx rfl (hb hby own_d1_9) rfl k)
  obtain ⟨fs1, hr1, hrun1, hended1, hW1, hsame1⟩ := X0.leave (v := some (.long (((xa &&& (255 : Int32)).toInt64) * (72340172838076673 : Int64)))) (fun h => by rw [Bd.returns] at h; cases h)
  refine ⟨_, ⟨_, hrun1, hended1, _, _, rfl, ?_, ⟨_, rfl⟩, hW1, hsame1.mono (by decide) (by decide)⟩, fun _ k => (own_retJ X0 hx Bd.returns (hb hby own_d1_10) hr1).trans k⟩
  show own_Q1 Z xa h0 n0 _ s₁.heap _
  rw [e0]
  exact ⟨rfl, N0, rfl⟩
theorem own_d2_0 : decode prog_13_method_4_code 0 = .ok (.lload_n 0, 1) := by decide +kernel
theorem own_d2_1 : decode prog_13_method_4_code 1 = .ok (.lload_n 2, 1) := by decide +kernel
theorem own_d2_2 : decode prog_13_method_4_code 2 = .ok (.lxor, 1) := by decide +kernel
theorem own_d2_3 : decode prog_13_method_4_code 3 = .ok (.lstore 4, 2) := by decide +kernel
theorem own_d2_5 : decode prog_13_method_4_code 5 = .ok (.lload 4, 2) := by decide +kernel
theorem own_d2_7 : decode prog_13_method_4_code 7 = .ok (.ldc2_w 19, 3) := by decide +kernel
theorem own_d2_10 : decode prog_13_method_4_code 10 = .ok (.lsub, 1) := by decide +kernel
theorem own_d2_11 : decode prog_13_method_4_code 11 = .ok (.lload 4, 2) := by decide +kernel
theorem own_d2_13 : decode prog_13_method_4_code 13 = .ok (.ldc2_w 21, 3) := by decide +kernel
theorem own_d2_16 : decode prog_13_method_4_code 16 = .ok (.lxor, 1) := by decide +kernel
theorem own_d2_17 : decode prog_13_method_4_code 17 = .ok (.land, 1) := by decide +kernel
theorem own_d2_18 : decode prog_13_method_4_code 18 = .ok (.ldc2_w 23, 3) := by decide +kernel
theorem own_d2_21 : decode prog_13_method_4_code 21 = .ok (.land, 1) := by decide +kernel
theorem own_d2_22 : decode prog_13_method_4_code 22 = .ok (.lreturn, 1) := by decide +kernel
def own_f2 (xa : Int64) (xb : Int64) : Int64 := ((((xa ^^^ xb) - (72340172838076673 : Int64)) &&& ((xa ^^^ xb) ^^^ (-1 : Int64))) &&& (-9187201950435737472 : Int64))
theorem own_ef2 (m : MethodId) (xa : Int64) (xb : Int64) : entryFrame m #[(.long xa), (.long xb)] 6 = mkF m 0 #[.val (.long xa), .second, .val (.long xb), .second, .unset, .unset] [] := by first | (simp [entryFrame, mkF, argsToLocals, Value.category]; done) | rfl
abbrev own_room2 : Room := { frames := 0, cells := 0, slots := 0, locals := 0 }
def own_Q2 (Z : State) (xa : Int64) (xb : Int64) (h0 : Heap) (n0 : Nat) (v : Option Value) (h : Heap) (L : List Loc) : Prop := v = some (.long (own_f2 xa xb)) ∧ Fr n0 L ∧ h = h0
set_option maxRecDepth 65536 in
set_option maxHeartbeats 40000000 in
theorem own_rm2 (l : Launch) (Z : State) (a0 : Array Value) (hw : ∀ d ∈ tables_1, d.before a0 Z = true) (ws : List Jvm.Cond) (xa : Int64) (xb : Int64) (h0 : Heap) (n0 : Nat) (Z0 : n0 ≤ h0.size) :
    MetFree l (⟨"com/example/eben/eben/io/ByteWords", "matches", "(JJ)J"⟩ : MethodName) (head1 (Jvm.Cond.code (⟨"com/example/eben/eben/io/ByteWords", "matches", "(JJ)J"⟩ : MethodName) prog_13_method_4_code 6 (some .long) :: ws) own_room2) (fun a U => a = #[(.long xa), (.long xb)] ∧ Z.Warmed39 U.vm ∧ U.heap = h0) (fun _ _ _ _ _ => True) (fun _ U o U' => ∃ v L, o = .returned v ∧ own_Q2 Z xa xb h0 n0 v U'.heap L ∧ FrameEnd U o U' L own_room2.cells own_room2.slots) := by
  refine MetFree.of_bodySF (plainFor_of_name own_pn0) hisR ?_
  intro p e s m args below meth c s₁ Bd hml0 hP hK
  obtain ⟨rfl, hZ, hh⟩ := hP
  have hx := Bd.exec
  have hby := Bd.bytes
  have hml : c.maxLocals = 6 := hml0
  have hown : s.vm.findClass "com/example/eben/eben/io/ByteWords" = some m.cls := findClass_of_methodNamed Bd.named
  have hnm := (name_of_methodNamed Bd.named Bd.method).1
  have X0 : Stand p l e own_room2 s m #[(.long xa), (.long xb)] below meth c s₁ [] 0 0 := Stand.of_body Bd
  have e0 : s₁.heap = h0 := by rw [← hh, Bd.state]; rfl
  have N0 := Fr.nil n0
  refine own_out (Q := fun o U' => ∃ v L, o = .returned v ∧ own_Q2 Z xa xb h0 n0 v U'.heap L ∧ FrameEnd s o U' L own_room2.cells own_room2.slots) ?_
  refine own_go (T' := s₁) (f' := (mkF m 0 #[.val (.long xa), .second, .val (.long xb), .second, .unset, .unset] [])) ?_ (fun _ k => castTop (own_ef2 m xa xb) k)
  refine own_go (T' := s₁) (f' := (mkF m 1 #[.val (.long xa), .second, .val (.long xb), .second, .unset, .unset] [(.long xa)])) ?_ (fun _ k => XS.lloadN X0.here hx rfl (hb hby own_d2_0) rfl  k)
  refine own_go (T' := s₁) (f' := (mkF m 2 #[.val (.long xa), .second, .val (.long xb), .second, .unset, .unset] [(.long xb), (.long xa)])) ?_ (fun _ k => XS.lloadN X0.here hx rfl (hb hby own_d2_1) rfl  k)
  refine own_go (T' := s₁) (f' := (mkF m 3 #[.val (.long xa), .second, .val (.long xb), .second, .unset, .unset] [(.long (xa ^^^ xb))])) ?_ (fun _ k => XS.lxor X0.here hx rfl (hb hby own_d2_2) rfl k)
  refine own_go (T' := s₁) (f' := (mkF m 5 #[.val (.long xa), .second, .val (.long xb), .second, .val (.long (xa ^^^ xb)), .second] [])) ?_ (fun _ k => XS.lstore X0.here hx rfl (hb hby own_d2_3) rfl (l' := #[.val (.long xa), .second, .val (.long xb), .second, .val (.long (xa ^^^ xb)), .second]) rfl k)
  refine own_go (T' := s₁) (f' := (mkF m 7 #[.val (.long xa), .second, .val (.long xb), .second, .val (.long (xa ^^^ xb)), .second] [(.long (xa ^^^ xb))])) ?_ (fun _ k => XS.lload X0.here hx rfl (hb hby own_d2_5) rfl  k)
  refine own_go (T' := s₁) (f' := (mkF m 10 #[.val (.long xa), .second, .val (.long xb), .second, .val (.long (xa ^^^ xb)), .second] [(.long (72340172838076673 : Int64)), (.long (xa ^^^ xb))])) ?_ (X0.ldc2Long hx hown (mvT hZ (hw _ (List.mem_of_getElem? (i := 6) rfl))) (g := (mkF m 7 #[.val (.long xa), .second, .val (.long xb), .second, .val (.long (xa ^^^ xb)), .second] [(.long (xa ^^^ xb))])) rfl (hb hby own_d2_7))
  refine own_go (T' := s₁) (f' := (mkF m 11 #[.val (.long xa), .second, .val (.long xb), .second, .val (.long (xa ^^^ xb)), .second] [(.long ((xa ^^^ xb) - (72340172838076673 : Int64)))])) ?_ (fun _ k => XS.lsub X0.here hx rfl (hb hby own_d2_10) rfl k)
  refine own_go (T' := s₁) (f' := (mkF m 13 #[.val (.long xa), .second, .val (.long xb), .second, .val (.long (xa ^^^ xb)), .second] [(.long (xa ^^^ xb)), (.long ((xa ^^^ xb) - (72340172838076673 : Int64)))])) ?_ (fun _ k => XS.lload X0.here hx rfl (hb hby own_d2_11) rfl  k)
  refine own_go (T' := s₁) (f' := (mkF m 16 #[.val (.long xa), .second, .val (.long xb), .second, .val (.long (xa ^^^ xb)), .second] [(.long (-1 : Int64)), (.long (xa ^^^ xb)), (.long ((xa ^^^ xb) - (72340172838076673 : Int64)))])) ?_ (X0.ldc2Long hx hown (mvT hZ (hw _ (List.mem_of_getElem? (i := 10) rfl))) (g := (mkF m 13 #[.val (.long xa), .second, .val (.long xb), .second, .val (.long (xa ^^^ xb)), .second] [(.long (xa ^^^ xb)), (.long ((xa ^^^ xb) - (72340172838076673 : Int64)))])) rfl (hb hby own_d2_13))
  refine own_go (T' := s₁) (f' := (mkF m 17 #[.val (.long xa), .second, .val (.long xb), .second, .val (.long (xa ^^^ xb)), .second] [(.long ((xa ^^^ xb) ^^^ (-1 : Int64))), (.long ((xa ^^^ xb) - (72340172838076673 : Int64)))])) ?_ (fun _ k => XS.lxor X0.here hx rfl (hb hby own_d2_16) rfl k)
  refine own_go (T' := s₁) (f' := (mkF m 18 #[.val (.long xa), .second, .val (.long xb), .second, .val (.long (xa ^^^ xb)), .second] [(.long (((xa ^^^ xb) - (72340172838076673 : Int64)) &&& ((xa ^^^ xb) ^^^ (-1 : Int64))))])) ?_ (fun _ k => XS.land X0.here hx rfl (hb hby own_d2_17) rfl k)
  refine own_go (T' := s₁) (f' := (mkF m 21 #[.val (.long xa), .second, .val (.long xb), .second, .val (.long (xa ^^^ xb)), .second] [(.long (-9187201950435737472 : Int64)), (.long (((xa ^^^ xb) - (72340172838076673 : Int64)) &&& ((xa ^^^ xb) ^^^ (-1 : Int64))))])) ?_ (X0.ldc2Long hx hown (mvT hZ (hw _ (List.mem_of_getElem? (i := 11) rfl))) (g := (mkF m 18 #[.val (.long xa), .second, .val (.long xb), .second, .val (.long (xa ^^^ xb)), .second] [(.long (((xa ^^^ xb) - (72340172838076673 : Int64)) &&& ((xa ^^^ xb) ^^^ (-1 : Int64))))])) rfl (hb hby own_d2_18))
  refine own_go (T' := s₁) (f' := (mkF m 22 #[.val (.long xa), .second, .val (.long xb), .second, .val (.long (xa ^^^ xb)), .second] [(.long ((((xa ^^^ xb) - (72340172838076673 : Int64)) &&& ((xa ^^^ xb) ^^^ (-1 : Int64))) &&& (-9187201950435737472 : Int64)))])) ?_ (fun _ k => XS.land X0.here hx rfl (hb hby own_d2_21) rfl k)
  obtain ⟨fs1, hr1, hrun1, hended1, hW1, hsame1⟩ := X0.leave (v := some (.long ((((xa ^^^ xb) - (72340172838076673 : Int64)) &&& ((xa ^^^ xb) ^^^ (-1 : Int64))) &&& (-9187201950435737472 : Int64)))) (fun h => by rw [Bd.returns] at h; cases h)
  refine ⟨_, ⟨_, hrun1, hended1, _, _, rfl, ?_, ⟨_, rfl⟩, hW1, hsame1.mono (by decide) (by decide)⟩, fun _ k => (own_retJ X0 hx Bd.returns (hb hby own_d2_22) hr1).trans k⟩
  show own_Q2 Z xa xb h0 n0 _ s₁.heap _
  rw [e0]
  exact ⟨rfl, N0, rfl⟩
theorem own_pn1 : plainName "com/example/eben/eben/io/ByteWordsMatchesPinLaw" = true := by first | (simp [plainName, overriddenIn]; done) | decide +kernel
theorem own_d3_0 : decode method_2_code 0 = .ok (.lload_n 0, 1) := by decide +kernel
theorem own_d3_1 : decode method_2_code 1 = .ok (.ldc2_w 7, 3) := by decide +kernel
theorem own_d3_4 : decode method_2_code 4 = .ok (.land, 1) := by decide +kernel
theorem own_d3_5 : decode method_2_code 5 = .ok (.iload_n 2, 1) := by decide +kernel
theorem own_d3_6 : decode method_2_code 6 = .ok (.i2l, 1) := by decide +kernel
theorem own_d3_7 : decode method_2_code 7 = .ok (.lcmp, 1) := by decide +kernel
theorem own_d3_8 : decode method_2_code 8 = .ok (.ifCond .ne 5, 3) := by decide +kernel
theorem own_d3_11 : decode method_2_code 11 = .ok (.iconst 0, 1) := by decide +kernel
theorem own_d3_12 : decode method_2_code 12 = .ok (.ireturn, 1) := by decide +kernel
theorem own_d3_13 : decode method_2_code 13 = .ok (.lload_n 0, 1) := by decide +kernel
theorem own_d3_14 : decode method_2_code 14 = .ok (.bipush 8, 2) := by decide +kernel
theorem own_d3_16 : decode method_2_code 16 = .ok (.lushr, 1) := by decide +kernel
theorem own_d3_17 : decode method_2_code 17 = .ok (.ldc2_w 7, 3) := by decide +kernel
theorem own_d3_20 : decode method_2_code 20 = .ok (.land, 1) := by decide +kernel
theorem own_d3_21 : decode method_2_code 21 = .ok (.iload_n 2, 1) := by decide +kernel
theorem own_d3_22 : decode method_2_code 22 = .ok (.i2l, 1) := by decide +kernel
theorem own_d3_23 : decode method_2_code 23 = .ok (.lcmp, 1) := by decide +kernel
theorem own_d3_24 : decode method_2_code 24 = .ok (.ifCond .ne 5, 3) := by decide +kernel
theorem own_d3_27 : decode method_2_code 27 = .ok (.iconst 1, 1) := by decide +kernel
theorem own_d3_28 : decode method_2_code 28 = .ok (.ireturn, 1) := by decide +kernel
theorem own_d3_29 : decode method_2_code 29 = .ok (.lload_n 0, 1) := by decide +kernel
theorem own_d3_30 : decode method_2_code 30 = .ok (.bipush 16, 2) := by decide +kernel
theorem own_d3_32 : decode method_2_code 32 = .ok (.lushr, 1) := by decide +kernel
theorem own_d3_33 : decode method_2_code 33 = .ok (.ldc2_w 7, 3) := by decide +kernel
theorem own_d3_36 : decode method_2_code 36 = .ok (.land, 1) := by decide +kernel
theorem own_d3_37 : decode method_2_code 37 = .ok (.iload_n 2, 1) := by decide +kernel
theorem own_d3_38 : decode method_2_code 38 = .ok (.i2l, 1) := by decide +kernel
theorem own_d3_39 : decode method_2_code 39 = .ok (.lcmp, 1) := by decide +kernel
theorem own_d3_40 : decode method_2_code 40 = .ok (.ifCond .ne 5, 3) := by decide +kernel
theorem own_d3_43 : decode method_2_code 43 = .ok (.iconst 2, 1) := by decide +kernel
theorem own_d3_44 : decode method_2_code 44 = .ok (.ireturn, 1) := by decide +kernel
theorem own_d3_45 : decode method_2_code 45 = .ok (.lload_n 0, 1) := by decide +kernel
theorem own_d3_46 : decode method_2_code 46 = .ok (.bipush 24, 2) := by decide +kernel
theorem own_d3_48 : decode method_2_code 48 = .ok (.lushr, 1) := by decide +kernel
theorem own_d3_49 : decode method_2_code 49 = .ok (.ldc2_w 7, 3) := by decide +kernel
theorem own_d3_52 : decode method_2_code 52 = .ok (.land, 1) := by decide +kernel
theorem own_d3_53 : decode method_2_code 53 = .ok (.iload_n 2, 1) := by decide +kernel
theorem own_d3_54 : decode method_2_code 54 = .ok (.i2l, 1) := by decide +kernel
theorem own_d3_55 : decode method_2_code 55 = .ok (.lcmp, 1) := by decide +kernel
theorem own_d3_56 : decode method_2_code 56 = .ok (.ifCond .ne 5, 3) := by decide +kernel
theorem own_d3_59 : decode method_2_code 59 = .ok (.iconst 3, 1) := by decide +kernel
theorem own_d3_60 : decode method_2_code 60 = .ok (.ireturn, 1) := by decide +kernel
theorem own_d3_61 : decode method_2_code 61 = .ok (.lload_n 0, 1) := by decide +kernel
theorem own_d3_62 : decode method_2_code 62 = .ok (.bipush 32, 2) := by decide +kernel
theorem own_d3_64 : decode method_2_code 64 = .ok (.lushr, 1) := by decide +kernel
theorem own_d3_65 : decode method_2_code 65 = .ok (.ldc2_w 7, 3) := by decide +kernel
theorem own_d3_68 : decode method_2_code 68 = .ok (.land, 1) := by decide +kernel
theorem own_d3_69 : decode method_2_code 69 = .ok (.iload_n 2, 1) := by decide +kernel
theorem own_d3_70 : decode method_2_code 70 = .ok (.i2l, 1) := by decide +kernel
theorem own_d3_71 : decode method_2_code 71 = .ok (.lcmp, 1) := by decide +kernel
theorem own_d3_72 : decode method_2_code 72 = .ok (.ifCond .ne 5, 3) := by decide +kernel
theorem own_d3_75 : decode method_2_code 75 = .ok (.iconst 4, 1) := by decide +kernel
theorem own_d3_76 : decode method_2_code 76 = .ok (.ireturn, 1) := by decide +kernel
theorem own_d3_77 : decode method_2_code 77 = .ok (.lload_n 0, 1) := by decide +kernel
theorem own_d3_78 : decode method_2_code 78 = .ok (.bipush 40, 2) := by decide +kernel
theorem own_d3_80 : decode method_2_code 80 = .ok (.lushr, 1) := by decide +kernel
theorem own_d3_81 : decode method_2_code 81 = .ok (.ldc2_w 7, 3) := by decide +kernel
theorem own_d3_84 : decode method_2_code 84 = .ok (.land, 1) := by decide +kernel
theorem own_d3_85 : decode method_2_code 85 = .ok (.iload_n 2, 1) := by decide +kernel
theorem own_d3_86 : decode method_2_code 86 = .ok (.i2l, 1) := by decide +kernel
theorem own_d3_87 : decode method_2_code 87 = .ok (.lcmp, 1) := by decide +kernel
theorem own_d3_88 : decode method_2_code 88 = .ok (.ifCond .ne 5, 3) := by decide +kernel
theorem own_d3_91 : decode method_2_code 91 = .ok (.iconst 5, 1) := by decide +kernel
theorem own_d3_92 : decode method_2_code 92 = .ok (.ireturn, 1) := by decide +kernel
theorem own_d3_93 : decode method_2_code 93 = .ok (.lload_n 0, 1) := by decide +kernel
theorem own_d3_94 : decode method_2_code 94 = .ok (.bipush 48, 2) := by decide +kernel
theorem own_d3_96 : decode method_2_code 96 = .ok (.lushr, 1) := by decide +kernel
theorem own_d3_97 : decode method_2_code 97 = .ok (.ldc2_w 7, 3) := by decide +kernel
theorem own_d3_100 : decode method_2_code 100 = .ok (.land, 1) := by decide +kernel
theorem own_d3_101 : decode method_2_code 101 = .ok (.iload_n 2, 1) := by decide +kernel
theorem own_d3_102 : decode method_2_code 102 = .ok (.i2l, 1) := by decide +kernel
theorem own_d3_103 : decode method_2_code 103 = .ok (.lcmp, 1) := by decide +kernel
theorem own_d3_104 : decode method_2_code 104 = .ok (.ifCond .ne 6, 3) := by decide +kernel
theorem own_d3_107 : decode method_2_code 107 = .ok (.bipush 6, 2) := by decide +kernel
theorem own_d3_109 : decode method_2_code 109 = .ok (.ireturn, 1) := by decide +kernel
theorem own_d3_110 : decode method_2_code 110 = .ok (.lload_n 0, 1) := by decide +kernel
theorem own_d3_111 : decode method_2_code 111 = .ok (.bipush 56, 2) := by decide +kernel
theorem own_d3_113 : decode method_2_code 113 = .ok (.lushr, 1) := by decide +kernel
theorem own_d3_114 : decode method_2_code 114 = .ok (.ldc2_w 7, 3) := by decide +kernel
theorem own_d3_117 : decode method_2_code 117 = .ok (.land, 1) := by decide +kernel
theorem own_d3_118 : decode method_2_code 118 = .ok (.iload_n 2, 1) := by decide +kernel
theorem own_d3_119 : decode method_2_code 119 = .ok (.i2l, 1) := by decide +kernel
theorem own_d3_120 : decode method_2_code 120 = .ok (.lcmp, 1) := by decide +kernel
theorem own_d3_121 : decode method_2_code 121 = .ok (.ifCond .ne 6, 3) := by decide +kernel
theorem own_d3_124 : decode method_2_code 124 = .ok (.bipush 7, 2) := by decide +kernel
theorem own_d3_126 : decode method_2_code 126 = .ok (.ireturn, 1) := by decide +kernel
theorem own_d3_127 : decode method_2_code 127 = .ok (.bipush 8, 2) := by decide +kernel
theorem own_d3_129 : decode method_2_code 129 = .ok (.ireturn, 1) := by decide +kernel
def own_f3 (xa : Int64) (xb : Int32) : Int32 := (if (lcmpW (xa &&& (255 : Int64)) (xb.toInt64)) = (0 : Int32) then (0 : Int32) else (if (lcmpW (((xa.toUInt64 >>> ((8 : Int32) &&& 0x3f).toInt64.toUInt64).toInt64) &&& (255 : Int64)) (xb.toInt64)) = (0 : Int32) then (1 : Int32) else (if (lcmpW (((xa.toUInt64 >>> ((16 : Int32) &&& 0x3f).toInt64.toUInt64).toInt64) &&& (255 : Int64)) (xb.toInt64)) = (0 : Int32) then (2 : Int32) else (if (lcmpW (((xa.toUInt64 >>> ((24 : Int32) &&& 0x3f).toInt64.toUInt64).toInt64) &&& (255 : Int64)) (xb.toInt64)) = (0 : Int32) then (3 : Int32) else (if (lcmpW (((xa.toUInt64 >>> ((32 : Int32) &&& 0x3f).toInt64.toUInt64).toInt64) &&& (255 : Int64)) (xb.toInt64)) = (0 : Int32) then (4 : Int32) else (if (lcmpW (((xa.toUInt64 >>> ((40 : Int32) &&& 0x3f).toInt64.toUInt64).toInt64) &&& (255 : Int64)) (xb.toInt64)) = (0 : Int32) then (5 : Int32) else (if (lcmpW (((xa.toUInt64 >>> ((48 : Int32) &&& 0x3f).toInt64.toUInt64).toInt64) &&& (255 : Int64)) (xb.toInt64)) = (0 : Int32) then (6 : Int32) else (if (lcmpW (((xa.toUInt64 >>> ((56 : Int32) &&& 0x3f).toInt64.toUInt64).toInt64) &&& (255 : Int64)) (xb.toInt64)) = (0 : Int32) then (7 : Int32) else (8 : Int32)))))))))
theorem own_ef3 (m : MethodId) (xa : Int64) (xb : Int32) : entryFrame m #[(.long xa), (.int xb)] 3 = mkF m 0 #[.val (.long xa), .second, .val (.int xb)] [] := by first | (simp [entryFrame, mkF, argsToLocals, Value.category]; done) | rfl
abbrev own_room3 : Room := { frames := 0, cells := 0, slots := 0, locals := 0 }
def own_Q3 (Z : State) (xa : Int64) (xb : Int32) (h0 : Heap) (n0 : Nat) (v : Option Value) (h : Heap) (L : List Loc) : Prop := v = some (.int (own_f3 xa xb)) ∧ Fr n0 L ∧ h = h0
set_option maxRecDepth 65536 in
set_option maxHeartbeats 40000000 in
theorem own_rm3 (l : Launch) (Z : State) (a0 : Array Value) (hw : ∀ d ∈ tables_1, d.before a0 Z = true) (ws : List Jvm.Cond) (xa : Int64) (xb : Int32) (h0 : Heap) (n0 : Nat) (Z0 : n0 ≤ h0.size) :
    MetFree l (⟨"com/example/eben/eben/io/ByteWordsMatchesPinLaw", "first", "(JI)I"⟩ : MethodName) (head1 (Jvm.Cond.code (⟨"com/example/eben/eben/io/ByteWordsMatchesPinLaw", "first", "(JI)I"⟩ : MethodName) method_2_code 3 (some .int) :: ws) own_room3) (fun a U => a = #[(.long xa), (.int xb)] ∧ Z.Warmed39 U.vm ∧ U.heap = h0) (fun _ _ _ _ _ => True) (fun _ U o U' => ∃ v L, o = .returned v ∧ own_Q3 Z xa xb h0 n0 v U'.heap L ∧ FrameEnd U o U' L own_room3.cells own_room3.slots) := by
  refine MetFree.of_bodySF (plainFor_of_name own_pn1) hisR ?_
  intro p e s m args below meth c s₁ Bd hml0 hP hK
  obtain ⟨rfl, hZ, hh⟩ := hP
  have hx := Bd.exec
  have hby := Bd.bytes
  have hml : c.maxLocals = 3 := hml0
  have hown : s.vm.findClass "com/example/eben/eben/io/ByteWordsMatchesPinLaw" = some m.cls := findClass_of_methodNamed Bd.named
  have hnm := (name_of_methodNamed Bd.named Bd.method).1
  have X0 : Stand p l e own_room3 s m #[(.long xa), (.int xb)] below meth c s₁ [] 0 0 := Stand.of_body Bd
  have e0 : s₁.heap = h0 := by rw [← hh, Bd.state]; rfl
  have N0 := Fr.nil n0
  refine own_out (Q := fun o U' => ∃ v L, o = .returned v ∧ own_Q3 Z xa xb h0 n0 v U'.heap L ∧ FrameEnd s o U' L own_room3.cells own_room3.slots) ?_
  refine own_go (T' := s₁) (f' := (mkF m 0 #[.val (.long xa), .second, .val (.int xb)] [])) ?_ (fun _ k => castTop (own_ef3 m xa xb) k)
  refine own_go (T' := s₁) (f' := (mkF m 1 #[.val (.long xa), .second, .val (.int xb)] [(.long xa)])) ?_ (fun _ k => XS.lloadN X0.here hx rfl (hb hby own_d3_0) rfl  k)
  refine own_go (T' := s₁) (f' := (mkF m 4 #[.val (.long xa), .second, .val (.int xb)] [(.long (255 : Int64)), (.long xa)])) ?_ (X0.ldc2Long hx hown (mvT hZ (hw _ (List.mem_of_getElem? (i := 0) rfl))) (g := (mkF m 1 #[.val (.long xa), .second, .val (.int xb)] [(.long xa)])) rfl (hb hby own_d3_1))
  refine own_go (T' := s₁) (f' := (mkF m 5 #[.val (.long xa), .second, .val (.int xb)] [(.long (xa &&& (255 : Int64)))])) ?_ (fun _ k => XS.land X0.here hx rfl (hb hby own_d3_4) rfl k)
  refine own_go (T' := s₁) (f' := (mkF m 6 #[.val (.long xa), .second, .val (.int xb)] [(.int xb), (.long (xa &&& (255 : Int64)))])) ?_ (fun _ k => XS.iloadN X0.here hx rfl (hb hby own_d3_5) rfl  k)
  refine own_go (T' := s₁) (f' := (mkF m 7 #[.val (.long xa), .second, .val (.int xb)] [(.long (xb.toInt64)), (.long (xa &&& (255 : Int64)))])) ?_ (fun _ k => XS.i2l X0.here hx rfl (hb hby own_d3_6) rfl k)
  refine own_go (T' := s₁) (f' := (mkF m 8 #[.val (.long xa), .second, .val (.int xb)] [(.int (lcmpW (xa &&& (255 : Int64)) (xb.toInt64)))])) ?_ (fun _ k => XS.lcmp X0.here hx rfl (hb hby own_d3_7) rfl k)
  by_cases hc8_1 : (lcmpW (xa &&& (255 : Int64)) (xb.toInt64)) = (0 : Int32)
  · refine own_go (T' := s₁) (f' := (mkF m 11 #[.val (.long xa), .second, .val (.int xb)] [])) ?_ (fun _ k => XS.ifNo X0.here hx rfl (hb hby own_d3_8) rfl ((if0 _ _).trans (teq hc8_1).2) k)
    refine own_go (T' := s₁) (f' := (mkF m 12 #[.val (.long xa), .second, .val (.int xb)] [(.int (0 : Int32))])) ?_ (fun _ k => XS.iconst X0.here hx rfl (hb hby own_d3_11) k)
    obtain ⟨fs2, hr2, hrun2, hended2, hW2, hsame2⟩ := X0.leave (v := some (.int (0 : Int32))) (fun h => by rw [Bd.returns] at h; cases h)
    refine ⟨_, ⟨_, hrun2, hended2, _, _, rfl, ?_, ⟨_, rfl⟩, hW2, hsame2.mono (by decide) (by decide)⟩, fun _ k => (retI X0 hx Bd.returns (hb hby own_d3_12) hr2).trans k⟩
    show own_Q3 Z xa xb h0 n0 _ s₁.heap _
    rw [e0]
    exact ⟨(congrArg (fun z => some (Value.int z)) (show (0 : Int32) = (own_f3 xa xb) from ((if_pos hc8_1)).symm)), N0, rfl⟩
  · refine own_go (T' := s₁) (f' := (mkF m 13 #[.val (.long xa), .second, .val (.int xb)] [])) ?_ (fun _ k => XS.ifYes X0.here hx rfl (pc0 := 8) (pc' := 13) rfl (hb hby own_d3_8) rfl ((if0 _ _).trans (feq hc8_1).2) (by decide) (by decide) k)
    refine own_go (T' := s₁) (f' := (mkF m 14 #[.val (.long xa), .second, .val (.int xb)] [(.long xa)])) ?_ (fun _ k => XS.lloadN X0.here hx rfl (hb hby own_d3_13) rfl  k)
    refine own_go (T' := s₁) (f' := (mkF m 16 #[.val (.long xa), .second, .val (.int xb)] [(.int (8 : Int32)), (.long xa)])) ?_ (fun _ k => XS.bipush X0.here hx rfl (hb hby own_d3_14) k)
    refine own_go (T' := s₁) (f' := (mkF m 17 #[.val (.long xa), .second, .val (.int xb)] [(.long ((xa.toUInt64 >>> ((8 : Int32) &&& 0x3f).toInt64.toUInt64).toInt64))])) ?_ (fun _ k => XS.lushr X0.here hx rfl (hb hby own_d3_16) rfl k)
    refine own_go (T' := s₁) (f' := (mkF m 20 #[.val (.long xa), .second, .val (.int xb)] [(.long (255 : Int64)), (.long ((xa.toUInt64 >>> ((8 : Int32) &&& 0x3f).toInt64.toUInt64).toInt64))])) ?_ (X0.ldc2Long hx hown (mvT hZ (hw _ (List.mem_of_getElem? (i := 0) rfl))) (g := (mkF m 17 #[.val (.long xa), .second, .val (.int xb)] [(.long ((xa.toUInt64 >>> ((8 : Int32) &&& 0x3f).toInt64.toUInt64).toInt64))])) rfl (hb hby own_d3_17))
    refine own_go (T' := s₁) (f' := (mkF m 21 #[.val (.long xa), .second, .val (.int xb)] [(.long (((xa.toUInt64 >>> ((8 : Int32) &&& 0x3f).toInt64.toUInt64).toInt64) &&& (255 : Int64)))])) ?_ (fun _ k => XS.land X0.here hx rfl (hb hby own_d3_20) rfl k)
    refine own_go (T' := s₁) (f' := (mkF m 22 #[.val (.long xa), .second, .val (.int xb)] [(.int xb), (.long (((xa.toUInt64 >>> ((8 : Int32) &&& 0x3f).toInt64.toUInt64).toInt64) &&& (255 : Int64)))])) ?_ (fun _ k => XS.iloadN X0.here hx rfl (hb hby own_d3_21) rfl  k)
    refine own_go (T' := s₁) (f' := (mkF m 23 #[.val (.long xa), .second, .val (.int xb)] [(.long (xb.toInt64)), (.long (((xa.toUInt64 >>> ((8 : Int32) &&& 0x3f).toInt64.toUInt64).toInt64) &&& (255 : Int64)))])) ?_ (fun _ k => XS.i2l X0.here hx rfl (hb hby own_d3_22) rfl k)
    refine own_go (T' := s₁) (f' := (mkF m 24 #[.val (.long xa), .second, .val (.int xb)] [(.int (lcmpW (((xa.toUInt64 >>> ((8 : Int32) &&& 0x3f).toInt64.toUInt64).toInt64) &&& (255 : Int64)) (xb.toInt64)))])) ?_ (fun _ k => XS.lcmp X0.here hx rfl (hb hby own_d3_23) rfl k)
    by_cases hc24_3 : (lcmpW (((xa.toUInt64 >>> ((8 : Int32) &&& 0x3f).toInt64.toUInt64).toInt64) &&& (255 : Int64)) (xb.toInt64)) = (0 : Int32)
    · refine own_go (T' := s₁) (f' := (mkF m 27 #[.val (.long xa), .second, .val (.int xb)] [])) ?_ (fun _ k => XS.ifNo X0.here hx rfl (hb hby own_d3_24) rfl ((if0 _ _).trans (teq hc24_3).2) k)
      refine own_go (T' := s₁) (f' := (mkF m 28 #[.val (.long xa), .second, .val (.int xb)] [(.int (1 : Int32))])) ?_ (fun _ k => XS.iconst X0.here hx rfl (hb hby own_d3_27) k)
      obtain ⟨fs4, hr4, hrun4, hended4, hW4, hsame4⟩ := X0.leave (v := some (.int (1 : Int32))) (fun h => by rw [Bd.returns] at h; cases h)
      refine ⟨_, ⟨_, hrun4, hended4, _, _, rfl, ?_, ⟨_, rfl⟩, hW4, hsame4.mono (by decide) (by decide)⟩, fun _ k => (retI X0 hx Bd.returns (hb hby own_d3_28) hr4).trans k⟩
      show own_Q3 Z xa xb h0 n0 _ s₁.heap _
      rw [e0]
      exact ⟨(congrArg (fun z => some (Value.int z)) (show (1 : Int32) = (own_f3 xa xb) from ((Eq.trans (if_neg hc8_1) (if_pos hc24_3))).symm)), N0, rfl⟩
    · refine own_go (T' := s₁) (f' := (mkF m 29 #[.val (.long xa), .second, .val (.int xb)] [])) ?_ (fun _ k => XS.ifYes X0.here hx rfl (pc0 := 24) (pc' := 29) rfl (hb hby own_d3_24) rfl ((if0 _ _).trans (feq hc24_3).2) (by decide) (by decide) k)
      refine own_go (T' := s₁) (f' := (mkF m 30 #[.val (.long xa), .second, .val (.int xb)] [(.long xa)])) ?_ (fun _ k => XS.lloadN X0.here hx rfl (hb hby own_d3_29) rfl  k)
      refine own_go (T' := s₁) (f' := (mkF m 32 #[.val (.long xa), .second, .val (.int xb)] [(.int (16 : Int32)), (.long xa)])) ?_ (fun _ k => XS.bipush X0.here hx rfl (hb hby own_d3_30) k)
      refine own_go (T' := s₁) (f' := (mkF m 33 #[.val (.long xa), .second, .val (.int xb)] [(.long ((xa.toUInt64 >>> ((16 : Int32) &&& 0x3f).toInt64.toUInt64).toInt64))])) ?_ (fun _ k => XS.lushr X0.here hx rfl (hb hby own_d3_32) rfl k)
      refine own_go (T' := s₁) (f' := (mkF m 36 #[.val (.long xa), .second, .val (.int xb)] [(.long (255 : Int64)), (.long ((xa.toUInt64 >>> ((16 : Int32) &&& 0x3f).toInt64.toUInt64).toInt64))])) ?_ (X0.ldc2Long hx hown (mvT hZ (hw _ (List.mem_of_getElem? (i := 0) rfl))) (g := (mkF m 33 #[.val (.long xa), .second, .val (.int xb)] [(.long ((xa.toUInt64 >>> ((16 : Int32) &&& 0x3f).toInt64.toUInt64).toInt64))])) rfl (hb hby own_d3_33))
      refine own_go (T' := s₁) (f' := (mkF m 37 #[.val (.long xa), .second, .val (.int xb)] [(.long (((xa.toUInt64 >>> ((16 : Int32) &&& 0x3f).toInt64.toUInt64).toInt64) &&& (255 : Int64)))])) ?_ (fun _ k => XS.land X0.here hx rfl (hb hby own_d3_36) rfl k)
      refine own_go (T' := s₁) (f' := (mkF m 38 #[.val (.long xa), .second, .val (.int xb)] [(.int xb), (.long (((xa.toUInt64 >>> ((16 : Int32) &&& 0x3f).toInt64.toUInt64).toInt64) &&& (255 : Int64)))])) ?_ (fun _ k => XS.iloadN X0.here hx rfl (hb hby own_d3_37) rfl  k)
      refine own_go (T' := s₁) (f' := (mkF m 39 #[.val (.long xa), .second, .val (.int xb)] [(.long (xb.toInt64)), (.long (((xa.toUInt64 >>> ((16 : Int32) &&& 0x3f).toInt64.toUInt64).toInt64) &&& (255 : Int64)))])) ?_ (fun _ k => XS.i2l X0.here hx rfl (hb hby own_d3_38) rfl k)
      refine own_go (T' := s₁) (f' := (mkF m 40 #[.val (.long xa), .second, .val (.int xb)] [(.int (lcmpW (((xa.toUInt64 >>> ((16 : Int32) &&& 0x3f).toInt64.toUInt64).toInt64) &&& (255 : Int64)) (xb.toInt64)))])) ?_ (fun _ k => XS.lcmp X0.here hx rfl (hb hby own_d3_39) rfl k)
      by_cases hc40_5 : (lcmpW (((xa.toUInt64 >>> ((16 : Int32) &&& 0x3f).toInt64.toUInt64).toInt64) &&& (255 : Int64)) (xb.toInt64)) = (0 : Int32)
      · refine own_go (T' := s₁) (f' := (mkF m 43 #[.val (.long xa), .second, .val (.int xb)] [])) ?_ (fun _ k => XS.ifNo X0.here hx rfl (hb hby own_d3_40) rfl ((if0 _ _).trans (teq hc40_5).2) k)
        refine own_go (T' := s₁) (f' := (mkF m 44 #[.val (.long xa), .second, .val (.int xb)] [(.int (2 : Int32))])) ?_ (fun _ k => XS.iconst X0.here hx rfl (hb hby own_d3_43) k)
        obtain ⟨fs6, hr6, hrun6, hended6, hW6, hsame6⟩ := X0.leave (v := some (.int (2 : Int32))) (fun h => by rw [Bd.returns] at h; cases h)
        refine ⟨_, ⟨_, hrun6, hended6, _, _, rfl, ?_, ⟨_, rfl⟩, hW6, hsame6.mono (by decide) (by decide)⟩, fun _ k => (retI X0 hx Bd.returns (hb hby own_d3_44) hr6).trans k⟩
        show own_Q3 Z xa xb h0 n0 _ s₁.heap _
        rw [e0]
        exact ⟨(congrArg (fun z => some (Value.int z)) (show (2 : Int32) = (own_f3 xa xb) from ((Eq.trans (if_neg hc8_1) (Eq.trans (if_neg hc24_3) (if_pos hc40_5)))).symm)), N0, rfl⟩
      · refine own_go (T' := s₁) (f' := (mkF m 45 #[.val (.long xa), .second, .val (.int xb)] [])) ?_ (fun _ k => XS.ifYes X0.here hx rfl (pc0 := 40) (pc' := 45) rfl (hb hby own_d3_40) rfl ((if0 _ _).trans (feq hc40_5).2) (by decide) (by decide) k)
        refine own_go (T' := s₁) (f' := (mkF m 46 #[.val (.long xa), .second, .val (.int xb)] [(.long xa)])) ?_ (fun _ k => XS.lloadN X0.here hx rfl (hb hby own_d3_45) rfl  k)
        refine own_go (T' := s₁) (f' := (mkF m 48 #[.val (.long xa), .second, .val (.int xb)] [(.int (24 : Int32)), (.long xa)])) ?_ (fun _ k => XS.bipush X0.here hx rfl (hb hby own_d3_46) k)
        refine own_go (T' := s₁) (f' := (mkF m 49 #[.val (.long xa), .second, .val (.int xb)] [(.long ((xa.toUInt64 >>> ((24 : Int32) &&& 0x3f).toInt64.toUInt64).toInt64))])) ?_ (fun _ k => XS.lushr X0.here hx rfl (hb hby own_d3_48) rfl k)
        refine own_go (T' := s₁) (f' := (mkF m 52 #[.val (.long xa), .second, .val (.int xb)] [(.long (255 : Int64)), (.long ((xa.toUInt64 >>> ((24 : Int32) &&& 0x3f).toInt64.toUInt64).toInt64))])) ?_ (X0.ldc2Long hx hown (mvT hZ (hw _ (List.mem_of_getElem? (i := 0) rfl))) (g := (mkF m 49 #[.val (.long xa), .second, .val (.int xb)] [(.long ((xa.toUInt64 >>> ((24 : Int32) &&& 0x3f).toInt64.toUInt64).toInt64))])) rfl (hb hby own_d3_49))
        refine own_go (T' := s₁) (f' := (mkF m 53 #[.val (.long xa), .second, .val (.int xb)] [(.long (((xa.toUInt64 >>> ((24 : Int32) &&& 0x3f).toInt64.toUInt64).toInt64) &&& (255 : Int64)))])) ?_ (fun _ k => XS.land X0.here hx rfl (hb hby own_d3_52) rfl k)
        refine own_go (T' := s₁) (f' := (mkF m 54 #[.val (.long xa), .second, .val (.int xb)] [(.int xb), (.long (((xa.toUInt64 >>> ((24 : Int32) &&& 0x3f).toInt64.toUInt64).toInt64) &&& (255 : Int64)))])) ?_ (fun _ k => XS.iloadN X0.here hx rfl (hb hby own_d3_53) rfl  k)
        refine own_go (T' := s₁) (f' := (mkF m 55 #[.val (.long xa), .second, .val (.int xb)] [(.long (xb.toInt64)), (.long (((xa.toUInt64 >>> ((24 : Int32) &&& 0x3f).toInt64.toUInt64).toInt64) &&& (255 : Int64)))])) ?_ (fun _ k => XS.i2l X0.here hx rfl (hb hby own_d3_54) rfl k)
        refine own_go (T' := s₁) (f' := (mkF m 56 #[.val (.long xa), .second, .val (.int xb)] [(.int (lcmpW (((xa.toUInt64 >>> ((24 : Int32) &&& 0x3f).toInt64.toUInt64).toInt64) &&& (255 : Int64)) (xb.toInt64)))])) ?_ (fun _ k => XS.lcmp X0.here hx rfl (hb hby own_d3_55) rfl k)
        by_cases hc56_7 : (lcmpW (((xa.toUInt64 >>> ((24 : Int32) &&& 0x3f).toInt64.toUInt64).toInt64) &&& (255 : Int64)) (xb.toInt64)) = (0 : Int32)
        · refine own_go (T' := s₁) (f' := (mkF m 59 #[.val (.long xa), .second, .val (.int xb)] [])) ?_ (fun _ k => XS.ifNo X0.here hx rfl (hb hby own_d3_56) rfl ((if0 _ _).trans (teq hc56_7).2) k)
          refine own_go (T' := s₁) (f' := (mkF m 60 #[.val (.long xa), .second, .val (.int xb)] [(.int (3 : Int32))])) ?_ (fun _ k => XS.iconst X0.here hx rfl (hb hby own_d3_59) k)
          obtain ⟨fs8, hr8, hrun8, hended8, hW8, hsame8⟩ := X0.leave (v := some (.int (3 : Int32))) (fun h => by rw [Bd.returns] at h; cases h)
          refine ⟨_, ⟨_, hrun8, hended8, _, _, rfl, ?_, ⟨_, rfl⟩, hW8, hsame8.mono (by decide) (by decide)⟩, fun _ k => (retI X0 hx Bd.returns (hb hby own_d3_60) hr8).trans k⟩
          show own_Q3 Z xa xb h0 n0 _ s₁.heap _
          rw [e0]
          exact ⟨(congrArg (fun z => some (Value.int z)) (show (3 : Int32) = (own_f3 xa xb) from ((Eq.trans (if_neg hc8_1) (Eq.trans (if_neg hc24_3) (Eq.trans (if_neg hc40_5) (if_pos hc56_7))))).symm)), N0, rfl⟩
        · refine own_go (T' := s₁) (f' := (mkF m 61 #[.val (.long xa), .second, .val (.int xb)] [])) ?_ (fun _ k => XS.ifYes X0.here hx rfl (pc0 := 56) (pc' := 61) rfl (hb hby own_d3_56) rfl ((if0 _ _).trans (feq hc56_7).2) (by decide) (by decide) k)
          refine own_go (T' := s₁) (f' := (mkF m 62 #[.val (.long xa), .second, .val (.int xb)] [(.long xa)])) ?_ (fun _ k => XS.lloadN X0.here hx rfl (hb hby own_d3_61) rfl  k)
          refine own_go (T' := s₁) (f' := (mkF m 64 #[.val (.long xa), .second, .val (.int xb)] [(.int (32 : Int32)), (.long xa)])) ?_ (fun _ k => XS.bipush X0.here hx rfl (hb hby own_d3_62) k)
          refine own_go (T' := s₁) (f' := (mkF m 65 #[.val (.long xa), .second, .val (.int xb)] [(.long ((xa.toUInt64 >>> ((32 : Int32) &&& 0x3f).toInt64.toUInt64).toInt64))])) ?_ (fun _ k => XS.lushr X0.here hx rfl (hb hby own_d3_64) rfl k)
          refine own_go (T' := s₁) (f' := (mkF m 68 #[.val (.long xa), .second, .val (.int xb)] [(.long (255 : Int64)), (.long ((xa.toUInt64 >>> ((32 : Int32) &&& 0x3f).toInt64.toUInt64).toInt64))])) ?_ (X0.ldc2Long hx hown (mvT hZ (hw _ (List.mem_of_getElem? (i := 0) rfl))) (g := (mkF m 65 #[.val (.long xa), .second, .val (.int xb)] [(.long ((xa.toUInt64 >>> ((32 : Int32) &&& 0x3f).toInt64.toUInt64).toInt64))])) rfl (hb hby own_d3_65))
          refine own_go (T' := s₁) (f' := (mkF m 69 #[.val (.long xa), .second, .val (.int xb)] [(.long (((xa.toUInt64 >>> ((32 : Int32) &&& 0x3f).toInt64.toUInt64).toInt64) &&& (255 : Int64)))])) ?_ (fun _ k => XS.land X0.here hx rfl (hb hby own_d3_68) rfl k)
          refine own_go (T' := s₁) (f' := (mkF m 70 #[.val (.long xa), .second, .val (.int xb)] [(.int xb), (.long (((xa.toUInt64 >>> ((32 : Int32) &&& 0x3f).toInt64.toUInt64).toInt64) &&& (255 : Int64)))])) ?_ (fun _ k => XS.iloadN X0.here hx rfl (hb hby own_d3_69) rfl  k)
          refine own_go (T' := s₁) (f' := (mkF m 71 #[.val (.long xa), .second, .val (.int xb)] [(.long (xb.toInt64)), (.long (((xa.toUInt64 >>> ((32 : Int32) &&& 0x3f).toInt64.toUInt64).toInt64) &&& (255 : Int64)))])) ?_ (fun _ k => XS.i2l X0.here hx rfl (hb hby own_d3_70) rfl k)
          refine own_go (T' := s₁) (f' := (mkF m 72 #[.val (.long xa), .second, .val (.int xb)] [(.int (lcmpW (((xa.toUInt64 >>> ((32 : Int32) &&& 0x3f).toInt64.toUInt64).toInt64) &&& (255 : Int64)) (xb.toInt64)))])) ?_ (fun _ k => XS.lcmp X0.here hx rfl (hb hby own_d3_71) rfl k)
          by_cases hc72_9 : (lcmpW (((xa.toUInt64 >>> ((32 : Int32) &&& 0x3f).toInt64.toUInt64).toInt64) &&& (255 : Int64)) (xb.toInt64)) = (0 : Int32)
          · refine own_go (T' := s₁) (f' := (mkF m 75 #[.val (.long xa), .second, .val (.int xb)] [])) ?_ (fun _ k => XS.ifNo X0.here hx rfl (hb hby own_d3_72) rfl ((if0 _ _).trans (teq hc72_9).2) k)
            refine own_go (T' := s₁) (f' := (mkF m 76 #[.val (.long xa), .second, .val (.int xb)] [(.int (4 : Int32))])) ?_ (fun _ k => XS.iconst X0.here hx rfl (hb hby own_d3_75) k)
            obtain ⟨fs10, hr10, hrun10, hended10, hW10, hsame10⟩ := X0.leave (v := some (.int (4 : Int32))) (fun h => by rw [Bd.returns] at h; cases h)
            refine ⟨_, ⟨_, hrun10, hended10, _, _, rfl, ?_, ⟨_, rfl⟩, hW10, hsame10.mono (by decide) (by decide)⟩, fun _ k => (retI X0 hx Bd.returns (hb hby own_d3_76) hr10).trans k⟩
            show own_Q3 Z xa xb h0 n0 _ s₁.heap _
            rw [e0]
            exact ⟨(congrArg (fun z => some (Value.int z)) (show (4 : Int32) = (own_f3 xa xb) from ((Eq.trans (if_neg hc8_1) (Eq.trans (if_neg hc24_3) (Eq.trans (if_neg hc40_5) (Eq.trans (if_neg hc56_7) (if_pos hc72_9)))))).symm)), N0, rfl⟩
          · refine own_go (T' := s₁) (f' := (mkF m 77 #[.val (.long xa), .second, .val (.int xb)] [])) ?_ (fun _ k => XS.ifYes X0.here hx rfl (pc0 := 72) (pc' := 77) rfl (hb hby own_d3_72) rfl ((if0 _ _).trans (feq hc72_9).2) (by decide) (by decide) k)
            refine own_go (T' := s₁) (f' := (mkF m 78 #[.val (.long xa), .second, .val (.int xb)] [(.long xa)])) ?_ (fun _ k => XS.lloadN X0.here hx rfl (hb hby own_d3_77) rfl  k)
            refine own_go (T' := s₁) (f' := (mkF m 80 #[.val (.long xa), .second, .val (.int xb)] [(.int (40 : Int32)), (.long xa)])) ?_ (fun _ k => XS.bipush X0.here hx rfl (hb hby own_d3_78) k)
            refine own_go (T' := s₁) (f' := (mkF m 81 #[.val (.long xa), .second, .val (.int xb)] [(.long ((xa.toUInt64 >>> ((40 : Int32) &&& 0x3f).toInt64.toUInt64).toInt64))])) ?_ (fun _ k => XS.lushr X0.here hx rfl (hb hby own_d3_80) rfl k)
            refine own_go (T' := s₁) (f' := (mkF m 84 #[.val (.long xa), .second, .val (.int xb)] [(.long (255 : Int64)), (.long ((xa.toUInt64 >>> ((40 : Int32) &&& 0x3f).toInt64.toUInt64).toInt64))])) ?_ (X0.ldc2Long hx hown (mvT hZ (hw _ (List.mem_of_getElem? (i := 0) rfl))) (g := (mkF m 81 #[.val (.long xa), .second, .val (.int xb)] [(.long ((xa.toUInt64 >>> ((40 : Int32) &&& 0x3f).toInt64.toUInt64).toInt64))])) rfl (hb hby own_d3_81))
            refine own_go (T' := s₁) (f' := (mkF m 85 #[.val (.long xa), .second, .val (.int xb)] [(.long (((xa.toUInt64 >>> ((40 : Int32) &&& 0x3f).toInt64.toUInt64).toInt64) &&& (255 : Int64)))])) ?_ (fun _ k => XS.land X0.here hx rfl (hb hby own_d3_84) rfl k)
            refine own_go (T' := s₁) (f' := (mkF m 86 #[.val (.long xa), .second, .val (.int xb)] [(.int xb), (.long (((xa.toUInt64 >>> ((40 : Int32) &&& 0x3f).toInt64.toUInt64).toInt64) &&& (255 : Int64)))])) ?_ (fun _ k => XS.iloadN X0.here hx rfl (hb hby own_d3_85) rfl  k)
            refine own_go (T' := s₁) (f' := (mkF m 87 #[.val (.long xa), .second, .val (.int xb)] [(.long (xb.toInt64)), (.long (((xa.toUInt64 >>> ((40 : Int32) &&& 0x3f).toInt64.toUInt64).toInt64) &&& (255 : Int64)))])) ?_ (fun _ k => XS.i2l X0.here hx rfl (hb hby own_d3_86) rfl k)
            refine own_go (T' := s₁) (f' := (mkF m 88 #[.val (.long xa), .second, .val (.int xb)] [(.int (lcmpW (((xa.toUInt64 >>> ((40 : Int32) &&& 0x3f).toInt64.toUInt64).toInt64) &&& (255 : Int64)) (xb.toInt64)))])) ?_ (fun _ k => XS.lcmp X0.here hx rfl (hb hby own_d3_87) rfl k)
            by_cases hc88_11 : (lcmpW (((xa.toUInt64 >>> ((40 : Int32) &&& 0x3f).toInt64.toUInt64).toInt64) &&& (255 : Int64)) (xb.toInt64)) = (0 : Int32)
            · refine own_go (T' := s₁) (f' := (mkF m 91 #[.val (.long xa), .second, .val (.int xb)] [])) ?_ (fun _ k => XS.ifNo X0.here hx rfl (hb hby own_d3_88) rfl ((if0 _ _).trans (teq hc88_11).2) k)
              refine own_go (T' := s₁) (f' := (mkF m 92 #[.val (.long xa), .second, .val (.int xb)] [(.int (5 : Int32))])) ?_ (fun _ k => XS.iconst X0.here hx rfl (hb hby own_d3_91) k)
              obtain ⟨fs12, hr12, hrun12, hended12, hW12, hsame12⟩ := X0.leave (v := some (.int (5 : Int32))) (fun h => by rw [Bd.returns] at h; cases h)
              refine ⟨_, ⟨_, hrun12, hended12, _, _, rfl, ?_, ⟨_, rfl⟩, hW12, hsame12.mono (by decide) (by decide)⟩, fun _ k => (retI X0 hx Bd.returns (hb hby own_d3_92) hr12).trans k⟩
              show own_Q3 Z xa xb h0 n0 _ s₁.heap _
              rw [e0]
              exact ⟨(congrArg (fun z => some (Value.int z)) (show (5 : Int32) = (own_f3 xa xb) from ((Eq.trans (if_neg hc8_1) (Eq.trans (if_neg hc24_3) (Eq.trans (if_neg hc40_5) (Eq.trans (if_neg hc56_7) (Eq.trans (if_neg hc72_9) (if_pos hc88_11))))))).symm)), N0, rfl⟩
            · refine own_go (T' := s₁) (f' := (mkF m 93 #[.val (.long xa), .second, .val (.int xb)] [])) ?_ (fun _ k => XS.ifYes X0.here hx rfl (pc0 := 88) (pc' := 93) rfl (hb hby own_d3_88) rfl ((if0 _ _).trans (feq hc88_11).2) (by decide) (by decide) k)
              refine own_go (T' := s₁) (f' := (mkF m 94 #[.val (.long xa), .second, .val (.int xb)] [(.long xa)])) ?_ (fun _ k => XS.lloadN X0.here hx rfl (hb hby own_d3_93) rfl  k)
              refine own_go (T' := s₁) (f' := (mkF m 96 #[.val (.long xa), .second, .val (.int xb)] [(.int (48 : Int32)), (.long xa)])) ?_ (fun _ k => XS.bipush X0.here hx rfl (hb hby own_d3_94) k)
              refine own_go (T' := s₁) (f' := (mkF m 97 #[.val (.long xa), .second, .val (.int xb)] [(.long ((xa.toUInt64 >>> ((48 : Int32) &&& 0x3f).toInt64.toUInt64).toInt64))])) ?_ (fun _ k => XS.lushr X0.here hx rfl (hb hby own_d3_96) rfl k)
              refine own_go (T' := s₁) (f' := (mkF m 100 #[.val (.long xa), .second, .val (.int xb)] [(.long (255 : Int64)), (.long ((xa.toUInt64 >>> ((48 : Int32) &&& 0x3f).toInt64.toUInt64).toInt64))])) ?_ (X0.ldc2Long hx hown (mvT hZ (hw _ (List.mem_of_getElem? (i := 0) rfl))) (g := (mkF m 97 #[.val (.long xa), .second, .val (.int xb)] [(.long ((xa.toUInt64 >>> ((48 : Int32) &&& 0x3f).toInt64.toUInt64).toInt64))])) rfl (hb hby own_d3_97))
              refine own_go (T' := s₁) (f' := (mkF m 101 #[.val (.long xa), .second, .val (.int xb)] [(.long (((xa.toUInt64 >>> ((48 : Int32) &&& 0x3f).toInt64.toUInt64).toInt64) &&& (255 : Int64)))])) ?_ (fun _ k => XS.land X0.here hx rfl (hb hby own_d3_100) rfl k)
              refine own_go (T' := s₁) (f' := (mkF m 102 #[.val (.long xa), .second, .val (.int xb)] [(.int xb), (.long (((xa.toUInt64 >>> ((48 : Int32) &&& 0x3f).toInt64.toUInt64).toInt64) &&& (255 : Int64)))])) ?_ (fun _ k => XS.iloadN X0.here hx rfl (hb hby own_d3_101) rfl  k)
              refine own_go (T' := s₁) (f' := (mkF m 103 #[.val (.long xa), .second, .val (.int xb)] [(.long (xb.toInt64)), (.long (((xa.toUInt64 >>> ((48 : Int32) &&& 0x3f).toInt64.toUInt64).toInt64) &&& (255 : Int64)))])) ?_ (fun _ k => XS.i2l X0.here hx rfl (hb hby own_d3_102) rfl k)
              refine own_go (T' := s₁) (f' := (mkF m 104 #[.val (.long xa), .second, .val (.int xb)] [(.int (lcmpW (((xa.toUInt64 >>> ((48 : Int32) &&& 0x3f).toInt64.toUInt64).toInt64) &&& (255 : Int64)) (xb.toInt64)))])) ?_ (fun _ k => XS.lcmp X0.here hx rfl (hb hby own_d3_103) rfl k)
              by_cases hc104_13 : (lcmpW (((xa.toUInt64 >>> ((48 : Int32) &&& 0x3f).toInt64.toUInt64).toInt64) &&& (255 : Int64)) (xb.toInt64)) = (0 : Int32)
              · refine own_go (T' := s₁) (f' := (mkF m 107 #[.val (.long xa), .second, .val (.int xb)] [])) ?_ (fun _ k => XS.ifNo X0.here hx rfl (hb hby own_d3_104) rfl ((if0 _ _).trans (teq hc104_13).2) k)
                refine own_go (T' := s₁) (f' := (mkF m 109 #[.val (.long xa), .second, .val (.int xb)] [(.int (6 : Int32))])) ?_ (fun _ k => XS.bipush X0.here hx rfl (hb hby own_d3_107) k)
                obtain ⟨fs14, hr14, hrun14, hended14, hW14, hsame14⟩ := X0.leave (v := some (.int (6 : Int32))) (fun h => by rw [Bd.returns] at h; cases h)
                refine ⟨_, ⟨_, hrun14, hended14, _, _, rfl, ?_, ⟨_, rfl⟩, hW14, hsame14.mono (by decide) (by decide)⟩, fun _ k => (retI X0 hx Bd.returns (hb hby own_d3_109) hr14).trans k⟩
                show own_Q3 Z xa xb h0 n0 _ s₁.heap _
                rw [e0]
                exact ⟨(congrArg (fun z => some (Value.int z)) (show (6 : Int32) = (own_f3 xa xb) from ((Eq.trans (if_neg hc8_1) (Eq.trans (if_neg hc24_3) (Eq.trans (if_neg hc40_5) (Eq.trans (if_neg hc56_7) (Eq.trans (if_neg hc72_9) (Eq.trans (if_neg hc88_11) (if_pos hc104_13)))))))).symm)), N0, rfl⟩
              · refine own_go (T' := s₁) (f' := (mkF m 110 #[.val (.long xa), .second, .val (.int xb)] [])) ?_ (fun _ k => XS.ifYes X0.here hx rfl (pc0 := 104) (pc' := 110) rfl (hb hby own_d3_104) rfl ((if0 _ _).trans (feq hc104_13).2) (by decide) (by decide) k)
                refine own_go (T' := s₁) (f' := (mkF m 111 #[.val (.long xa), .second, .val (.int xb)] [(.long xa)])) ?_ (fun _ k => XS.lloadN X0.here hx rfl (hb hby own_d3_110) rfl  k)
                refine own_go (T' := s₁) (f' := (mkF m 113 #[.val (.long xa), .second, .val (.int xb)] [(.int (56 : Int32)), (.long xa)])) ?_ (fun _ k => XS.bipush X0.here hx rfl (hb hby own_d3_111) k)
                refine own_go (T' := s₁) (f' := (mkF m 114 #[.val (.long xa), .second, .val (.int xb)] [(.long ((xa.toUInt64 >>> ((56 : Int32) &&& 0x3f).toInt64.toUInt64).toInt64))])) ?_ (fun _ k => XS.lushr X0.here hx rfl (hb hby own_d3_113) rfl k)
                refine own_go (T' := s₁) (f' := (mkF m 117 #[.val (.long xa), .second, .val (.int xb)] [(.long (255 : Int64)), (.long ((xa.toUInt64 >>> ((56 : Int32) &&& 0x3f).toInt64.toUInt64).toInt64))])) ?_ (X0.ldc2Long hx hown (mvT hZ (hw _ (List.mem_of_getElem? (i := 0) rfl))) (g := (mkF m 114 #[.val (.long xa), .second, .val (.int xb)] [(.long ((xa.toUInt64 >>> ((56 : Int32) &&& 0x3f).toInt64.toUInt64).toInt64))])) rfl (hb hby own_d3_114))
                refine own_go (T' := s₁) (f' := (mkF m 118 #[.val (.long xa), .second, .val (.int xb)] [(.long (((xa.toUInt64 >>> ((56 : Int32) &&& 0x3f).toInt64.toUInt64).toInt64) &&& (255 : Int64)))])) ?_ (fun _ k => XS.land X0.here hx rfl (hb hby own_d3_117) rfl k)
                refine own_go (T' := s₁) (f' := (mkF m 119 #[.val (.long xa), .second, .val (.int xb)] [(.int xb), (.long (((xa.toUInt64 >>> ((56 : Int32) &&& 0x3f).toInt64.toUInt64).toInt64) &&& (255 : Int64)))])) ?_ (fun _ k => XS.iloadN X0.here hx rfl (hb hby own_d3_118) rfl  k)
                refine own_go (T' := s₁) (f' := (mkF m 120 #[.val (.long xa), .second, .val (.int xb)] [(.long (xb.toInt64)), (.long (((xa.toUInt64 >>> ((56 : Int32) &&& 0x3f).toInt64.toUInt64).toInt64) &&& (255 : Int64)))])) ?_ (fun _ k => XS.i2l X0.here hx rfl (hb hby own_d3_119) rfl k)
                refine own_go (T' := s₁) (f' := (mkF m 121 #[.val (.long xa), .second, .val (.int xb)] [(.int (lcmpW (((xa.toUInt64 >>> ((56 : Int32) &&& 0x3f).toInt64.toUInt64).toInt64) &&& (255 : Int64)) (xb.toInt64)))])) ?_ (fun _ k => XS.lcmp X0.here hx rfl (hb hby own_d3_120) rfl k)
                by_cases hc121_15 : (lcmpW (((xa.toUInt64 >>> ((56 : Int32) &&& 0x3f).toInt64.toUInt64).toInt64) &&& (255 : Int64)) (xb.toInt64)) = (0 : Int32)
                · refine own_go (T' := s₁) (f' := (mkF m 124 #[.val (.long xa), .second, .val (.int xb)] [])) ?_ (fun _ k => XS.ifNo X0.here hx rfl (hb hby own_d3_121) rfl ((if0 _ _).trans (teq hc121_15).2) k)
                  refine own_go (T' := s₁) (f' := (mkF m 126 #[.val (.long xa), .second, .val (.int xb)] [(.int (7 : Int32))])) ?_ (fun _ k => XS.bipush X0.here hx rfl (hb hby own_d3_124) k)
                  obtain ⟨fs16, hr16, hrun16, hended16, hW16, hsame16⟩ := X0.leave (v := some (.int (7 : Int32))) (fun h => by rw [Bd.returns] at h; cases h)
                  refine ⟨_, ⟨_, hrun16, hended16, _, _, rfl, ?_, ⟨_, rfl⟩, hW16, hsame16.mono (by decide) (by decide)⟩, fun _ k => (retI X0 hx Bd.returns (hb hby own_d3_126) hr16).trans k⟩
                  show own_Q3 Z xa xb h0 n0 _ s₁.heap _
                  rw [e0]
                  exact ⟨(congrArg (fun z => some (Value.int z)) (show (7 : Int32) = (own_f3 xa xb) from ((Eq.trans (if_neg hc8_1) (Eq.trans (if_neg hc24_3) (Eq.trans (if_neg hc40_5) (Eq.trans (if_neg hc56_7) (Eq.trans (if_neg hc72_9) (Eq.trans (if_neg hc88_11) (Eq.trans (if_neg hc104_13) (if_pos hc121_15))))))))).symm)), N0, rfl⟩
                · refine own_go (T' := s₁) (f' := (mkF m 127 #[.val (.long xa), .second, .val (.int xb)] [])) ?_ (fun _ k => XS.ifYes X0.here hx rfl (pc0 := 121) (pc' := 127) rfl (hb hby own_d3_121) rfl ((if0 _ _).trans (feq hc121_15).2) (by decide) (by decide) k)
                  refine own_go (T' := s₁) (f' := (mkF m 129 #[.val (.long xa), .second, .val (.int xb)] [(.int (8 : Int32))])) ?_ (fun _ k => XS.bipush X0.here hx rfl (hb hby own_d3_127) k)
                  obtain ⟨fs17, hr17, hrun17, hended17, hW17, hsame17⟩ := X0.leave (v := some (.int (8 : Int32))) (fun h => by rw [Bd.returns] at h; cases h)
                  refine ⟨_, ⟨_, hrun17, hended17, _, _, rfl, ?_, ⟨_, rfl⟩, hW17, hsame17.mono (by decide) (by decide)⟩, fun _ k => (retI X0 hx Bd.returns (hb hby own_d3_129) hr17).trans k⟩
                  show own_Q3 Z xa xb h0 n0 _ s₁.heap _
                  rw [e0]
                  exact ⟨(congrArg (fun z => some (Value.int z)) (show (8 : Int32) = (own_f3 xa xb) from ((Eq.trans (if_neg hc8_1) (Eq.trans (if_neg hc24_3) (Eq.trans (if_neg hc40_5) (Eq.trans (if_neg hc56_7) (Eq.trans (if_neg hc72_9) (Eq.trans (if_neg hc88_11) (Eq.trans (if_neg hc104_13) (if_neg hc121_15))))))))).symm)), N0, rfl⟩
theorem own_pd0 : parseMethodDescriptor "(B)J" = some ⟨[.byte], some .long⟩ := by decide +kernel
theorem own_pd1 : parseMethodDescriptor "(JJ)J" = some ⟨[.long, .long], some .long⟩ := by decide +kernel
theorem own_pd2 : parseMethodDescriptor "(JI)I" = some ⟨[.long, .int], some .int⟩ := by decide +kernel
def own_v0_61 (xa : Int64) (xb : Int32) (xc : Int32) : Int64 := ((xa &&& (((255 : Int64) <<< (((xc &&& (7 : Int32)) * (8 : Int32)) &&& 0x3f).toInt64) ^^^ (-1 : Int64))) ||| (((xb &&& (255 : Int32)).toInt64) <<< (((xc &&& (7 : Int32)) * (8 : Int32)) &&& 0x3f).toInt64))
def own_v0_38_10 (xa : Int64) (xb : Int32) (xc : Int32) (xe : Int32) : Int64 := (if (xe &&& (3 : Int32)) < (1 : Int32) then xa else (own_v0_61 xa xb xc))
def own_v0_89 (xa : Int64) (xb : Int32) (xc : Int32) (xd : Int32) (xe : Int32) : Int64 := (((own_v0_38_10 xa xb xc xe) &&& (((255 : Int64) <<< (((xd &&& (7 : Int32)) * (8 : Int32)) &&& 0x3f).toInt64) ^^^ (-1 : Int64))) ||| (((xb &&& (255 : Int32)).toInt64) <<< (((xd &&& (7 : Int32)) * (8 : Int32)) &&& 0x3f).toInt64))
def own_v0_66_10 (xa : Int64) (xb : Int32) (xc : Int32) (xd : Int32) (xe : Int32) : Int64 := (if (xe &&& (3 : Int32)) < (2 : Int32) then (own_v0_38_10 xa xb xc xe) else (own_v0_89 xa xb xc xd xe))
def own_v0_105 (xa : Int64) (xb : Int32) (xc : Int32) (xd : Int32) (xe : Int32) : Int64 := (own_f2 (own_v0_66_10 xa xb xc xd xe) (own_f1 (xb.toInt8.toInt32)))
def own_v0_127 (xa : Int64) (xb : Int32) (xc : Int32) (xd : Int32) (xe : Int32) : Int32 := (own_f3 (own_v0_66_10 xa xb xc xd xe) (xb &&& (255 : Int32)))
def own_v0_140_s0 (xa : Int64) (xb : Int32) (xc : Int32) (xd : Int32) (xe : Int32) : Int32 := (if (lcmpW (own_v0_105 xa xb xc xd xe) (0 : Int64)) = (0 : Int32) then (1 : Int32) else (0 : Int32))
def own_v0_161 (xa : Int64) (xb : Int32) (xc : Int32) (xd : Int32) (xe : Int32) : Int64 := (((-1 : Int64).toUInt64 >>> (((56 : Int32) - ((8 : Int32) * (own_v0_127 xa xb xc xd xe))) &&& 0x3f).toInt64.toUInt64).toInt64)
def own_v0_179_s0 (xa : Int64) (xb : Int32) (xc : Int32) (xd : Int32) (xe : Int32) : Int32 := (if (lcmpW ((own_v0_105 xa xb xc xd xe) &&& (own_v0_161 xa xb xc xd xe)) ((1 : Int64) <<< ((((8 : Int32) * (own_v0_127 xa xb xc xd xe)) + (7 : Int32)) &&& 0x3f).toInt64)) = (0 : Int32) then (1 : Int32) else (0 : Int32))
def own_f0 (xa : Int64) (xb : Int32) (xc : Int32) (xd : Int32) (xe : Int32) : Int32 := (if (lcmpW ((own_v0_105 xa xb xc xd xe) &&& (9187201950435737471 : Int64)) (0 : Int64)) = (0 : Int32) then (if (own_v0_127 xa xb xc xd xe) = (8 : Int32) then (own_v0_140_s0 xa xb xc xd xe) else (own_v0_179_s0 xa xb xc xd xe)) else (0 : Int32))
theorem own_b0_140_s0 (xa : Int64) (xb : Int32) (xc : Int32) (xd : Int32) (xe : Int32) : (own_v0_140_s0 xa xb xc xd xe) &&& 1 = (own_v0_140_s0 xa xb xc xd xe) := (own_ite_bool (by decide) (by decide))
theorem own_b0_179_s0 (xa : Int64) (xb : Int32) (xc : Int32) (xd : Int32) (xe : Int32) : (own_v0_179_s0 xa xb xc xd xe) &&& 1 = (own_v0_179_s0 xa xb xc xd xe) := (own_ite_bool (by decide) (by decide))
theorem own_bf0 (xa : Int64) (xb : Int32) (xc : Int32) (xd : Int32) (xe : Int32) : (own_f0 xa xb xc xd xe) &&& 1 = (own_f0 xa xb xc xd xe) := (own_ite_bool (own_ite_bool (own_b0_140_s0 xa xb xc xd xe) (own_b0_179_s0 xa xb xc xd xe)) (by decide))
theorem own_ef0 (m : MethodId) (xa : Int64) (xb : Int32) (xc : Int32) (xd : Int32) (xe : Int32) : entryFrame m #[(.long xa), (.int xb), (.int xc), (.int xd), (.int xe)] maxLocals = mkF m 0 #[.val (.long xa), .second, .val (.int xb), .val (.int xc), .val (.int xd), .val (.int xe), .unset, .unset, .unset, .unset, .unset, .unset, .unset, .unset, .unset, .unset, .unset, .unset, .unset] [] := by first | (simp [entryFrame, mkF, argsToLocals, Value.category, maxLocals]; done) | rfl
def own_Q0 (Z : State) (xa : Int64) (xb : Int32) (xc : Int32) (xd : Int32) (xe : Int32) (h0 : Heap) (n0 : Nat) (v : Option Value) (h : Heap) (L : List Loc) : Prop := v = some (.int (own_f0 xa xb xc xd xe)) ∧ Fr n0 L
set_option maxRecDepth 65536 in
set_option maxHeartbeats 40000000 in
theorem own_rm0 (l : Launch) (Z : State) (a0 : Array Value) (hw : ∀ d ∈ tables_1, d.before a0 Z = true) (ws : List Jvm.Cond) (xa : Int64) (xb : Int32) (xc : Int32) (xd : Int32) (xe : Int32) (h0 : Heap) (n0 : Nat) (Z0 : n0 ≤ h0.size) :
    MetFree l x (head1 (Jvm.Cond.code x code maxLocals ret :: ws) room_1) (fun a U => a = #[(.long xa), (.int xb), (.int xc), (.int xd), (.int xe)] ∧ Z.Warmed39 U.vm ∧ U.heap = h0) (fun _ _ _ _ _ => True) (fun _ U o U' => ∃ v L, o = .returned v ∧ own_Q0 Z xa xb xc xd xe h0 n0 v U'.heap L ∧ FrameEnd U o U' L 0 0) := by
  refine MetFree.of_bodySF (plainFor_of_name own_pn1) hisR ?_
  intro p e s m args below meth c s₁ Bd hml0 hP hK
  obtain ⟨rfl, hZ, hh⟩ := hP
  have hx := Bd.exec
  have hby := Bd.bytes
  have hml : c.maxLocals = 19 := hml0
  have hown : s.vm.findClass "com/example/eben/eben/io/ByteWordsMatchesPinLaw" = some m.cls := findClass_of_methodNamed Bd.named
  have hnm := (name_of_methodNamed Bd.named Bd.method).1
  have X0 : Stand p l e room_1 s m #[(.long xa), (.int xb), (.int xc), (.int xd), (.int xe)] below meth c s₁ [] 0 0 := Stand.of_body Bd
  have e0 : s₁.heap = h0 := by rw [← hh, Bd.state]; rfl
  have N0 := Fr.nil n0
  refine own_out (Q := fun o U' => ∃ v L, o = .returned v ∧ own_Q0 Z xa xb xc xd xe h0 n0 v U'.heap L ∧ FrameEnd s o U' L 0 0) ?_
  refine own_go (T' := s₁) (f' := (mkF m 0 #[.val (.long xa), .second, .val (.int xb), .val (.int xc), .val (.int xd), .val (.int xe), .unset, .unset, .unset, .unset, .unset, .unset, .unset, .unset, .unset, .unset, .unset, .unset, .unset] [])) ?_ (fun _ k => castTop (own_ef0 m xa xb xc xd xe) k)
  refine own_go (T' := s₁) (f' := (mkF m 1 #[.val (.long xa), .second, .val (.int xb), .val (.int xc), .val (.int xd), .val (.int xe), .unset, .unset, .unset, .unset, .unset, .unset, .unset, .unset, .unset, .unset, .unset, .unset, .unset] [(.int xb)])) ?_ (fun _ k => XS.iloadN X0.here hx rfl (hb hby at_0) rfl  k)
  refine own_go (T' := s₁) (f' := (mkF m 4 #[.val (.long xa), .second, .val (.int xb), .val (.int xc), .val (.int xd), .val (.int xe), .unset, .unset, .unset, .unset, .unset, .unset, .unset, .unset, .unset, .unset, .unset, .unset, .unset] [(.int (255 : Int32)), (.int xb)])) ?_ (fun _ k => XS.sipush X0.here hx rfl (hb hby at_1) k)
  refine own_go (T' := s₁) (f' := (mkF m 5 #[.val (.long xa), .second, .val (.int xb), .val (.int xc), .val (.int xd), .val (.int xe), .unset, .unset, .unset, .unset, .unset, .unset, .unset, .unset, .unset, .unset, .unset, .unset, .unset] [(.int (xb &&& (255 : Int32)))])) ?_ (fun _ k => XS.iand X0.here hx rfl (hb hby at_4) rfl k)
  refine own_go (T' := s₁) (f' := (mkF m 7 #[.val (.long xa), .second, .val (.int xb), .val (.int xc), .val (.int xd), .val (.int xe), .val (.int (xb &&& (255 : Int32))), .unset, .unset, .unset, .unset, .unset, .unset, .unset, .unset, .unset, .unset, .unset, .unset] [])) ?_ (fun _ k => XS.istore X0.here hx rfl (hb hby at_5) rfl (l' := #[.val (.long xa), .second, .val (.int xb), .val (.int xc), .val (.int xd), .val (.int xe), .val (.int (xb &&& (255 : Int32))), .unset, .unset, .unset, .unset, .unset, .unset, .unset, .unset, .unset, .unset, .unset, .unset]) rfl k)
  refine own_go (T' := s₁) (f' := (mkF m 8 #[.val (.long xa), .second, .val (.int xb), .val (.int xc), .val (.int xd), .val (.int xe), .val (.int (xb &&& (255 : Int32))), .unset, .unset, .unset, .unset, .unset, .unset, .unset, .unset, .unset, .unset, .unset, .unset] [(.int xc)])) ?_ (fun _ k => XS.iloadN X0.here hx rfl (hb hby at_7) rfl  k)
  refine own_go (T' := s₁) (f' := (mkF m 10 #[.val (.long xa), .second, .val (.int xb), .val (.int xc), .val (.int xd), .val (.int xe), .val (.int (xb &&& (255 : Int32))), .unset, .unset, .unset, .unset, .unset, .unset, .unset, .unset, .unset, .unset, .unset, .unset] [(.int (7 : Int32)), (.int xc)])) ?_ (fun _ k => XS.bipush X0.here hx rfl (hb hby at_8) k)
  refine own_go (T' := s₁) (f' := (mkF m 11 #[.val (.long xa), .second, .val (.int xb), .val (.int xc), .val (.int xd), .val (.int xe), .val (.int (xb &&& (255 : Int32))), .unset, .unset, .unset, .unset, .unset, .unset, .unset, .unset, .unset, .unset, .unset, .unset] [(.int (xc &&& (7 : Int32)))])) ?_ (fun _ k => XS.iand X0.here hx rfl (hb hby at_10) rfl k)
  refine own_go (T' := s₁) (f' := (mkF m 13 #[.val (.long xa), .second, .val (.int xb), .val (.int xc), .val (.int xd), .val (.int xe), .val (.int (xb &&& (255 : Int32))), .unset, .unset, .unset, .unset, .unset, .unset, .unset, .unset, .unset, .unset, .unset, .unset] [(.int (8 : Int32)), (.int (xc &&& (7 : Int32)))])) ?_ (fun _ k => XS.bipush X0.here hx rfl (hb hby at_11) k)
  refine own_go (T' := s₁) (f' := (mkF m 14 #[.val (.long xa), .second, .val (.int xb), .val (.int xc), .val (.int xd), .val (.int xe), .val (.int (xb &&& (255 : Int32))), .unset, .unset, .unset, .unset, .unset, .unset, .unset, .unset, .unset, .unset, .unset, .unset] [(.int ((xc &&& (7 : Int32)) * (8 : Int32)))])) ?_ (fun _ k => XS.imul X0.here hx rfl (hb hby at_13) rfl k)
  refine own_go (T' := s₁) (f' := (mkF m 16 #[.val (.long xa), .second, .val (.int xb), .val (.int xc), .val (.int xd), .val (.int xe), .val (.int (xb &&& (255 : Int32))), .val (.int ((xc &&& (7 : Int32)) * (8 : Int32))), .unset, .unset, .unset, .unset, .unset, .unset, .unset, .unset, .unset, .unset, .unset] [])) ?_ (fun _ k => XS.istore X0.here hx rfl (hb hby at_14) rfl (l' := #[.val (.long xa), .second, .val (.int xb), .val (.int xc), .val (.int xd), .val (.int xe), .val (.int (xb &&& (255 : Int32))), .val (.int ((xc &&& (7 : Int32)) * (8 : Int32))), .unset, .unset, .unset, .unset, .unset, .unset, .unset, .unset, .unset, .unset, .unset]) rfl k)
  refine own_go (T' := s₁) (f' := (mkF m 18 #[.val (.long xa), .second, .val (.int xb), .val (.int xc), .val (.int xd), .val (.int xe), .val (.int (xb &&& (255 : Int32))), .val (.int ((xc &&& (7 : Int32)) * (8 : Int32))), .unset, .unset, .unset, .unset, .unset, .unset, .unset, .unset, .unset, .unset, .unset] [(.int xd)])) ?_ (fun _ k => XS.iload X0.here hx rfl (hb hby at_16) rfl  k)
  refine own_go (T' := s₁) (f' := (mkF m 20 #[.val (.long xa), .second, .val (.int xb), .val (.int xc), .val (.int xd), .val (.int xe), .val (.int (xb &&& (255 : Int32))), .val (.int ((xc &&& (7 : Int32)) * (8 : Int32))), .unset, .unset, .unset, .unset, .unset, .unset, .unset, .unset, .unset, .unset, .unset] [(.int (7 : Int32)), (.int xd)])) ?_ (fun _ k => XS.bipush X0.here hx rfl (hb hby at_18) k)
  refine own_go (T' := s₁) (f' := (mkF m 21 #[.val (.long xa), .second, .val (.int xb), .val (.int xc), .val (.int xd), .val (.int xe), .val (.int (xb &&& (255 : Int32))), .val (.int ((xc &&& (7 : Int32)) * (8 : Int32))), .unset, .unset, .unset, .unset, .unset, .unset, .unset, .unset, .unset, .unset, .unset] [(.int (xd &&& (7 : Int32)))])) ?_ (fun _ k => XS.iand X0.here hx rfl (hb hby at_20) rfl k)
  refine own_go (T' := s₁) (f' := (mkF m 23 #[.val (.long xa), .second, .val (.int xb), .val (.int xc), .val (.int xd), .val (.int xe), .val (.int (xb &&& (255 : Int32))), .val (.int ((xc &&& (7 : Int32)) * (8 : Int32))), .unset, .unset, .unset, .unset, .unset, .unset, .unset, .unset, .unset, .unset, .unset] [(.int (8 : Int32)), (.int (xd &&& (7 : Int32)))])) ?_ (fun _ k => XS.bipush X0.here hx rfl (hb hby at_21) k)
  refine own_go (T' := s₁) (f' := (mkF m 24 #[.val (.long xa), .second, .val (.int xb), .val (.int xc), .val (.int xd), .val (.int xe), .val (.int (xb &&& (255 : Int32))), .val (.int ((xc &&& (7 : Int32)) * (8 : Int32))), .unset, .unset, .unset, .unset, .unset, .unset, .unset, .unset, .unset, .unset, .unset] [(.int ((xd &&& (7 : Int32)) * (8 : Int32)))])) ?_ (fun _ k => XS.imul X0.here hx rfl (hb hby at_23) rfl k)
  refine own_go (T' := s₁) (f' := (mkF m 26 #[.val (.long xa), .second, .val (.int xb), .val (.int xc), .val (.int xd), .val (.int xe), .val (.int (xb &&& (255 : Int32))), .val (.int ((xc &&& (7 : Int32)) * (8 : Int32))), .val (.int ((xd &&& (7 : Int32)) * (8 : Int32))), .unset, .unset, .unset, .unset, .unset, .unset, .unset, .unset, .unset, .unset] [])) ?_ (fun _ k => XS.istore X0.here hx rfl (hb hby at_24) rfl (l' := #[.val (.long xa), .second, .val (.int xb), .val (.int xc), .val (.int xd), .val (.int xe), .val (.int (xb &&& (255 : Int32))), .val (.int ((xc &&& (7 : Int32)) * (8 : Int32))), .val (.int ((xd &&& (7 : Int32)) * (8 : Int32))), .unset, .unset, .unset, .unset, .unset, .unset, .unset, .unset, .unset, .unset]) rfl k)
  refine own_go (T' := s₁) (f' := (mkF m 28 #[.val (.long xa), .second, .val (.int xb), .val (.int xc), .val (.int xd), .val (.int xe), .val (.int (xb &&& (255 : Int32))), .val (.int ((xc &&& (7 : Int32)) * (8 : Int32))), .val (.int ((xd &&& (7 : Int32)) * (8 : Int32))), .unset, .unset, .unset, .unset, .unset, .unset, .unset, .unset, .unset, .unset] [(.int xe)])) ?_ (fun _ k => XS.iload X0.here hx rfl (hb hby at_26) rfl  k)
  refine own_go (T' := s₁) (f' := (mkF m 29 #[.val (.long xa), .second, .val (.int xb), .val (.int xc), .val (.int xd), .val (.int xe), .val (.int (xb &&& (255 : Int32))), .val (.int ((xc &&& (7 : Int32)) * (8 : Int32))), .val (.int ((xd &&& (7 : Int32)) * (8 : Int32))), .unset, .unset, .unset, .unset, .unset, .unset, .unset, .unset, .unset, .unset] [(.int (3 : Int32)), (.int xe)])) ?_ (fun _ k => XS.iconst X0.here hx rfl (hb hby at_28) k)
  refine own_go (T' := s₁) (f' := (mkF m 30 #[.val (.long xa), .second, .val (.int xb), .val (.int xc), .val (.int xd), .val (.int xe), .val (.int (xb &&& (255 : Int32))), .val (.int ((xc &&& (7 : Int32)) * (8 : Int32))), .val (.int ((xd &&& (7 : Int32)) * (8 : Int32))), .unset, .unset, .unset, .unset, .unset, .unset, .unset, .unset, .unset, .unset] [(.int (xe &&& (3 : Int32)))])) ?_ (fun _ k => XS.iand X0.here hx rfl (hb hby at_29) rfl k)
  refine own_go (T' := s₁) (f' := (mkF m 32 #[.val (.long xa), .second, .val (.int xb), .val (.int xc), .val (.int xd), .val (.int xe), .val (.int (xb &&& (255 : Int32))), .val (.int ((xc &&& (7 : Int32)) * (8 : Int32))), .val (.int ((xd &&& (7 : Int32)) * (8 : Int32))), .val (.int (xe &&& (3 : Int32))), .unset, .unset, .unset, .unset, .unset, .unset, .unset, .unset, .unset] [])) ?_ (fun _ k => XS.istore X0.here hx rfl (hb hby at_30) rfl (l' := #[.val (.long xa), .second, .val (.int xb), .val (.int xc), .val (.int xd), .val (.int xe), .val (.int (xb &&& (255 : Int32))), .val (.int ((xc &&& (7 : Int32)) * (8 : Int32))), .val (.int ((xd &&& (7 : Int32)) * (8 : Int32))), .val (.int (xe &&& (3 : Int32))), .unset, .unset, .unset, .unset, .unset, .unset, .unset, .unset, .unset]) rfl k)
  refine own_go (T' := s₁) (f' := (mkF m 33 #[.val (.long xa), .second, .val (.int xb), .val (.int xc), .val (.int xd), .val (.int xe), .val (.int (xb &&& (255 : Int32))), .val (.int ((xc &&& (7 : Int32)) * (8 : Int32))), .val (.int ((xd &&& (7 : Int32)) * (8 : Int32))), .val (.int (xe &&& (3 : Int32))), .unset, .unset, .unset, .unset, .unset, .unset, .unset, .unset, .unset] [(.long xa)])) ?_ (fun _ k => XS.lloadN X0.here hx rfl (hb hby at_32) rfl  k)
  refine own_go (T' := s₁) (f' := (mkF m 35 #[.val (.long xa), .second, .val (.int xb), .val (.int xc), .val (.int xd), .val (.int xe), .val (.int (xb &&& (255 : Int32))), .val (.int ((xc &&& (7 : Int32)) * (8 : Int32))), .val (.int ((xd &&& (7 : Int32)) * (8 : Int32))), .val (.int (xe &&& (3 : Int32))), .val (.long xa), .second, .unset, .unset, .unset, .unset, .unset, .unset, .unset] [])) ?_ (fun _ k => XS.lstore X0.here hx rfl (hb hby at_33) rfl (l' := #[.val (.long xa), .second, .val (.int xb), .val (.int xc), .val (.int xd), .val (.int xe), .val (.int (xb &&& (255 : Int32))), .val (.int ((xc &&& (7 : Int32)) * (8 : Int32))), .val (.int ((xd &&& (7 : Int32)) * (8 : Int32))), .val (.int (xe &&& (3 : Int32))), .val (.long xa), .second, .unset, .unset, .unset, .unset, .unset, .unset, .unset]) rfl k)
  refine own_go (T' := s₁) (f' := (mkF m 37 #[.val (.long xa), .second, .val (.int xb), .val (.int xc), .val (.int xd), .val (.int xe), .val (.int (xb &&& (255 : Int32))), .val (.int ((xc &&& (7 : Int32)) * (8 : Int32))), .val (.int ((xd &&& (7 : Int32)) * (8 : Int32))), .val (.int (xe &&& (3 : Int32))), .val (.long xa), .second, .unset, .unset, .unset, .unset, .unset, .unset, .unset] [(.int (xe &&& (3 : Int32)))])) ?_ (fun _ k => XS.iload X0.here hx rfl (hb hby at_35) rfl  k)
  refine own_go (T' := s₁) (f' := (mkF m 38 #[.val (.long xa), .second, .val (.int xb), .val (.int xc), .val (.int xd), .val (.int xe), .val (.int (xb &&& (255 : Int32))), .val (.int ((xc &&& (7 : Int32)) * (8 : Int32))), .val (.int ((xd &&& (7 : Int32)) * (8 : Int32))), .val (.int (xe &&& (3 : Int32))), .val (.long xa), .second, .unset, .unset, .unset, .unset, .unset, .unset, .unset] [(.int (1 : Int32)), (.int (xe &&& (3 : Int32)))])) ?_ (fun _ k => XS.iconst X0.here hx rfl (hb hby at_37) k)
  obtain ⟨_, ⟨T1, L1, rfl, X1, e1, N1⟩, mg1⟩ : own_Goes p.tables e below (fun uu => ∃ (T' : State) (L' : List Loc), uu = T'.setTop (mkF m 63 #[.val (.long xa), .second, .val (.int xb), .val (.int xc), .val (.int xd), .val (.int xe), .val (.int (xb &&& (255 : Int32))), .val (.int ((xc &&& (7 : Int32)) * (8 : Int32))), .val (.int ((xd &&& (7 : Int32)) * (8 : Int32))), .val (.int (xe &&& (3 : Int32))), .val (.long (own_v0_38_10 xa xb xc xe)), .second, .unset, .unset, .unset, .unset, .unset, .unset, .unset] []) ∧ Stand p l e room_1 s m #[(.long xa), (.int xb), (.int xc), (.int xd), (.int xe)] below meth c T' L' 0 0 ∧ T'.heap = h0 ∧ Fr n0 L') s₁ (mkF m 38 #[.val (.long xa), .second, .val (.int xb), .val (.int xc), .val (.int xd), .val (.int xe), .val (.int (xb &&& (255 : Int32))), .val (.int ((xc &&& (7 : Int32)) * (8 : Int32))), .val (.int ((xd &&& (7 : Int32)) * (8 : Int32))), .val (.int (xe &&& (3 : Int32))), .val (.long xa), .second, .unset, .unset, .unset, .unset, .unset, .unset, .unset] [(.int (1 : Int32)), (.int (xe &&& (3 : Int32)))]) := by
    by_cases hc38_2 : (xe &&& (3 : Int32)) < (1 : Int32)
    · refine own_go (T' := s₁) (f' := (mkF m 63 #[.val (.long xa), .second, .val (.int xb), .val (.int xc), .val (.int xd), .val (.int xe), .val (.int (xb &&& (255 : Int32))), .val (.int ((xc &&& (7 : Int32)) * (8 : Int32))), .val (.int ((xd &&& (7 : Int32)) * (8 : Int32))), .val (.int (xe &&& (3 : Int32))), .val (.long xa), .second, .unset, .unset, .unset, .unset, .unset, .unset, .unset] [])) ?_ (fun _ k => XS.icmpYes X0.here hx rfl (pc0 := 38) (pc' := 63) rfl (hb hby at_38) rfl (tlt hc38_2).1 (by decide) (by decide) k)
      have em3 : (own_v0_38_10 xa xb xc xe) = xa := (if_pos hc38_2)
      exact ⟨_, ⟨s₁, _, (by rw [em3]), X0, e0, N0⟩, fun _ k => k⟩
    · refine own_go (T' := s₁) (f' := (mkF m 41 #[.val (.long xa), .second, .val (.int xb), .val (.int xc), .val (.int xd), .val (.int xe), .val (.int (xb &&& (255 : Int32))), .val (.int ((xc &&& (7 : Int32)) * (8 : Int32))), .val (.int ((xd &&& (7 : Int32)) * (8 : Int32))), .val (.int (xe &&& (3 : Int32))), .val (.long xa), .second, .unset, .unset, .unset, .unset, .unset, .unset, .unset] [])) ?_ (fun _ k => XS.icmpNo X0.here hx rfl (hb hby at_38) rfl (flt hc38_2).1 k)
      refine own_go (T' := s₁) (f' := (mkF m 43 #[.val (.long xa), .second, .val (.int xb), .val (.int xc), .val (.int xd), .val (.int xe), .val (.int (xb &&& (255 : Int32))), .val (.int ((xc &&& (7 : Int32)) * (8 : Int32))), .val (.int ((xd &&& (7 : Int32)) * (8 : Int32))), .val (.int (xe &&& (3 : Int32))), .val (.long xa), .second, .unset, .unset, .unset, .unset, .unset, .unset, .unset] [(.long xa)])) ?_ (fun _ k => XS.lload X0.here hx rfl (hb hby at_41) rfl  k)
      refine own_go (T' := s₁) (f' := (mkF m 46 #[.val (.long xa), .second, .val (.int xb), .val (.int xc), .val (.int xd), .val (.int xe), .val (.int (xb &&& (255 : Int32))), .val (.int ((xc &&& (7 : Int32)) * (8 : Int32))), .val (.int ((xd &&& (7 : Int32)) * (8 : Int32))), .val (.int (xe &&& (3 : Int32))), .val (.long xa), .second, .unset, .unset, .unset, .unset, .unset, .unset, .unset] [(.long (255 : Int64)), (.long xa)])) ?_ (X0.ldc2Long hx hown (mvT hZ (hw _ (List.mem_of_getElem? (i := 0) rfl))) (g := (mkF m 43 #[.val (.long xa), .second, .val (.int xb), .val (.int xc), .val (.int xd), .val (.int xe), .val (.int (xb &&& (255 : Int32))), .val (.int ((xc &&& (7 : Int32)) * (8 : Int32))), .val (.int ((xd &&& (7 : Int32)) * (8 : Int32))), .val (.int (xe &&& (3 : Int32))), .val (.long xa), .second, .unset, .unset, .unset, .unset, .unset, .unset, .unset] [(.long xa)])) rfl (hb hby at_43))
      refine own_go (T' := s₁) (f' := (mkF m 48 #[.val (.long xa), .second, .val (.int xb), .val (.int xc), .val (.int xd), .val (.int xe), .val (.int (xb &&& (255 : Int32))), .val (.int ((xc &&& (7 : Int32)) * (8 : Int32))), .val (.int ((xd &&& (7 : Int32)) * (8 : Int32))), .val (.int (xe &&& (3 : Int32))), .val (.long xa), .second, .unset, .unset, .unset, .unset, .unset, .unset, .unset] [(.int ((xc &&& (7 : Int32)) * (8 : Int32))), (.long (255 : Int64)), (.long xa)])) ?_ (fun _ k => XS.iload X0.here hx rfl (hb hby at_46) rfl  k)
      refine own_go (T' := s₁) (f' := (mkF m 49 #[.val (.long xa), .second, .val (.int xb), .val (.int xc), .val (.int xd), .val (.int xe), .val (.int (xb &&& (255 : Int32))), .val (.int ((xc &&& (7 : Int32)) * (8 : Int32))), .val (.int ((xd &&& (7 : Int32)) * (8 : Int32))), .val (.int (xe &&& (3 : Int32))), .val (.long xa), .second, .unset, .unset, .unset, .unset, .unset, .unset, .unset] [(.long ((255 : Int64) <<< (((xc &&& (7 : Int32)) * (8 : Int32)) &&& 0x3f).toInt64)), (.long xa)])) ?_ (fun _ k => XS.lshl X0.here hx rfl (hb hby at_48) rfl k)
      refine own_go (T' := s₁) (f' := (mkF m 52 #[.val (.long xa), .second, .val (.int xb), .val (.int xc), .val (.int xd), .val (.int xe), .val (.int (xb &&& (255 : Int32))), .val (.int ((xc &&& (7 : Int32)) * (8 : Int32))), .val (.int ((xd &&& (7 : Int32)) * (8 : Int32))), .val (.int (xe &&& (3 : Int32))), .val (.long xa), .second, .unset, .unset, .unset, .unset, .unset, .unset, .unset] [(.long (-1 : Int64)), (.long ((255 : Int64) <<< (((xc &&& (7 : Int32)) * (8 : Int32)) &&& 0x3f).toInt64)), (.long xa)])) ?_ (X0.ldc2Long hx hown (mvT hZ (hw _ (List.mem_of_getElem? (i := 1) rfl))) (g := (mkF m 49 #[.val (.long xa), .second, .val (.int xb), .val (.int xc), .val (.int xd), .val (.int xe), .val (.int (xb &&& (255 : Int32))), .val (.int ((xc &&& (7 : Int32)) * (8 : Int32))), .val (.int ((xd &&& (7 : Int32)) * (8 : Int32))), .val (.int (xe &&& (3 : Int32))), .val (.long xa), .second, .unset, .unset, .unset, .unset, .unset, .unset, .unset] [(.long ((255 : Int64) <<< (((xc &&& (7 : Int32)) * (8 : Int32)) &&& 0x3f).toInt64)), (.long xa)])) rfl (hb hby at_49))
      refine own_go (T' := s₁) (f' := (mkF m 53 #[.val (.long xa), .second, .val (.int xb), .val (.int xc), .val (.int xd), .val (.int xe), .val (.int (xb &&& (255 : Int32))), .val (.int ((xc &&& (7 : Int32)) * (8 : Int32))), .val (.int ((xd &&& (7 : Int32)) * (8 : Int32))), .val (.int (xe &&& (3 : Int32))), .val (.long xa), .second, .unset, .unset, .unset, .unset, .unset, .unset, .unset] [(.long (((255 : Int64) <<< (((xc &&& (7 : Int32)) * (8 : Int32)) &&& 0x3f).toInt64) ^^^ (-1 : Int64))), (.long xa)])) ?_ (fun _ k => XS.lxor X0.here hx rfl (hb hby at_52) rfl k)
      refine own_go (T' := s₁) (f' := (mkF m 54 #[.val (.long xa), .second, .val (.int xb), .val (.int xc), .val (.int xd), .val (.int xe), .val (.int (xb &&& (255 : Int32))), .val (.int ((xc &&& (7 : Int32)) * (8 : Int32))), .val (.int ((xd &&& (7 : Int32)) * (8 : Int32))), .val (.int (xe &&& (3 : Int32))), .val (.long xa), .second, .unset, .unset, .unset, .unset, .unset, .unset, .unset] [(.long (xa &&& (((255 : Int64) <<< (((xc &&& (7 : Int32)) * (8 : Int32)) &&& 0x3f).toInt64) ^^^ (-1 : Int64))))])) ?_ (fun _ k => XS.land X0.here hx rfl (hb hby at_53) rfl k)
      refine own_go (T' := s₁) (f' := (mkF m 56 #[.val (.long xa), .second, .val (.int xb), .val (.int xc), .val (.int xd), .val (.int xe), .val (.int (xb &&& (255 : Int32))), .val (.int ((xc &&& (7 : Int32)) * (8 : Int32))), .val (.int ((xd &&& (7 : Int32)) * (8 : Int32))), .val (.int (xe &&& (3 : Int32))), .val (.long xa), .second, .unset, .unset, .unset, .unset, .unset, .unset, .unset] [(.int (xb &&& (255 : Int32))), (.long (xa &&& (((255 : Int64) <<< (((xc &&& (7 : Int32)) * (8 : Int32)) &&& 0x3f).toInt64) ^^^ (-1 : Int64))))])) ?_ (fun _ k => XS.iload X0.here hx rfl (hb hby at_54) rfl  k)
      refine own_go (T' := s₁) (f' := (mkF m 57 #[.val (.long xa), .second, .val (.int xb), .val (.int xc), .val (.int xd), .val (.int xe), .val (.int (xb &&& (255 : Int32))), .val (.int ((xc &&& (7 : Int32)) * (8 : Int32))), .val (.int ((xd &&& (7 : Int32)) * (8 : Int32))), .val (.int (xe &&& (3 : Int32))), .val (.long xa), .second, .unset, .unset, .unset, .unset, .unset, .unset, .unset] [(.long ((xb &&& (255 : Int32)).toInt64)), (.long (xa &&& (((255 : Int64) <<< (((xc &&& (7 : Int32)) * (8 : Int32)) &&& 0x3f).toInt64) ^^^ (-1 : Int64))))])) ?_ (fun _ k => XS.i2l X0.here hx rfl (hb hby at_56) rfl k)
      refine own_go (T' := s₁) (f' := (mkF m 59 #[.val (.long xa), .second, .val (.int xb), .val (.int xc), .val (.int xd), .val (.int xe), .val (.int (xb &&& (255 : Int32))), .val (.int ((xc &&& (7 : Int32)) * (8 : Int32))), .val (.int ((xd &&& (7 : Int32)) * (8 : Int32))), .val (.int (xe &&& (3 : Int32))), .val (.long xa), .second, .unset, .unset, .unset, .unset, .unset, .unset, .unset] [(.int ((xc &&& (7 : Int32)) * (8 : Int32))), (.long ((xb &&& (255 : Int32)).toInt64)), (.long (xa &&& (((255 : Int64) <<< (((xc &&& (7 : Int32)) * (8 : Int32)) &&& 0x3f).toInt64) ^^^ (-1 : Int64))))])) ?_ (fun _ k => XS.iload X0.here hx rfl (hb hby at_57) rfl  k)
      refine own_go (T' := s₁) (f' := (mkF m 60 #[.val (.long xa), .second, .val (.int xb), .val (.int xc), .val (.int xd), .val (.int xe), .val (.int (xb &&& (255 : Int32))), .val (.int ((xc &&& (7 : Int32)) * (8 : Int32))), .val (.int ((xd &&& (7 : Int32)) * (8 : Int32))), .val (.int (xe &&& (3 : Int32))), .val (.long xa), .second, .unset, .unset, .unset, .unset, .unset, .unset, .unset] [(.long (((xb &&& (255 : Int32)).toInt64) <<< (((xc &&& (7 : Int32)) * (8 : Int32)) &&& 0x3f).toInt64)), (.long (xa &&& (((255 : Int64) <<< (((xc &&& (7 : Int32)) * (8 : Int32)) &&& 0x3f).toInt64) ^^^ (-1 : Int64))))])) ?_ (fun _ k => XS.lshl X0.here hx rfl (hb hby at_59) rfl k)
      refine own_go (T' := s₁) (f' := (mkF m 61 #[.val (.long xa), .second, .val (.int xb), .val (.int xc), .val (.int xd), .val (.int xe), .val (.int (xb &&& (255 : Int32))), .val (.int ((xc &&& (7 : Int32)) * (8 : Int32))), .val (.int ((xd &&& (7 : Int32)) * (8 : Int32))), .val (.int (xe &&& (3 : Int32))), .val (.long xa), .second, .unset, .unset, .unset, .unset, .unset, .unset, .unset] [(.long ((xa &&& (((255 : Int64) <<< (((xc &&& (7 : Int32)) * (8 : Int32)) &&& 0x3f).toInt64) ^^^ (-1 : Int64))) ||| (((xb &&& (255 : Int32)).toInt64) <<< (((xc &&& (7 : Int32)) * (8 : Int32)) &&& 0x3f).toInt64)))])) ?_ (fun _ k => XS.lor X0.here hx rfl (hb hby at_60) rfl k)
      refine own_go (T' := s₁) (f' := (mkF m 63 #[.val (.long xa), .second, .val (.int xb), .val (.int xc), .val (.int xd), .val (.int xe), .val (.int (xb &&& (255 : Int32))), .val (.int ((xc &&& (7 : Int32)) * (8 : Int32))), .val (.int ((xd &&& (7 : Int32)) * (8 : Int32))), .val (.int (xe &&& (3 : Int32))), .val (.long (own_v0_61 xa xb xc)), .second, .unset, .unset, .unset, .unset, .unset, .unset, .unset] [])) ?_ (fun _ k => XS.lstore X0.here hx rfl (hb hby at_61) rfl (l' := #[.val (.long xa), .second, .val (.int xb), .val (.int xc), .val (.int xd), .val (.int xe), .val (.int (xb &&& (255 : Int32))), .val (.int ((xc &&& (7 : Int32)) * (8 : Int32))), .val (.int ((xd &&& (7 : Int32)) * (8 : Int32))), .val (.int (xe &&& (3 : Int32))), .val (.long (own_v0_61 xa xb xc)), .second, .unset, .unset, .unset, .unset, .unset, .unset, .unset]) rfl k)
      have em4 : (own_v0_38_10 xa xb xc xe) = (own_v0_61 xa xb xc) := (if_neg hc38_2)
      exact ⟨_, ⟨s₁, _, (by rw [em4]), X0, e0, N0⟩, fun _ k => k⟩
  refine own_go (T' := T1) (f' := (mkF m 63 #[.val (.long xa), .second, .val (.int xb), .val (.int xc), .val (.int xd), .val (.int xe), .val (.int (xb &&& (255 : Int32))), .val (.int ((xc &&& (7 : Int32)) * (8 : Int32))), .val (.int ((xd &&& (7 : Int32)) * (8 : Int32))), .val (.int (xe &&& (3 : Int32))), .val (.long (own_v0_38_10 xa xb xc xe)), .second, .unset, .unset, .unset, .unset, .unset, .unset, .unset] [])) ?_ (mg1)
  refine own_go (T' := T1) (f' := (mkF m 65 #[.val (.long xa), .second, .val (.int xb), .val (.int xc), .val (.int xd), .val (.int xe), .val (.int (xb &&& (255 : Int32))), .val (.int ((xc &&& (7 : Int32)) * (8 : Int32))), .val (.int ((xd &&& (7 : Int32)) * (8 : Int32))), .val (.int (xe &&& (3 : Int32))), .val (.long (own_v0_38_10 xa xb xc xe)), .second, .unset, .unset, .unset, .unset, .unset, .unset, .unset] [(.int (xe &&& (3 : Int32)))])) ?_ (fun _ k => XS.iload X1.here hx rfl (hb hby at_63) rfl  k)
  refine own_go (T' := T1) (f' := (mkF m 66 #[.val (.long xa), .second, .val (.int xb), .val (.int xc), .val (.int xd), .val (.int xe), .val (.int (xb &&& (255 : Int32))), .val (.int ((xc &&& (7 : Int32)) * (8 : Int32))), .val (.int ((xd &&& (7 : Int32)) * (8 : Int32))), .val (.int (xe &&& (3 : Int32))), .val (.long (own_v0_38_10 xa xb xc xe)), .second, .unset, .unset, .unset, .unset, .unset, .unset, .unset] [(.int (2 : Int32)), (.int (xe &&& (3 : Int32)))])) ?_ (fun _ k => XS.iconst X1.here hx rfl (hb hby at_65) k)
  obtain ⟨_, ⟨T5, L5, rfl, X5, e5, N5⟩, mg5⟩ : own_Goes p.tables e below (fun uu => ∃ (T' : State) (L' : List Loc), uu = T'.setTop (mkF m 91 #[.val (.long xa), .second, .val (.int xb), .val (.int xc), .val (.int xd), .val (.int xe), .val (.int (xb &&& (255 : Int32))), .val (.int ((xc &&& (7 : Int32)) * (8 : Int32))), .val (.int ((xd &&& (7 : Int32)) * (8 : Int32))), .val (.int (xe &&& (3 : Int32))), .val (.long (own_v0_66_10 xa xb xc xd xe)), .second, .unset, .unset, .unset, .unset, .unset, .unset, .unset] []) ∧ Stand p l e room_1 s m #[(.long xa), (.int xb), (.int xc), (.int xd), (.int xe)] below meth c T' L' 0 0 ∧ T'.heap = h0 ∧ Fr n0 L') T1 (mkF m 66 #[.val (.long xa), .second, .val (.int xb), .val (.int xc), .val (.int xd), .val (.int xe), .val (.int (xb &&& (255 : Int32))), .val (.int ((xc &&& (7 : Int32)) * (8 : Int32))), .val (.int ((xd &&& (7 : Int32)) * (8 : Int32))), .val (.int (xe &&& (3 : Int32))), .val (.long (own_v0_38_10 xa xb xc xe)), .second, .unset, .unset, .unset, .unset, .unset, .unset, .unset] [(.int (2 : Int32)), (.int (xe &&& (3 : Int32)))]) := by
    by_cases hc66_6 : (xe &&& (3 : Int32)) < (2 : Int32)
    · refine own_go (T' := T1) (f' := (mkF m 91 #[.val (.long xa), .second, .val (.int xb), .val (.int xc), .val (.int xd), .val (.int xe), .val (.int (xb &&& (255 : Int32))), .val (.int ((xc &&& (7 : Int32)) * (8 : Int32))), .val (.int ((xd &&& (7 : Int32)) * (8 : Int32))), .val (.int (xe &&& (3 : Int32))), .val (.long (own_v0_38_10 xa xb xc xe)), .second, .unset, .unset, .unset, .unset, .unset, .unset, .unset] [])) ?_ (fun _ k => XS.icmpYes X1.here hx rfl (pc0 := 66) (pc' := 91) rfl (hb hby at_66) rfl (tlt hc66_6).1 (by decide) (by decide) k)
      have em7 : (own_v0_66_10 xa xb xc xd xe) = (own_v0_38_10 xa xb xc xe) := (if_pos hc66_6)
      exact ⟨_, ⟨T1, _, (by rw [em7]), X1, e1, N1⟩, fun _ k => k⟩
    · refine own_go (T' := T1) (f' := (mkF m 69 #[.val (.long xa), .second, .val (.int xb), .val (.int xc), .val (.int xd), .val (.int xe), .val (.int (xb &&& (255 : Int32))), .val (.int ((xc &&& (7 : Int32)) * (8 : Int32))), .val (.int ((xd &&& (7 : Int32)) * (8 : Int32))), .val (.int (xe &&& (3 : Int32))), .val (.long (own_v0_38_10 xa xb xc xe)), .second, .unset, .unset, .unset, .unset, .unset, .unset, .unset] [])) ?_ (fun _ k => XS.icmpNo X1.here hx rfl (hb hby at_66) rfl (flt hc66_6).1 k)
      refine own_go (T' := T1) (f' := (mkF m 71 #[.val (.long xa), .second, .val (.int xb), .val (.int xc), .val (.int xd), .val (.int xe), .val (.int (xb &&& (255 : Int32))), .val (.int ((xc &&& (7 : Int32)) * (8 : Int32))), .val (.int ((xd &&& (7 : Int32)) * (8 : Int32))), .val (.int (xe &&& (3 : Int32))), .val (.long (own_v0_38_10 xa xb xc xe)), .second, .unset, .unset, .unset, .unset, .unset, .unset, .unset] [(.long (own_v0_38_10 xa xb xc xe))])) ?_ (fun _ k => XS.lload X1.here hx rfl (hb hby at_69) rfl  k)
      refine own_go (T' := T1) (f' := (mkF m 74 #[.val (.long xa), .second, .val (.int xb), .val (.int xc), .val (.int xd), .val (.int xe), .val (.int (xb &&& (255 : Int32))), .val (.int ((xc &&& (7 : Int32)) * (8 : Int32))), .val (.int ((xd &&& (7 : Int32)) * (8 : Int32))), .val (.int (xe &&& (3 : Int32))), .val (.long (own_v0_38_10 xa xb xc xe)), .second, .unset, .unset, .unset, .unset, .unset, .unset, .unset] [(.long (255 : Int64)), (.long (own_v0_38_10 xa xb xc xe))])) ?_ (X1.ldc2Long hx hown (mvT hZ (hw _ (List.mem_of_getElem? (i := 0) rfl))) (g := (mkF m 71 #[.val (.long xa), .second, .val (.int xb), .val (.int xc), .val (.int xd), .val (.int xe), .val (.int (xb &&& (255 : Int32))), .val (.int ((xc &&& (7 : Int32)) * (8 : Int32))), .val (.int ((xd &&& (7 : Int32)) * (8 : Int32))), .val (.int (xe &&& (3 : Int32))), .val (.long (own_v0_38_10 xa xb xc xe)), .second, .unset, .unset, .unset, .unset, .unset, .unset, .unset] [(.long (own_v0_38_10 xa xb xc xe))])) rfl (hb hby at_71))
      refine own_go (T' := T1) (f' := (mkF m 76 #[.val (.long xa), .second, .val (.int xb), .val (.int xc), .val (.int xd), .val (.int xe), .val (.int (xb &&& (255 : Int32))), .val (.int ((xc &&& (7 : Int32)) * (8 : Int32))), .val (.int ((xd &&& (7 : Int32)) * (8 : Int32))), .val (.int (xe &&& (3 : Int32))), .val (.long (own_v0_38_10 xa xb xc xe)), .second, .unset, .unset, .unset, .unset, .unset, .unset, .unset] [(.int ((xd &&& (7 : Int32)) * (8 : Int32))), (.long (255 : Int64)), (.long (own_v0_38_10 xa xb xc xe))])) ?_ (fun _ k => XS.iload X1.here hx rfl (hb hby at_74) rfl  k)
      refine own_go (T' := T1) (f' := (mkF m 77 #[.val (.long xa), .second, .val (.int xb), .val (.int xc), .val (.int xd), .val (.int xe), .val (.int (xb &&& (255 : Int32))), .val (.int ((xc &&& (7 : Int32)) * (8 : Int32))), .val (.int ((xd &&& (7 : Int32)) * (8 : Int32))), .val (.int (xe &&& (3 : Int32))), .val (.long (own_v0_38_10 xa xb xc xe)), .second, .unset, .unset, .unset, .unset, .unset, .unset, .unset] [(.long ((255 : Int64) <<< (((xd &&& (7 : Int32)) * (8 : Int32)) &&& 0x3f).toInt64)), (.long (own_v0_38_10 xa xb xc xe))])) ?_ (fun _ k => XS.lshl X1.here hx rfl (hb hby at_76) rfl k)
      refine own_go (T' := T1) (f' := (mkF m 80 #[.val (.long xa), .second, .val (.int xb), .val (.int xc), .val (.int xd), .val (.int xe), .val (.int (xb &&& (255 : Int32))), .val (.int ((xc &&& (7 : Int32)) * (8 : Int32))), .val (.int ((xd &&& (7 : Int32)) * (8 : Int32))), .val (.int (xe &&& (3 : Int32))), .val (.long (own_v0_38_10 xa xb xc xe)), .second, .unset, .unset, .unset, .unset, .unset, .unset, .unset] [(.long (-1 : Int64)), (.long ((255 : Int64) <<< (((xd &&& (7 : Int32)) * (8 : Int32)) &&& 0x3f).toInt64)), (.long (own_v0_38_10 xa xb xc xe))])) ?_ (X1.ldc2Long hx hown (mvT hZ (hw _ (List.mem_of_getElem? (i := 1) rfl))) (g := (mkF m 77 #[.val (.long xa), .second, .val (.int xb), .val (.int xc), .val (.int xd), .val (.int xe), .val (.int (xb &&& (255 : Int32))), .val (.int ((xc &&& (7 : Int32)) * (8 : Int32))), .val (.int ((xd &&& (7 : Int32)) * (8 : Int32))), .val (.int (xe &&& (3 : Int32))), .val (.long (own_v0_38_10 xa xb xc xe)), .second, .unset, .unset, .unset, .unset, .unset, .unset, .unset] [(.long ((255 : Int64) <<< (((xd &&& (7 : Int32)) * (8 : Int32)) &&& 0x3f).toInt64)), (.long (own_v0_38_10 xa xb xc xe))])) rfl (hb hby at_77))
      refine own_go (T' := T1) (f' := (mkF m 81 #[.val (.long xa), .second, .val (.int xb), .val (.int xc), .val (.int xd), .val (.int xe), .val (.int (xb &&& (255 : Int32))), .val (.int ((xc &&& (7 : Int32)) * (8 : Int32))), .val (.int ((xd &&& (7 : Int32)) * (8 : Int32))), .val (.int (xe &&& (3 : Int32))), .val (.long (own_v0_38_10 xa xb xc xe)), .second, .unset, .unset, .unset, .unset, .unset, .unset, .unset] [(.long (((255 : Int64) <<< (((xd &&& (7 : Int32)) * (8 : Int32)) &&& 0x3f).toInt64) ^^^ (-1 : Int64))), (.long (own_v0_38_10 xa xb xc xe))])) ?_ (fun _ k => XS.lxor X1.here hx rfl (hb hby at_80) rfl k)
      refine own_go (T' := T1) (f' := (mkF m 82 #[.val (.long xa), .second, .val (.int xb), .val (.int xc), .val (.int xd), .val (.int xe), .val (.int (xb &&& (255 : Int32))), .val (.int ((xc &&& (7 : Int32)) * (8 : Int32))), .val (.int ((xd &&& (7 : Int32)) * (8 : Int32))), .val (.int (xe &&& (3 : Int32))), .val (.long (own_v0_38_10 xa xb xc xe)), .second, .unset, .unset, .unset, .unset, .unset, .unset, .unset] [(.long ((own_v0_38_10 xa xb xc xe) &&& (((255 : Int64) <<< (((xd &&& (7 : Int32)) * (8 : Int32)) &&& 0x3f).toInt64) ^^^ (-1 : Int64))))])) ?_ (fun _ k => XS.land X1.here hx rfl (hb hby at_81) rfl k)
      refine own_go (T' := T1) (f' := (mkF m 84 #[.val (.long xa), .second, .val (.int xb), .val (.int xc), .val (.int xd), .val (.int xe), .val (.int (xb &&& (255 : Int32))), .val (.int ((xc &&& (7 : Int32)) * (8 : Int32))), .val (.int ((xd &&& (7 : Int32)) * (8 : Int32))), .val (.int (xe &&& (3 : Int32))), .val (.long (own_v0_38_10 xa xb xc xe)), .second, .unset, .unset, .unset, .unset, .unset, .unset, .unset] [(.int (xb &&& (255 : Int32))), (.long ((own_v0_38_10 xa xb xc xe) &&& (((255 : Int64) <<< (((xd &&& (7 : Int32)) * (8 : Int32)) &&& 0x3f).toInt64) ^^^ (-1 : Int64))))])) ?_ (fun _ k => XS.iload X1.here hx rfl (hb hby at_82) rfl  k)
      refine own_go (T' := T1) (f' := (mkF m 85 #[.val (.long xa), .second, .val (.int xb), .val (.int xc), .val (.int xd), .val (.int xe), .val (.int (xb &&& (255 : Int32))), .val (.int ((xc &&& (7 : Int32)) * (8 : Int32))), .val (.int ((xd &&& (7 : Int32)) * (8 : Int32))), .val (.int (xe &&& (3 : Int32))), .val (.long (own_v0_38_10 xa xb xc xe)), .second, .unset, .unset, .unset, .unset, .unset, .unset, .unset] [(.long ((xb &&& (255 : Int32)).toInt64)), (.long ((own_v0_38_10 xa xb xc xe) &&& (((255 : Int64) <<< (((xd &&& (7 : Int32)) * (8 : Int32)) &&& 0x3f).toInt64) ^^^ (-1 : Int64))))])) ?_ (fun _ k => XS.i2l X1.here hx rfl (hb hby at_84) rfl k)
      refine own_go (T' := T1) (f' := (mkF m 87 #[.val (.long xa), .second, .val (.int xb), .val (.int xc), .val (.int xd), .val (.int xe), .val (.int (xb &&& (255 : Int32))), .val (.int ((xc &&& (7 : Int32)) * (8 : Int32))), .val (.int ((xd &&& (7 : Int32)) * (8 : Int32))), .val (.int (xe &&& (3 : Int32))), .val (.long (own_v0_38_10 xa xb xc xe)), .second, .unset, .unset, .unset, .unset, .unset, .unset, .unset] [(.int ((xd &&& (7 : Int32)) * (8 : Int32))), (.long ((xb &&& (255 : Int32)).toInt64)), (.long ((own_v0_38_10 xa xb xc xe) &&& (((255 : Int64) <<< (((xd &&& (7 : Int32)) * (8 : Int32)) &&& 0x3f).toInt64) ^^^ (-1 : Int64))))])) ?_ (fun _ k => XS.iload X1.here hx rfl (hb hby at_85) rfl  k)
      refine own_go (T' := T1) (f' := (mkF m 88 #[.val (.long xa), .second, .val (.int xb), .val (.int xc), .val (.int xd), .val (.int xe), .val (.int (xb &&& (255 : Int32))), .val (.int ((xc &&& (7 : Int32)) * (8 : Int32))), .val (.int ((xd &&& (7 : Int32)) * (8 : Int32))), .val (.int (xe &&& (3 : Int32))), .val (.long (own_v0_38_10 xa xb xc xe)), .second, .unset, .unset, .unset, .unset, .unset, .unset, .unset] [(.long (((xb &&& (255 : Int32)).toInt64) <<< (((xd &&& (7 : Int32)) * (8 : Int32)) &&& 0x3f).toInt64)), (.long ((own_v0_38_10 xa xb xc xe) &&& (((255 : Int64) <<< (((xd &&& (7 : Int32)) * (8 : Int32)) &&& 0x3f).toInt64) ^^^ (-1 : Int64))))])) ?_ (fun _ k => XS.lshl X1.here hx rfl (hb hby at_87) rfl k)
      refine own_go (T' := T1) (f' := (mkF m 89 #[.val (.long xa), .second, .val (.int xb), .val (.int xc), .val (.int xd), .val (.int xe), .val (.int (xb &&& (255 : Int32))), .val (.int ((xc &&& (7 : Int32)) * (8 : Int32))), .val (.int ((xd &&& (7 : Int32)) * (8 : Int32))), .val (.int (xe &&& (3 : Int32))), .val (.long (own_v0_38_10 xa xb xc xe)), .second, .unset, .unset, .unset, .unset, .unset, .unset, .unset] [(.long (((own_v0_38_10 xa xb xc xe) &&& (((255 : Int64) <<< (((xd &&& (7 : Int32)) * (8 : Int32)) &&& 0x3f).toInt64) ^^^ (-1 : Int64))) ||| (((xb &&& (255 : Int32)).toInt64) <<< (((xd &&& (7 : Int32)) * (8 : Int32)) &&& 0x3f).toInt64)))])) ?_ (fun _ k => XS.lor X1.here hx rfl (hb hby at_88) rfl k)
      refine own_go (T' := T1) (f' := (mkF m 91 #[.val (.long xa), .second, .val (.int xb), .val (.int xc), .val (.int xd), .val (.int xe), .val (.int (xb &&& (255 : Int32))), .val (.int ((xc &&& (7 : Int32)) * (8 : Int32))), .val (.int ((xd &&& (7 : Int32)) * (8 : Int32))), .val (.int (xe &&& (3 : Int32))), .val (.long (own_v0_89 xa xb xc xd xe)), .second, .unset, .unset, .unset, .unset, .unset, .unset, .unset] [])) ?_ (fun _ k => XS.lstore X1.here hx rfl (hb hby at_89) rfl (l' := #[.val (.long xa), .second, .val (.int xb), .val (.int xc), .val (.int xd), .val (.int xe), .val (.int (xb &&& (255 : Int32))), .val (.int ((xc &&& (7 : Int32)) * (8 : Int32))), .val (.int ((xd &&& (7 : Int32)) * (8 : Int32))), .val (.int (xe &&& (3 : Int32))), .val (.long (own_v0_89 xa xb xc xd xe)), .second, .unset, .unset, .unset, .unset, .unset, .unset, .unset]) rfl k)
      have em8 : (own_v0_66_10 xa xb xc xd xe) = (own_v0_89 xa xb xc xd xe) := (if_neg hc66_6)
      exact ⟨_, ⟨T1, _, (by rw [em8]), X1, e1, N1⟩, fun _ k => k⟩
  refine own_go (T' := T5) (f' := (mkF m 91 #[.val (.long xa), .second, .val (.int xb), .val (.int xc), .val (.int xd), .val (.int xe), .val (.int (xb &&& (255 : Int32))), .val (.int ((xc &&& (7 : Int32)) * (8 : Int32))), .val (.int ((xd &&& (7 : Int32)) * (8 : Int32))), .val (.int (xe &&& (3 : Int32))), .val (.long (own_v0_66_10 xa xb xc xd xe)), .second, .unset, .unset, .unset, .unset, .unset, .unset, .unset] [])) ?_ (mg5)
  refine own_go (T' := T5) (f' := (mkF m 92 #[.val (.long xa), .second, .val (.int xb), .val (.int xc), .val (.int xd), .val (.int xe), .val (.int (xb &&& (255 : Int32))), .val (.int ((xc &&& (7 : Int32)) * (8 : Int32))), .val (.int ((xd &&& (7 : Int32)) * (8 : Int32))), .val (.int (xe &&& (3 : Int32))), .val (.long (own_v0_66_10 xa xb xc xd xe)), .second, .unset, .unset, .unset, .unset, .unset, .unset, .unset] [(.int xb)])) ?_ (fun _ k => XS.iloadN X5.here hx rfl (hb hby at_91) rfl  k)
  refine own_go (T' := T5) (f' := (mkF m 93 #[.val (.long xa), .second, .val (.int xb), .val (.int xc), .val (.int xd), .val (.int xe), .val (.int (xb &&& (255 : Int32))), .val (.int ((xc &&& (7 : Int32)) * (8 : Int32))), .val (.int ((xd &&& (7 : Int32)) * (8 : Int32))), .val (.int (xe &&& (3 : Int32))), .val (.long (own_v0_66_10 xa xb xc xd xe)), .second, .unset, .unset, .unset, .unset, .unset, .unset, .unset] [(.int (xb.toInt8.toInt32))])) ?_ (fun _ k => XS.i2b X5.here hx rfl (hb hby at_92) rfl k)
  obtain ⟨_, _, ⟨T9, L9, k9, n9⟩, -, X9, ⟨Lc9, hQ9, l9, y9, z9⟩, st9⟩ := Jvm.LawKit.callS X5 hx (y := (⟨"com/example/eben/eben/io/ByteWords", "spread", "(B)J"⟩ : MethodName)) hown (mvT hZ (hw _ (List.mem_of_getElem? (i := 2) rfl))) (mvT hZ (hw _ (List.mem_of_getElem? (i := 3) rfl))) (mvT hZ (hw _ (List.mem_of_getElem? (i := 4) rfl))) (mvT hZ (hw _ (List.mem_of_getElem? (i := 5) rfl))) (by decide) (backOf (W := 0) (own_rm1 l Z a0 hw [] (xb.toInt8.toInt32) h0 n0 Z0) hZ (hw _ (List.mem_of_getElem? (i := 5) rfl)) (hw _ (List.mem_of_getElem? (i := 4) rfl)) (by decide) (by decide)) (g := (mkF m 93 #[.val (.long xa), .second, .val (.int xb), .val (.int xc), .val (.int xd), .val (.int xe), .val (.int (xb &&& (255 : Int32))), .val (.int ((xc &&& (7 : Int32)) * (8 : Int32))), .val (.int ((xd &&& (7 : Int32)) * (8 : Int32))), .val (.int (xe &&& (3 : Int32))), .val (.long (own_v0_66_10 xa xb xc xd xe)), .second, .unset, .unset, .unset, .unset, .unset, .unset, .unset] [(.int (xb.toInt8.toInt32))])) rfl (by rw [hml]; rfl) (argsL := [(.int (xb.toInt8.toInt32))]) (rest := []) (lenOf own_pd0 rfl) rfl (by show 2 * 0 + _ ≤ _; exact Nat.le_of_eq rfl) (hb hby at_93) (fun _ _ => ⟨rfl, e5, (by decide : 0 + 0 ≤ _), (by decide : 0 + 0 ≤ _)⟩)
  dsimp only [Pt.U, Pt.locs, Pt.cells, Pt.slots] at X9 l9 y9 z9 st9 hQ9
  subst y9 z9
  obtain ⟨rfl, N9q, e9⟩ := hQ9
  have N9 : Fr n0 L9 := l9 ▸ Fr.app N5 N9q
  refine own_go (T' := T9) (f' := (mkF m 96 #[.val (.long xa), .second, .val (.int xb), .val (.int xc), .val (.int xd), .val (.int xe), .val (.int (xb &&& (255 : Int32))), .val (.int ((xc &&& (7 : Int32)) * (8 : Int32))), .val (.int ((xd &&& (7 : Int32)) * (8 : Int32))), .val (.int (xe &&& (3 : Int32))), .val (.long (own_v0_66_10 xa xb xc xd xe)), .second, .unset, .unset, .unset, .unset, .unset, .unset, .unset] [(.long (own_f1 (xb.toInt8.toInt32)))])) ?_ (st9)
  refine own_go (T' := T9) (f' := (mkF m 98 #[.val (.long xa), .second, .val (.int xb), .val (.int xc), .val (.int xd), .val (.int xe), .val (.int (xb &&& (255 : Int32))), .val (.int ((xc &&& (7 : Int32)) * (8 : Int32))), .val (.int ((xd &&& (7 : Int32)) * (8 : Int32))), .val (.int (xe &&& (3 : Int32))), .val (.long (own_v0_66_10 xa xb xc xd xe)), .second, .val (.long (own_f1 (xb.toInt8.toInt32))), .second, .unset, .unset, .unset, .unset, .unset] [])) ?_ (fun _ k => XS.lstore X9.here hx rfl (hb hby at_96) rfl (l' := #[.val (.long xa), .second, .val (.int xb), .val (.int xc), .val (.int xd), .val (.int xe), .val (.int (xb &&& (255 : Int32))), .val (.int ((xc &&& (7 : Int32)) * (8 : Int32))), .val (.int ((xd &&& (7 : Int32)) * (8 : Int32))), .val (.int (xe &&& (3 : Int32))), .val (.long (own_v0_66_10 xa xb xc xd xe)), .second, .val (.long (own_f1 (xb.toInt8.toInt32))), .second, .unset, .unset, .unset, .unset, .unset]) rfl k)
  refine own_go (T' := T9) (f' := (mkF m 100 #[.val (.long xa), .second, .val (.int xb), .val (.int xc), .val (.int xd), .val (.int xe), .val (.int (xb &&& (255 : Int32))), .val (.int ((xc &&& (7 : Int32)) * (8 : Int32))), .val (.int ((xd &&& (7 : Int32)) * (8 : Int32))), .val (.int (xe &&& (3 : Int32))), .val (.long (own_v0_66_10 xa xb xc xd xe)), .second, .val (.long (own_f1 (xb.toInt8.toInt32))), .second, .unset, .unset, .unset, .unset, .unset] [(.long (own_v0_66_10 xa xb xc xd xe))])) ?_ (fun _ k => XS.lload X9.here hx rfl (hb hby at_98) rfl  k)
  refine own_go (T' := T9) (f' := (mkF m 102 #[.val (.long xa), .second, .val (.int xb), .val (.int xc), .val (.int xd), .val (.int xe), .val (.int (xb &&& (255 : Int32))), .val (.int ((xc &&& (7 : Int32)) * (8 : Int32))), .val (.int ((xd &&& (7 : Int32)) * (8 : Int32))), .val (.int (xe &&& (3 : Int32))), .val (.long (own_v0_66_10 xa xb xc xd xe)), .second, .val (.long (own_f1 (xb.toInt8.toInt32))), .second, .unset, .unset, .unset, .unset, .unset] [(.long (own_f1 (xb.toInt8.toInt32))), (.long (own_v0_66_10 xa xb xc xd xe))])) ?_ (fun _ k => XS.lload X9.here hx rfl (hb hby at_100) rfl  k)
  obtain ⟨_, _, ⟨T10, L10, k10, n10⟩, -, X10, ⟨Lc10, hQ10, l10, y10, z10⟩, st10⟩ := Jvm.LawKit.callS X9 hx (y := (⟨"com/example/eben/eben/io/ByteWords", "matches", "(JJ)J"⟩ : MethodName)) hown (mvT hZ (hw _ (List.mem_of_getElem? (i := 7) rfl))) (mvT hZ (hw _ (List.mem_of_getElem? (i := 8) rfl))) (mvT hZ (hw _ (List.mem_of_getElem? (i := 4) rfl))) (mvT hZ (hw _ (List.mem_of_getElem? (i := 9) rfl))) (by decide) (backOf (W := 0) (own_rm2 l Z a0 hw [] (own_v0_66_10 xa xb xc xd xe) (own_f1 (xb.toInt8.toInt32)) h0 n0 Z0) hZ (hw _ (List.mem_of_getElem? (i := 9) rfl)) (hw _ (List.mem_of_getElem? (i := 4) rfl)) (by decide) (by decide)) (g := (mkF m 102 #[.val (.long xa), .second, .val (.int xb), .val (.int xc), .val (.int xd), .val (.int xe), .val (.int (xb &&& (255 : Int32))), .val (.int ((xc &&& (7 : Int32)) * (8 : Int32))), .val (.int ((xd &&& (7 : Int32)) * (8 : Int32))), .val (.int (xe &&& (3 : Int32))), .val (.long (own_v0_66_10 xa xb xc xd xe)), .second, .val (.long (own_f1 (xb.toInt8.toInt32))), .second, .unset, .unset, .unset, .unset, .unset] [(.long (own_f1 (xb.toInt8.toInt32))), (.long (own_v0_66_10 xa xb xc xd xe))])) rfl (by rw [hml]; rfl) (argsL := [(.long (own_v0_66_10 xa xb xc xd xe)), (.long (own_f1 (xb.toInt8.toInt32)))]) (rest := []) (lenOf own_pd1 rfl) rfl (by show 2 * 0 + _ ≤ _; exact Nat.le_of_eq rfl) (hb hby at_102) (fun _ _ => ⟨rfl, e9, (by decide : 0 + 0 ≤ _), (by decide : 0 + 0 ≤ _)⟩)
  dsimp only [Pt.U, Pt.locs, Pt.cells, Pt.slots] at X10 l10 y10 z10 st10 hQ10
  subst y10 z10
  obtain ⟨rfl, N10q, e10⟩ := hQ10
  have N10 : Fr n0 L10 := l10 ▸ Fr.app N9 N10q
  refine own_go (T' := T10) (f' := (mkF m 105 #[.val (.long xa), .second, .val (.int xb), .val (.int xc), .val (.int xd), .val (.int xe), .val (.int (xb &&& (255 : Int32))), .val (.int ((xc &&& (7 : Int32)) * (8 : Int32))), .val (.int ((xd &&& (7 : Int32)) * (8 : Int32))), .val (.int (xe &&& (3 : Int32))), .val (.long (own_v0_66_10 xa xb xc xd xe)), .second, .val (.long (own_f1 (xb.toInt8.toInt32))), .second, .unset, .unset, .unset, .unset, .unset] [(.long (own_f2 (own_v0_66_10 xa xb xc xd xe) (own_f1 (xb.toInt8.toInt32))))])) ?_ (st10)
  refine own_go (T' := T10) (f' := (mkF m 107 #[.val (.long xa), .second, .val (.int xb), .val (.int xc), .val (.int xd), .val (.int xe), .val (.int (xb &&& (255 : Int32))), .val (.int ((xc &&& (7 : Int32)) * (8 : Int32))), .val (.int ((xd &&& (7 : Int32)) * (8 : Int32))), .val (.int (xe &&& (3 : Int32))), .val (.long (own_v0_66_10 xa xb xc xd xe)), .second, .val (.long (own_f1 (xb.toInt8.toInt32))), .second, .val (.long (own_v0_105 xa xb xc xd xe)), .second, .unset, .unset, .unset] [])) ?_ (fun _ k => XS.lstore X10.here hx rfl (hb hby at_105) rfl (l' := #[.val (.long xa), .second, .val (.int xb), .val (.int xc), .val (.int xd), .val (.int xe), .val (.int (xb &&& (255 : Int32))), .val (.int ((xc &&& (7 : Int32)) * (8 : Int32))), .val (.int ((xd &&& (7 : Int32)) * (8 : Int32))), .val (.int (xe &&& (3 : Int32))), .val (.long (own_v0_66_10 xa xb xc xd xe)), .second, .val (.long (own_f1 (xb.toInt8.toInt32))), .second, .val (.long (own_v0_105 xa xb xc xd xe)), .second, .unset, .unset, .unset]) rfl k)
  refine own_go (T' := T10) (f' := (mkF m 109 #[.val (.long xa), .second, .val (.int xb), .val (.int xc), .val (.int xd), .val (.int xe), .val (.int (xb &&& (255 : Int32))), .val (.int ((xc &&& (7 : Int32)) * (8 : Int32))), .val (.int ((xd &&& (7 : Int32)) * (8 : Int32))), .val (.int (xe &&& (3 : Int32))), .val (.long (own_v0_66_10 xa xb xc xd xe)), .second, .val (.long (own_f1 (xb.toInt8.toInt32))), .second, .val (.long (own_v0_105 xa xb xc xd xe)), .second, .unset, .unset, .unset] [(.long (own_v0_105 xa xb xc xd xe))])) ?_ (fun _ k => XS.lload X10.here hx rfl (hb hby at_107) rfl  k)
  refine own_go (T' := T10) (f' := (mkF m 112 #[.val (.long xa), .second, .val (.int xb), .val (.int xc), .val (.int xd), .val (.int xe), .val (.int (xb &&& (255 : Int32))), .val (.int ((xc &&& (7 : Int32)) * (8 : Int32))), .val (.int ((xd &&& (7 : Int32)) * (8 : Int32))), .val (.int (xe &&& (3 : Int32))), .val (.long (own_v0_66_10 xa xb xc xd xe)), .second, .val (.long (own_f1 (xb.toInt8.toInt32))), .second, .val (.long (own_v0_105 xa xb xc xd xe)), .second, .unset, .unset, .unset] [(.long (9187201950435737471 : Int64)), (.long (own_v0_105 xa xb xc xd xe))])) ?_ (X10.ldc2Long hx hown (mvT hZ (hw _ (List.mem_of_getElem? (i := 12) rfl))) (g := (mkF m 109 #[.val (.long xa), .second, .val (.int xb), .val (.int xc), .val (.int xd), .val (.int xe), .val (.int (xb &&& (255 : Int32))), .val (.int ((xc &&& (7 : Int32)) * (8 : Int32))), .val (.int ((xd &&& (7 : Int32)) * (8 : Int32))), .val (.int (xe &&& (3 : Int32))), .val (.long (own_v0_66_10 xa xb xc xd xe)), .second, .val (.long (own_f1 (xb.toInt8.toInt32))), .second, .val (.long (own_v0_105 xa xb xc xd xe)), .second, .unset, .unset, .unset] [(.long (own_v0_105 xa xb xc xd xe))])) rfl (hb hby at_109))
  refine own_go (T' := T10) (f' := (mkF m 113 #[.val (.long xa), .second, .val (.int xb), .val (.int xc), .val (.int xd), .val (.int xe), .val (.int (xb &&& (255 : Int32))), .val (.int ((xc &&& (7 : Int32)) * (8 : Int32))), .val (.int ((xd &&& (7 : Int32)) * (8 : Int32))), .val (.int (xe &&& (3 : Int32))), .val (.long (own_v0_66_10 xa xb xc xd xe)), .second, .val (.long (own_f1 (xb.toInt8.toInt32))), .second, .val (.long (own_v0_105 xa xb xc xd xe)), .second, .unset, .unset, .unset] [(.long ((own_v0_105 xa xb xc xd xe) &&& (9187201950435737471 : Int64)))])) ?_ (fun _ k => XS.land X10.here hx rfl (hb hby at_112) rfl k)
  refine own_go (T' := T10) (f' := (mkF m 114 #[.val (.long xa), .second, .val (.int xb), .val (.int xc), .val (.int xd), .val (.int xe), .val (.int (xb &&& (255 : Int32))), .val (.int ((xc &&& (7 : Int32)) * (8 : Int32))), .val (.int ((xd &&& (7 : Int32)) * (8 : Int32))), .val (.int (xe &&& (3 : Int32))), .val (.long (own_v0_66_10 xa xb xc xd xe)), .second, .val (.long (own_f1 (xb.toInt8.toInt32))), .second, .val (.long (own_v0_105 xa xb xc xd xe)), .second, .unset, .unset, .unset] [(.long (0 : Int64)), (.long ((own_v0_105 xa xb xc xd xe) &&& (9187201950435737471 : Int64)))])) ?_ (fun _ k => XS.lconst X10.here hx rfl (hb hby at_113) k)
  refine own_go (T' := T10) (f' := (mkF m 115 #[.val (.long xa), .second, .val (.int xb), .val (.int xc), .val (.int xd), .val (.int xe), .val (.int (xb &&& (255 : Int32))), .val (.int ((xc &&& (7 : Int32)) * (8 : Int32))), .val (.int ((xd &&& (7 : Int32)) * (8 : Int32))), .val (.int (xe &&& (3 : Int32))), .val (.long (own_v0_66_10 xa xb xc xd xe)), .second, .val (.long (own_f1 (xb.toInt8.toInt32))), .second, .val (.long (own_v0_105 xa xb xc xd xe)), .second, .unset, .unset, .unset] [(.int (lcmpW ((own_v0_105 xa xb xc xd xe) &&& (9187201950435737471 : Int64)) (0 : Int64)))])) ?_ (fun _ k => XS.lcmp X10.here hx rfl (hb hby at_114) rfl k)
  by_cases hc115_11 : (lcmpW ((own_v0_105 xa xb xc xd xe) &&& (9187201950435737471 : Int64)) (0 : Int64)) = (0 : Int32)
  · refine own_go (T' := T10) (f' := (mkF m 120 #[.val (.long xa), .second, .val (.int xb), .val (.int xc), .val (.int xd), .val (.int xe), .val (.int (xb &&& (255 : Int32))), .val (.int ((xc &&& (7 : Int32)) * (8 : Int32))), .val (.int ((xd &&& (7 : Int32)) * (8 : Int32))), .val (.int (xe &&& (3 : Int32))), .val (.long (own_v0_66_10 xa xb xc xd xe)), .second, .val (.long (own_f1 (xb.toInt8.toInt32))), .second, .val (.long (own_v0_105 xa xb xc xd xe)), .second, .unset, .unset, .unset] [])) ?_ (fun _ k => XS.ifYes X10.here hx rfl (pc0 := 115) (pc' := 120) rfl (hb hby at_115) rfl ((if0 _ _).trans (teq hc115_11).1) (by decide) (by decide) k)
    refine own_go (T' := T10) (f' := (mkF m 122 #[.val (.long xa), .second, .val (.int xb), .val (.int xc), .val (.int xd), .val (.int xe), .val (.int (xb &&& (255 : Int32))), .val (.int ((xc &&& (7 : Int32)) * (8 : Int32))), .val (.int ((xd &&& (7 : Int32)) * (8 : Int32))), .val (.int (xe &&& (3 : Int32))), .val (.long (own_v0_66_10 xa xb xc xd xe)), .second, .val (.long (own_f1 (xb.toInt8.toInt32))), .second, .val (.long (own_v0_105 xa xb xc xd xe)), .second, .unset, .unset, .unset] [(.long (own_v0_66_10 xa xb xc xd xe))])) ?_ (fun _ k => XS.lload X10.here hx rfl (hb hby at_120) rfl  k)
    refine own_go (T' := T10) (f' := (mkF m 124 #[.val (.long xa), .second, .val (.int xb), .val (.int xc), .val (.int xd), .val (.int xe), .val (.int (xb &&& (255 : Int32))), .val (.int ((xc &&& (7 : Int32)) * (8 : Int32))), .val (.int ((xd &&& (7 : Int32)) * (8 : Int32))), .val (.int (xe &&& (3 : Int32))), .val (.long (own_v0_66_10 xa xb xc xd xe)), .second, .val (.long (own_f1 (xb.toInt8.toInt32))), .second, .val (.long (own_v0_105 xa xb xc xd xe)), .second, .unset, .unset, .unset] [(.int (xb &&& (255 : Int32))), (.long (own_v0_66_10 xa xb xc xd xe))])) ?_ (fun _ k => XS.iload X10.here hx rfl (hb hby at_122) rfl  k)
    obtain ⟨_, _, ⟨T12, L12, k12, n12⟩, -, X12, ⟨Lc12, hQ12, l12, y12, z12⟩, st12⟩ := Jvm.LawKit.callS X10 hx (y := (⟨"com/example/eben/eben/io/ByteWordsMatchesPinLaw", "first", "(JI)I"⟩ : MethodName)) hown (mvT hZ (hw _ (List.mem_of_getElem? (i := 13) rfl))) (mvT hZ (hw _ (List.mem_of_getElem? (i := 14) rfl))) (mvT hZ (hw _ (List.mem_of_getElem? (i := 15) rfl))) (mvT hZ (hw _ (List.mem_of_getElem? (i := 16) rfl))) (by decide) (backOf (W := 0) (own_rm3 l Z a0 hw [] (own_v0_66_10 xa xb xc xd xe) (xb &&& (255 : Int32)) h0 n0 Z0) hZ (hw _ (List.mem_of_getElem? (i := 16) rfl)) (hw _ (List.mem_of_getElem? (i := 15) rfl)) (by decide) (by decide)) (g := (mkF m 124 #[.val (.long xa), .second, .val (.int xb), .val (.int xc), .val (.int xd), .val (.int xe), .val (.int (xb &&& (255 : Int32))), .val (.int ((xc &&& (7 : Int32)) * (8 : Int32))), .val (.int ((xd &&& (7 : Int32)) * (8 : Int32))), .val (.int (xe &&& (3 : Int32))), .val (.long (own_v0_66_10 xa xb xc xd xe)), .second, .val (.long (own_f1 (xb.toInt8.toInt32))), .second, .val (.long (own_v0_105 xa xb xc xd xe)), .second, .unset, .unset, .unset] [(.int (xb &&& (255 : Int32))), (.long (own_v0_66_10 xa xb xc xd xe))])) rfl (by rw [hml]; rfl) (argsL := [(.long (own_v0_66_10 xa xb xc xd xe)), (.int (xb &&& (255 : Int32)))]) (rest := []) (lenOf own_pd2 rfl) rfl (by show 2 * 0 + _ ≤ _; exact Nat.le_of_eq rfl) (hb hby at_124) (fun _ _ => ⟨rfl, e10, (by decide : 0 + 0 ≤ _), (by decide : 0 + 0 ≤ _)⟩)
    dsimp only [Pt.U, Pt.locs, Pt.cells, Pt.slots] at X12 l12 y12 z12 st12 hQ12
    subst y12 z12
    obtain ⟨rfl, N12q, e12⟩ := hQ12
    have N12 : Fr n0 L12 := l12 ▸ Fr.app N10 N12q
    refine own_go (T' := T12) (f' := (mkF m 127 #[.val (.long xa), .second, .val (.int xb), .val (.int xc), .val (.int xd), .val (.int xe), .val (.int (xb &&& (255 : Int32))), .val (.int ((xc &&& (7 : Int32)) * (8 : Int32))), .val (.int ((xd &&& (7 : Int32)) * (8 : Int32))), .val (.int (xe &&& (3 : Int32))), .val (.long (own_v0_66_10 xa xb xc xd xe)), .second, .val (.long (own_f1 (xb.toInt8.toInt32))), .second, .val (.long (own_v0_105 xa xb xc xd xe)), .second, .unset, .unset, .unset] [(.int (own_f3 (own_v0_66_10 xa xb xc xd xe) (xb &&& (255 : Int32))))])) ?_ (st12)
    refine own_go (T' := T12) (f' := (mkF m 129 #[.val (.long xa), .second, .val (.int xb), .val (.int xc), .val (.int xd), .val (.int xe), .val (.int (xb &&& (255 : Int32))), .val (.int ((xc &&& (7 : Int32)) * (8 : Int32))), .val (.int ((xd &&& (7 : Int32)) * (8 : Int32))), .val (.int (xe &&& (3 : Int32))), .val (.long (own_v0_66_10 xa xb xc xd xe)), .second, .val (.long (own_f1 (xb.toInt8.toInt32))), .second, .val (.long (own_v0_105 xa xb xc xd xe)), .second, .val (.int (own_v0_127 xa xb xc xd xe)), .unset, .unset] [])) ?_ (fun _ k => XS.istore X12.here hx rfl (hb hby at_127) rfl (l' := #[.val (.long xa), .second, .val (.int xb), .val (.int xc), .val (.int xd), .val (.int xe), .val (.int (xb &&& (255 : Int32))), .val (.int ((xc &&& (7 : Int32)) * (8 : Int32))), .val (.int ((xd &&& (7 : Int32)) * (8 : Int32))), .val (.int (xe &&& (3 : Int32))), .val (.long (own_v0_66_10 xa xb xc xd xe)), .second, .val (.long (own_f1 (xb.toInt8.toInt32))), .second, .val (.long (own_v0_105 xa xb xc xd xe)), .second, .val (.int (own_v0_127 xa xb xc xd xe)), .unset, .unset]) rfl k)
    refine own_go (T' := T12) (f' := (mkF m 131 #[.val (.long xa), .second, .val (.int xb), .val (.int xc), .val (.int xd), .val (.int xe), .val (.int (xb &&& (255 : Int32))), .val (.int ((xc &&& (7 : Int32)) * (8 : Int32))), .val (.int ((xd &&& (7 : Int32)) * (8 : Int32))), .val (.int (xe &&& (3 : Int32))), .val (.long (own_v0_66_10 xa xb xc xd xe)), .second, .val (.long (own_f1 (xb.toInt8.toInt32))), .second, .val (.long (own_v0_105 xa xb xc xd xe)), .second, .val (.int (own_v0_127 xa xb xc xd xe)), .unset, .unset] [(.int (own_v0_127 xa xb xc xd xe))])) ?_ (fun _ k => XS.iload X12.here hx rfl (hb hby at_129) rfl  k)
    refine own_go (T' := T12) (f' := (mkF m 133 #[.val (.long xa), .second, .val (.int xb), .val (.int xc), .val (.int xd), .val (.int xe), .val (.int (xb &&& (255 : Int32))), .val (.int ((xc &&& (7 : Int32)) * (8 : Int32))), .val (.int ((xd &&& (7 : Int32)) * (8 : Int32))), .val (.int (xe &&& (3 : Int32))), .val (.long (own_v0_66_10 xa xb xc xd xe)), .second, .val (.long (own_f1 (xb.toInt8.toInt32))), .second, .val (.long (own_v0_105 xa xb xc xd xe)), .second, .val (.int (own_v0_127 xa xb xc xd xe)), .unset, .unset] [(.int (8 : Int32)), (.int (own_v0_127 xa xb xc xd xe))])) ?_ (fun _ k => XS.bipush X12.here hx rfl (hb hby at_131) k)
    by_cases hc133_13 : (own_v0_127 xa xb xc xd xe) = (8 : Int32)
    · refine own_go (T' := T12) (f' := (mkF m 136 #[.val (.long xa), .second, .val (.int xb), .val (.int xc), .val (.int xd), .val (.int xe), .val (.int (xb &&& (255 : Int32))), .val (.int ((xc &&& (7 : Int32)) * (8 : Int32))), .val (.int ((xd &&& (7 : Int32)) * (8 : Int32))), .val (.int (xe &&& (3 : Int32))), .val (.long (own_v0_66_10 xa xb xc xd xe)), .second, .val (.long (own_f1 (xb.toInt8.toInt32))), .second, .val (.long (own_v0_105 xa xb xc xd xe)), .second, .val (.int (own_v0_127 xa xb xc xd xe)), .unset, .unset] [])) ?_ (fun _ k => XS.icmpNo X12.here hx rfl (hb hby at_133) rfl (teq hc133_13).2 k)
      refine own_go (T' := T12) (f' := (mkF m 138 #[.val (.long xa), .second, .val (.int xb), .val (.int xc), .val (.int xd), .val (.int xe), .val (.int (xb &&& (255 : Int32))), .val (.int ((xc &&& (7 : Int32)) * (8 : Int32))), .val (.int ((xd &&& (7 : Int32)) * (8 : Int32))), .val (.int (xe &&& (3 : Int32))), .val (.long (own_v0_66_10 xa xb xc xd xe)), .second, .val (.long (own_f1 (xb.toInt8.toInt32))), .second, .val (.long (own_v0_105 xa xb xc xd xe)), .second, .val (.int (own_v0_127 xa xb xc xd xe)), .unset, .unset] [(.long (own_v0_105 xa xb xc xd xe))])) ?_ (fun _ k => XS.lload X12.here hx rfl (hb hby at_136) rfl  k)
      refine own_go (T' := T12) (f' := (mkF m 139 #[.val (.long xa), .second, .val (.int xb), .val (.int xc), .val (.int xd), .val (.int xe), .val (.int (xb &&& (255 : Int32))), .val (.int ((xc &&& (7 : Int32)) * (8 : Int32))), .val (.int ((xd &&& (7 : Int32)) * (8 : Int32))), .val (.int (xe &&& (3 : Int32))), .val (.long (own_v0_66_10 xa xb xc xd xe)), .second, .val (.long (own_f1 (xb.toInt8.toInt32))), .second, .val (.long (own_v0_105 xa xb xc xd xe)), .second, .val (.int (own_v0_127 xa xb xc xd xe)), .unset, .unset] [(.long (0 : Int64)), (.long (own_v0_105 xa xb xc xd xe))])) ?_ (fun _ k => XS.lconst X12.here hx rfl (hb hby at_138) k)
      refine own_go (T' := T12) (f' := (mkF m 140 #[.val (.long xa), .second, .val (.int xb), .val (.int xc), .val (.int xd), .val (.int xe), .val (.int (xb &&& (255 : Int32))), .val (.int ((xc &&& (7 : Int32)) * (8 : Int32))), .val (.int ((xd &&& (7 : Int32)) * (8 : Int32))), .val (.int (xe &&& (3 : Int32))), .val (.long (own_v0_66_10 xa xb xc xd xe)), .second, .val (.long (own_f1 (xb.toInt8.toInt32))), .second, .val (.long (own_v0_105 xa xb xc xd xe)), .second, .val (.int (own_v0_127 xa xb xc xd xe)), .unset, .unset] [(.int (lcmpW (own_v0_105 xa xb xc xd xe) (0 : Int64)))])) ?_ (fun _ k => XS.lcmp X12.here hx rfl (hb hby at_139) rfl k)
      obtain ⟨_, ⟨T14, L14, rfl, X14, e14, N14⟩, mg14⟩ : own_Goes p.tables e below (fun uu => ∃ (T' : State) (L' : List Loc), uu = T'.setTop (mkF m 148 #[.val (.long xa), .second, .val (.int xb), .val (.int xc), .val (.int xd), .val (.int xe), .val (.int (xb &&& (255 : Int32))), .val (.int ((xc &&& (7 : Int32)) * (8 : Int32))), .val (.int ((xd &&& (7 : Int32)) * (8 : Int32))), .val (.int (xe &&& (3 : Int32))), .val (.long (own_v0_66_10 xa xb xc xd xe)), .second, .val (.long (own_f1 (xb.toInt8.toInt32))), .second, .val (.long (own_v0_105 xa xb xc xd xe)), .second, .val (.int (own_v0_127 xa xb xc xd xe)), .unset, .unset] [(.int (own_v0_140_s0 xa xb xc xd xe))]) ∧ Stand p l e room_1 s m #[(.long xa), (.int xb), (.int xc), (.int xd), (.int xe)] below meth c T' L' 0 0 ∧ T'.heap = h0 ∧ Fr n0 L') T12 (mkF m 140 #[.val (.long xa), .second, .val (.int xb), .val (.int xc), .val (.int xd), .val (.int xe), .val (.int (xb &&& (255 : Int32))), .val (.int ((xc &&& (7 : Int32)) * (8 : Int32))), .val (.int ((xd &&& (7 : Int32)) * (8 : Int32))), .val (.int (xe &&& (3 : Int32))), .val (.long (own_v0_66_10 xa xb xc xd xe)), .second, .val (.long (own_f1 (xb.toInt8.toInt32))), .second, .val (.long (own_v0_105 xa xb xc xd xe)), .second, .val (.int (own_v0_127 xa xb xc xd xe)), .unset, .unset] [(.int (lcmpW (own_v0_105 xa xb xc xd xe) (0 : Int64)))]) := by
        by_cases hc140_15 : (lcmpW (own_v0_105 xa xb xc xd xe) (0 : Int64)) = (0 : Int32)
        · refine own_go (T' := T12) (f' := (mkF m 143 #[.val (.long xa), .second, .val (.int xb), .val (.int xc), .val (.int xd), .val (.int xe), .val (.int (xb &&& (255 : Int32))), .val (.int ((xc &&& (7 : Int32)) * (8 : Int32))), .val (.int ((xd &&& (7 : Int32)) * (8 : Int32))), .val (.int (xe &&& (3 : Int32))), .val (.long (own_v0_66_10 xa xb xc xd xe)), .second, .val (.long (own_f1 (xb.toInt8.toInt32))), .second, .val (.long (own_v0_105 xa xb xc xd xe)), .second, .val (.int (own_v0_127 xa xb xc xd xe)), .unset, .unset] [])) ?_ (fun _ k => XS.ifNo X12.here hx rfl (hb hby at_140) rfl ((if0 _ _).trans (teq hc140_15).2) k)
          refine own_go (T' := T12) (f' := (mkF m 144 #[.val (.long xa), .second, .val (.int xb), .val (.int xc), .val (.int xd), .val (.int xe), .val (.int (xb &&& (255 : Int32))), .val (.int ((xc &&& (7 : Int32)) * (8 : Int32))), .val (.int ((xd &&& (7 : Int32)) * (8 : Int32))), .val (.int (xe &&& (3 : Int32))), .val (.long (own_v0_66_10 xa xb xc xd xe)), .second, .val (.long (own_f1 (xb.toInt8.toInt32))), .second, .val (.long (own_v0_105 xa xb xc xd xe)), .second, .val (.int (own_v0_127 xa xb xc xd xe)), .unset, .unset] [(.int (1 : Int32))])) ?_ (fun _ k => XS.iconst X12.here hx rfl (hb hby at_143) k)
          refine own_go (T' := T12) (f' := (mkF m 148 #[.val (.long xa), .second, .val (.int xb), .val (.int xc), .val (.int xd), .val (.int xe), .val (.int (xb &&& (255 : Int32))), .val (.int ((xc &&& (7 : Int32)) * (8 : Int32))), .val (.int ((xd &&& (7 : Int32)) * (8 : Int32))), .val (.int (xe &&& (3 : Int32))), .val (.long (own_v0_66_10 xa xb xc xd xe)), .second, .val (.long (own_f1 (xb.toInt8.toInt32))), .second, .val (.long (own_v0_105 xa xb xc xd xe)), .second, .val (.int (own_v0_127 xa xb xc xd xe)), .unset, .unset] [(.int (1 : Int32))])) ?_ (fun _ k => XS.goto X12.here hx rfl (pc0 := 144) (pc' := 148) rfl (hb hby at_144) (by decide) (by decide) k)
          have em16 : (own_v0_140_s0 xa xb xc xd xe) = (1 : Int32) := (if_pos hc140_15)
          exact ⟨_, ⟨T12, _, (by rw [em16]), X12, e12, N12⟩, fun _ k => k⟩
        · refine own_go (T' := T12) (f' := (mkF m 147 #[.val (.long xa), .second, .val (.int xb), .val (.int xc), .val (.int xd), .val (.int xe), .val (.int (xb &&& (255 : Int32))), .val (.int ((xc &&& (7 : Int32)) * (8 : Int32))), .val (.int ((xd &&& (7 : Int32)) * (8 : Int32))), .val (.int (xe &&& (3 : Int32))), .val (.long (own_v0_66_10 xa xb xc xd xe)), .second, .val (.long (own_f1 (xb.toInt8.toInt32))), .second, .val (.long (own_v0_105 xa xb xc xd xe)), .second, .val (.int (own_v0_127 xa xb xc xd xe)), .unset, .unset] [])) ?_ (fun _ k => XS.ifYes X12.here hx rfl (pc0 := 140) (pc' := 147) rfl (hb hby at_140) rfl ((if0 _ _).trans (feq hc140_15).2) (by decide) (by decide) k)
          refine own_go (T' := T12) (f' := (mkF m 148 #[.val (.long xa), .second, .val (.int xb), .val (.int xc), .val (.int xd), .val (.int xe), .val (.int (xb &&& (255 : Int32))), .val (.int ((xc &&& (7 : Int32)) * (8 : Int32))), .val (.int ((xd &&& (7 : Int32)) * (8 : Int32))), .val (.int (xe &&& (3 : Int32))), .val (.long (own_v0_66_10 xa xb xc xd xe)), .second, .val (.long (own_f1 (xb.toInt8.toInt32))), .second, .val (.long (own_v0_105 xa xb xc xd xe)), .second, .val (.int (own_v0_127 xa xb xc xd xe)), .unset, .unset] [(.int (0 : Int32))])) ?_ (fun _ k => XS.iconst X12.here hx rfl (hb hby at_147) k)
          have em17 : (own_v0_140_s0 xa xb xc xd xe) = (0 : Int32) := (if_neg hc140_15)
          exact ⟨_, ⟨T12, _, (by rw [em17]), X12, e12, N12⟩, fun _ k => k⟩
      refine own_go (T' := T14) (f' := (mkF m 148 #[.val (.long xa), .second, .val (.int xb), .val (.int xc), .val (.int xd), .val (.int xe), .val (.int (xb &&& (255 : Int32))), .val (.int ((xc &&& (7 : Int32)) * (8 : Int32))), .val (.int ((xd &&& (7 : Int32)) * (8 : Int32))), .val (.int (xe &&& (3 : Int32))), .val (.long (own_v0_66_10 xa xb xc xd xe)), .second, .val (.long (own_f1 (xb.toInt8.toInt32))), .second, .val (.long (own_v0_105 xa xb xc xd xe)), .second, .val (.int (own_v0_127 xa xb xc xd xe)), .unset, .unset] [(.int (own_v0_140_s0 xa xb xc xd xe))])) ?_ (mg14)
      obtain ⟨fs18, hr18, hrun18, hended18, hW18, hsame18⟩ := X14.leave (v := some (.int (own_v0_140_s0 xa xb xc xd xe))) (fun h => by rw [Bd.returns] at h; cases h)
      refine ⟨_, ⟨_, hrun18, hended18, _, _, rfl, ?_, ⟨_, rfl⟩, hW18, hsame18.mono (by decide) (by decide)⟩, fun _ k => (own_retZ X14 hx Bd.returns (own_b0_140_s0 xa xb xc xd xe) (hb hby at_148) hr18).trans k⟩
      show own_Q0 Z xa xb xc xd xe h0 n0 _ T14.heap _
      rw [e14]
      exact ⟨(congrArg (fun z => some (Value.int z)) (show (own_v0_140_s0 xa xb xc xd xe) = (own_f0 xa xb xc xd xe) from ((Eq.trans (if_pos hc115_11) (if_pos hc133_13))).symm)), N14⟩
    · refine own_go (T' := T12) (f' := (mkF m 149 #[.val (.long xa), .second, .val (.int xb), .val (.int xc), .val (.int xd), .val (.int xe), .val (.int (xb &&& (255 : Int32))), .val (.int ((xc &&& (7 : Int32)) * (8 : Int32))), .val (.int ((xd &&& (7 : Int32)) * (8 : Int32))), .val (.int (xe &&& (3 : Int32))), .val (.long (own_v0_66_10 xa xb xc xd xe)), .second, .val (.long (own_f1 (xb.toInt8.toInt32))), .second, .val (.long (own_v0_105 xa xb xc xd xe)), .second, .val (.int (own_v0_127 xa xb xc xd xe)), .unset, .unset] [])) ?_ (fun _ k => XS.icmpYes X12.here hx rfl (pc0 := 133) (pc' := 149) rfl (hb hby at_133) rfl (feq hc133_13).2 (by decide) (by decide) k)
      refine own_go (T' := T12) (f' := (mkF m 152 #[.val (.long xa), .second, .val (.int xb), .val (.int xc), .val (.int xd), .val (.int xe), .val (.int (xb &&& (255 : Int32))), .val (.int ((xc &&& (7 : Int32)) * (8 : Int32))), .val (.int ((xd &&& (7 : Int32)) * (8 : Int32))), .val (.int (xe &&& (3 : Int32))), .val (.long (own_v0_66_10 xa xb xc xd xe)), .second, .val (.long (own_f1 (xb.toInt8.toInt32))), .second, .val (.long (own_v0_105 xa xb xc xd xe)), .second, .val (.int (own_v0_127 xa xb xc xd xe)), .unset, .unset] [(.long (-1 : Int64))])) ?_ (X12.ldc2Long hx hown (mvT hZ (hw _ (List.mem_of_getElem? (i := 1) rfl))) (g := (mkF m 149 #[.val (.long xa), .second, .val (.int xb), .val (.int xc), .val (.int xd), .val (.int xe), .val (.int (xb &&& (255 : Int32))), .val (.int ((xc &&& (7 : Int32)) * (8 : Int32))), .val (.int ((xd &&& (7 : Int32)) * (8 : Int32))), .val (.int (xe &&& (3 : Int32))), .val (.long (own_v0_66_10 xa xb xc xd xe)), .second, .val (.long (own_f1 (xb.toInt8.toInt32))), .second, .val (.long (own_v0_105 xa xb xc xd xe)), .second, .val (.int (own_v0_127 xa xb xc xd xe)), .unset, .unset] [])) rfl (hb hby at_149))
      refine own_go (T' := T12) (f' := (mkF m 154 #[.val (.long xa), .second, .val (.int xb), .val (.int xc), .val (.int xd), .val (.int xe), .val (.int (xb &&& (255 : Int32))), .val (.int ((xc &&& (7 : Int32)) * (8 : Int32))), .val (.int ((xd &&& (7 : Int32)) * (8 : Int32))), .val (.int (xe &&& (3 : Int32))), .val (.long (own_v0_66_10 xa xb xc xd xe)), .second, .val (.long (own_f1 (xb.toInt8.toInt32))), .second, .val (.long (own_v0_105 xa xb xc xd xe)), .second, .val (.int (own_v0_127 xa xb xc xd xe)), .unset, .unset] [(.int (56 : Int32)), (.long (-1 : Int64))])) ?_ (fun _ k => XS.bipush X12.here hx rfl (hb hby at_152) k)
      refine own_go (T' := T12) (f' := (mkF m 156 #[.val (.long xa), .second, .val (.int xb), .val (.int xc), .val (.int xd), .val (.int xe), .val (.int (xb &&& (255 : Int32))), .val (.int ((xc &&& (7 : Int32)) * (8 : Int32))), .val (.int ((xd &&& (7 : Int32)) * (8 : Int32))), .val (.int (xe &&& (3 : Int32))), .val (.long (own_v0_66_10 xa xb xc xd xe)), .second, .val (.long (own_f1 (xb.toInt8.toInt32))), .second, .val (.long (own_v0_105 xa xb xc xd xe)), .second, .val (.int (own_v0_127 xa xb xc xd xe)), .unset, .unset] [(.int (8 : Int32)), (.int (56 : Int32)), (.long (-1 : Int64))])) ?_ (fun _ k => XS.bipush X12.here hx rfl (hb hby at_154) k)
      refine own_go (T' := T12) (f' := (mkF m 158 #[.val (.long xa), .second, .val (.int xb), .val (.int xc), .val (.int xd), .val (.int xe), .val (.int (xb &&& (255 : Int32))), .val (.int ((xc &&& (7 : Int32)) * (8 : Int32))), .val (.int ((xd &&& (7 : Int32)) * (8 : Int32))), .val (.int (xe &&& (3 : Int32))), .val (.long (own_v0_66_10 xa xb xc xd xe)), .second, .val (.long (own_f1 (xb.toInt8.toInt32))), .second, .val (.long (own_v0_105 xa xb xc xd xe)), .second, .val (.int (own_v0_127 xa xb xc xd xe)), .unset, .unset] [(.int (own_v0_127 xa xb xc xd xe)), (.int (8 : Int32)), (.int (56 : Int32)), (.long (-1 : Int64))])) ?_ (fun _ k => XS.iload X12.here hx rfl (hb hby at_156) rfl  k)
      refine own_go (T' := T12) (f' := (mkF m 159 #[.val (.long xa), .second, .val (.int xb), .val (.int xc), .val (.int xd), .val (.int xe), .val (.int (xb &&& (255 : Int32))), .val (.int ((xc &&& (7 : Int32)) * (8 : Int32))), .val (.int ((xd &&& (7 : Int32)) * (8 : Int32))), .val (.int (xe &&& (3 : Int32))), .val (.long (own_v0_66_10 xa xb xc xd xe)), .second, .val (.long (own_f1 (xb.toInt8.toInt32))), .second, .val (.long (own_v0_105 xa xb xc xd xe)), .second, .val (.int (own_v0_127 xa xb xc xd xe)), .unset, .unset] [(.int ((8 : Int32) * (own_v0_127 xa xb xc xd xe))), (.int (56 : Int32)), (.long (-1 : Int64))])) ?_ (fun _ k => XS.imul X12.here hx rfl (hb hby at_158) rfl k)
      refine own_go (T' := T12) (f' := (mkF m 160 #[.val (.long xa), .second, .val (.int xb), .val (.int xc), .val (.int xd), .val (.int xe), .val (.int (xb &&& (255 : Int32))), .val (.int ((xc &&& (7 : Int32)) * (8 : Int32))), .val (.int ((xd &&& (7 : Int32)) * (8 : Int32))), .val (.int (xe &&& (3 : Int32))), .val (.long (own_v0_66_10 xa xb xc xd xe)), .second, .val (.long (own_f1 (xb.toInt8.toInt32))), .second, .val (.long (own_v0_105 xa xb xc xd xe)), .second, .val (.int (own_v0_127 xa xb xc xd xe)), .unset, .unset] [(.int ((56 : Int32) - ((8 : Int32) * (own_v0_127 xa xb xc xd xe)))), (.long (-1 : Int64))])) ?_ (fun _ k => XS.isub X12.here hx rfl (hb hby at_159) rfl k)
      refine own_go (T' := T12) (f' := (mkF m 161 #[.val (.long xa), .second, .val (.int xb), .val (.int xc), .val (.int xd), .val (.int xe), .val (.int (xb &&& (255 : Int32))), .val (.int ((xc &&& (7 : Int32)) * (8 : Int32))), .val (.int ((xd &&& (7 : Int32)) * (8 : Int32))), .val (.int (xe &&& (3 : Int32))), .val (.long (own_v0_66_10 xa xb xc xd xe)), .second, .val (.long (own_f1 (xb.toInt8.toInt32))), .second, .val (.long (own_v0_105 xa xb xc xd xe)), .second, .val (.int (own_v0_127 xa xb xc xd xe)), .unset, .unset] [(.long (((-1 : Int64).toUInt64 >>> (((56 : Int32) - ((8 : Int32) * (own_v0_127 xa xb xc xd xe))) &&& 0x3f).toInt64.toUInt64).toInt64))])) ?_ (fun _ k => XS.lushr X12.here hx rfl (hb hby at_160) rfl k)
      refine own_go (T' := T12) (f' := (mkF m 163 #[.val (.long xa), .second, .val (.int xb), .val (.int xc), .val (.int xd), .val (.int xe), .val (.int (xb &&& (255 : Int32))), .val (.int ((xc &&& (7 : Int32)) * (8 : Int32))), .val (.int ((xd &&& (7 : Int32)) * (8 : Int32))), .val (.int (xe &&& (3 : Int32))), .val (.long (own_v0_66_10 xa xb xc xd xe)), .second, .val (.long (own_f1 (xb.toInt8.toInt32))), .second, .val (.long (own_v0_105 xa xb xc xd xe)), .second, .val (.int (own_v0_127 xa xb xc xd xe)), .val (.long (own_v0_161 xa xb xc xd xe)), .second] [])) ?_ (fun _ k => XS.lstore X12.here hx rfl (hb hby at_161) rfl (l' := #[.val (.long xa), .second, .val (.int xb), .val (.int xc), .val (.int xd), .val (.int xe), .val (.int (xb &&& (255 : Int32))), .val (.int ((xc &&& (7 : Int32)) * (8 : Int32))), .val (.int ((xd &&& (7 : Int32)) * (8 : Int32))), .val (.int (xe &&& (3 : Int32))), .val (.long (own_v0_66_10 xa xb xc xd xe)), .second, .val (.long (own_f1 (xb.toInt8.toInt32))), .second, .val (.long (own_v0_105 xa xb xc xd xe)), .second, .val (.int (own_v0_127 xa xb xc xd xe)), .val (.long (own_v0_161 xa xb xc xd xe)), .second]) rfl k)
      refine own_go (T' := T12) (f' := (mkF m 165 #[.val (.long xa), .second, .val (.int xb), .val (.int xc), .val (.int xd), .val (.int xe), .val (.int (xb &&& (255 : Int32))), .val (.int ((xc &&& (7 : Int32)) * (8 : Int32))), .val (.int ((xd &&& (7 : Int32)) * (8 : Int32))), .val (.int (xe &&& (3 : Int32))), .val (.long (own_v0_66_10 xa xb xc xd xe)), .second, .val (.long (own_f1 (xb.toInt8.toInt32))), .second, .val (.long (own_v0_105 xa xb xc xd xe)), .second, .val (.int (own_v0_127 xa xb xc xd xe)), .val (.long (own_v0_161 xa xb xc xd xe)), .second] [(.long (own_v0_105 xa xb xc xd xe))])) ?_ (fun _ k => XS.lload X12.here hx rfl (hb hby at_163) rfl  k)
      refine own_go (T' := T12) (f' := (mkF m 167 #[.val (.long xa), .second, .val (.int xb), .val (.int xc), .val (.int xd), .val (.int xe), .val (.int (xb &&& (255 : Int32))), .val (.int ((xc &&& (7 : Int32)) * (8 : Int32))), .val (.int ((xd &&& (7 : Int32)) * (8 : Int32))), .val (.int (xe &&& (3 : Int32))), .val (.long (own_v0_66_10 xa xb xc xd xe)), .second, .val (.long (own_f1 (xb.toInt8.toInt32))), .second, .val (.long (own_v0_105 xa xb xc xd xe)), .second, .val (.int (own_v0_127 xa xb xc xd xe)), .val (.long (own_v0_161 xa xb xc xd xe)), .second] [(.long (own_v0_161 xa xb xc xd xe)), (.long (own_v0_105 xa xb xc xd xe))])) ?_ (fun _ k => XS.lload X12.here hx rfl (hb hby at_165) rfl  k)
      refine own_go (T' := T12) (f' := (mkF m 168 #[.val (.long xa), .second, .val (.int xb), .val (.int xc), .val (.int xd), .val (.int xe), .val (.int (xb &&& (255 : Int32))), .val (.int ((xc &&& (7 : Int32)) * (8 : Int32))), .val (.int ((xd &&& (7 : Int32)) * (8 : Int32))), .val (.int (xe &&& (3 : Int32))), .val (.long (own_v0_66_10 xa xb xc xd xe)), .second, .val (.long (own_f1 (xb.toInt8.toInt32))), .second, .val (.long (own_v0_105 xa xb xc xd xe)), .second, .val (.int (own_v0_127 xa xb xc xd xe)), .val (.long (own_v0_161 xa xb xc xd xe)), .second] [(.long ((own_v0_105 xa xb xc xd xe) &&& (own_v0_161 xa xb xc xd xe)))])) ?_ (fun _ k => XS.land X12.here hx rfl (hb hby at_167) rfl k)
      refine own_go (T' := T12) (f' := (mkF m 169 #[.val (.long xa), .second, .val (.int xb), .val (.int xc), .val (.int xd), .val (.int xe), .val (.int (xb &&& (255 : Int32))), .val (.int ((xc &&& (7 : Int32)) * (8 : Int32))), .val (.int ((xd &&& (7 : Int32)) * (8 : Int32))), .val (.int (xe &&& (3 : Int32))), .val (.long (own_v0_66_10 xa xb xc xd xe)), .second, .val (.long (own_f1 (xb.toInt8.toInt32))), .second, .val (.long (own_v0_105 xa xb xc xd xe)), .second, .val (.int (own_v0_127 xa xb xc xd xe)), .val (.long (own_v0_161 xa xb xc xd xe)), .second] [(.long (1 : Int64)), (.long ((own_v0_105 xa xb xc xd xe) &&& (own_v0_161 xa xb xc xd xe)))])) ?_ (fun _ k => XS.lconst X12.here hx rfl (hb hby at_168) k)
      refine own_go (T' := T12) (f' := (mkF m 171 #[.val (.long xa), .second, .val (.int xb), .val (.int xc), .val (.int xd), .val (.int xe), .val (.int (xb &&& (255 : Int32))), .val (.int ((xc &&& (7 : Int32)) * (8 : Int32))), .val (.int ((xd &&& (7 : Int32)) * (8 : Int32))), .val (.int (xe &&& (3 : Int32))), .val (.long (own_v0_66_10 xa xb xc xd xe)), .second, .val (.long (own_f1 (xb.toInt8.toInt32))), .second, .val (.long (own_v0_105 xa xb xc xd xe)), .second, .val (.int (own_v0_127 xa xb xc xd xe)), .val (.long (own_v0_161 xa xb xc xd xe)), .second] [(.int (8 : Int32)), (.long (1 : Int64)), (.long ((own_v0_105 xa xb xc xd xe) &&& (own_v0_161 xa xb xc xd xe)))])) ?_ (fun _ k => XS.bipush X12.here hx rfl (hb hby at_169) k)
      refine own_go (T' := T12) (f' := (mkF m 173 #[.val (.long xa), .second, .val (.int xb), .val (.int xc), .val (.int xd), .val (.int xe), .val (.int (xb &&& (255 : Int32))), .val (.int ((xc &&& (7 : Int32)) * (8 : Int32))), .val (.int ((xd &&& (7 : Int32)) * (8 : Int32))), .val (.int (xe &&& (3 : Int32))), .val (.long (own_v0_66_10 xa xb xc xd xe)), .second, .val (.long (own_f1 (xb.toInt8.toInt32))), .second, .val (.long (own_v0_105 xa xb xc xd xe)), .second, .val (.int (own_v0_127 xa xb xc xd xe)), .val (.long (own_v0_161 xa xb xc xd xe)), .second] [(.int (own_v0_127 xa xb xc xd xe)), (.int (8 : Int32)), (.long (1 : Int64)), (.long ((own_v0_105 xa xb xc xd xe) &&& (own_v0_161 xa xb xc xd xe)))])) ?_ (fun _ k => XS.iload X12.here hx rfl (hb hby at_171) rfl  k)
      refine own_go (T' := T12) (f' := (mkF m 174 #[.val (.long xa), .second, .val (.int xb), .val (.int xc), .val (.int xd), .val (.int xe), .val (.int (xb &&& (255 : Int32))), .val (.int ((xc &&& (7 : Int32)) * (8 : Int32))), .val (.int ((xd &&& (7 : Int32)) * (8 : Int32))), .val (.int (xe &&& (3 : Int32))), .val (.long (own_v0_66_10 xa xb xc xd xe)), .second, .val (.long (own_f1 (xb.toInt8.toInt32))), .second, .val (.long (own_v0_105 xa xb xc xd xe)), .second, .val (.int (own_v0_127 xa xb xc xd xe)), .val (.long (own_v0_161 xa xb xc xd xe)), .second] [(.int ((8 : Int32) * (own_v0_127 xa xb xc xd xe))), (.long (1 : Int64)), (.long ((own_v0_105 xa xb xc xd xe) &&& (own_v0_161 xa xb xc xd xe)))])) ?_ (fun _ k => XS.imul X12.here hx rfl (hb hby at_173) rfl k)
      refine own_go (T' := T12) (f' := (mkF m 176 #[.val (.long xa), .second, .val (.int xb), .val (.int xc), .val (.int xd), .val (.int xe), .val (.int (xb &&& (255 : Int32))), .val (.int ((xc &&& (7 : Int32)) * (8 : Int32))), .val (.int ((xd &&& (7 : Int32)) * (8 : Int32))), .val (.int (xe &&& (3 : Int32))), .val (.long (own_v0_66_10 xa xb xc xd xe)), .second, .val (.long (own_f1 (xb.toInt8.toInt32))), .second, .val (.long (own_v0_105 xa xb xc xd xe)), .second, .val (.int (own_v0_127 xa xb xc xd xe)), .val (.long (own_v0_161 xa xb xc xd xe)), .second] [(.int (7 : Int32)), (.int ((8 : Int32) * (own_v0_127 xa xb xc xd xe))), (.long (1 : Int64)), (.long ((own_v0_105 xa xb xc xd xe) &&& (own_v0_161 xa xb xc xd xe)))])) ?_ (fun _ k => XS.bipush X12.here hx rfl (hb hby at_174) k)
      refine own_go (T' := T12) (f' := (mkF m 177 #[.val (.long xa), .second, .val (.int xb), .val (.int xc), .val (.int xd), .val (.int xe), .val (.int (xb &&& (255 : Int32))), .val (.int ((xc &&& (7 : Int32)) * (8 : Int32))), .val (.int ((xd &&& (7 : Int32)) * (8 : Int32))), .val (.int (xe &&& (3 : Int32))), .val (.long (own_v0_66_10 xa xb xc xd xe)), .second, .val (.long (own_f1 (xb.toInt8.toInt32))), .second, .val (.long (own_v0_105 xa xb xc xd xe)), .second, .val (.int (own_v0_127 xa xb xc xd xe)), .val (.long (own_v0_161 xa xb xc xd xe)), .second] [(.int (((8 : Int32) * (own_v0_127 xa xb xc xd xe)) + (7 : Int32))), (.long (1 : Int64)), (.long ((own_v0_105 xa xb xc xd xe) &&& (own_v0_161 xa xb xc xd xe)))])) ?_ (fun _ k => XS.iadd X12.here hx rfl (hb hby at_176) rfl k)
      refine own_go (T' := T12) (f' := (mkF m 178 #[.val (.long xa), .second, .val (.int xb), .val (.int xc), .val (.int xd), .val (.int xe), .val (.int (xb &&& (255 : Int32))), .val (.int ((xc &&& (7 : Int32)) * (8 : Int32))), .val (.int ((xd &&& (7 : Int32)) * (8 : Int32))), .val (.int (xe &&& (3 : Int32))), .val (.long (own_v0_66_10 xa xb xc xd xe)), .second, .val (.long (own_f1 (xb.toInt8.toInt32))), .second, .val (.long (own_v0_105 xa xb xc xd xe)), .second, .val (.int (own_v0_127 xa xb xc xd xe)), .val (.long (own_v0_161 xa xb xc xd xe)), .second] [(.long ((1 : Int64) <<< ((((8 : Int32) * (own_v0_127 xa xb xc xd xe)) + (7 : Int32)) &&& 0x3f).toInt64)), (.long ((own_v0_105 xa xb xc xd xe) &&& (own_v0_161 xa xb xc xd xe)))])) ?_ (fun _ k => XS.lshl X12.here hx rfl (hb hby at_177) rfl k)
      refine own_go (T' := T12) (f' := (mkF m 179 #[.val (.long xa), .second, .val (.int xb), .val (.int xc), .val (.int xd), .val (.int xe), .val (.int (xb &&& (255 : Int32))), .val (.int ((xc &&& (7 : Int32)) * (8 : Int32))), .val (.int ((xd &&& (7 : Int32)) * (8 : Int32))), .val (.int (xe &&& (3 : Int32))), .val (.long (own_v0_66_10 xa xb xc xd xe)), .second, .val (.long (own_f1 (xb.toInt8.toInt32))), .second, .val (.long (own_v0_105 xa xb xc xd xe)), .second, .val (.int (own_v0_127 xa xb xc xd xe)), .val (.long (own_v0_161 xa xb xc xd xe)), .second] [(.int (lcmpW ((own_v0_105 xa xb xc xd xe) &&& (own_v0_161 xa xb xc xd xe)) ((1 : Int64) <<< ((((8 : Int32) * (own_v0_127 xa xb xc xd xe)) + (7 : Int32)) &&& 0x3f).toInt64)))])) ?_ (fun _ k => XS.lcmp X12.here hx rfl (hb hby at_178) rfl k)
      obtain ⟨_, ⟨T19, L19, rfl, X19, e19, N19⟩, mg19⟩ : own_Goes p.tables e below (fun uu => ∃ (T' : State) (L' : List Loc), uu = T'.setTop (mkF m 187 #[.val (.long xa), .second, .val (.int xb), .val (.int xc), .val (.int xd), .val (.int xe), .val (.int (xb &&& (255 : Int32))), .val (.int ((xc &&& (7 : Int32)) * (8 : Int32))), .val (.int ((xd &&& (7 : Int32)) * (8 : Int32))), .val (.int (xe &&& (3 : Int32))), .val (.long (own_v0_66_10 xa xb xc xd xe)), .second, .val (.long (own_f1 (xb.toInt8.toInt32))), .second, .val (.long (own_v0_105 xa xb xc xd xe)), .second, .val (.int (own_v0_127 xa xb xc xd xe)), .val (.long (own_v0_161 xa xb xc xd xe)), .second] [(.int (own_v0_179_s0 xa xb xc xd xe))]) ∧ Stand p l e room_1 s m #[(.long xa), (.int xb), (.int xc), (.int xd), (.int xe)] below meth c T' L' 0 0 ∧ T'.heap = h0 ∧ Fr n0 L') T12 (mkF m 179 #[.val (.long xa), .second, .val (.int xb), .val (.int xc), .val (.int xd), .val (.int xe), .val (.int (xb &&& (255 : Int32))), .val (.int ((xc &&& (7 : Int32)) * (8 : Int32))), .val (.int ((xd &&& (7 : Int32)) * (8 : Int32))), .val (.int (xe &&& (3 : Int32))), .val (.long (own_v0_66_10 xa xb xc xd xe)), .second, .val (.long (own_f1 (xb.toInt8.toInt32))), .second, .val (.long (own_v0_105 xa xb xc xd xe)), .second, .val (.int (own_v0_127 xa xb xc xd xe)), .val (.long (own_v0_161 xa xb xc xd xe)), .second] [(.int (lcmpW ((own_v0_105 xa xb xc xd xe) &&& (own_v0_161 xa xb xc xd xe)) ((1 : Int64) <<< ((((8 : Int32) * (own_v0_127 xa xb xc xd xe)) + (7 : Int32)) &&& 0x3f).toInt64)))]) := by
        by_cases hc179_20 : (lcmpW ((own_v0_105 xa xb xc xd xe) &&& (own_v0_161 xa xb xc xd xe)) ((1 : Int64) <<< ((((8 : Int32) * (own_v0_127 xa xb xc xd xe)) + (7 : Int32)) &&& 0x3f).toInt64)) = (0 : Int32)
        · refine own_go (T' := T12) (f' := (mkF m 182 #[.val (.long xa), .second, .val (.int xb), .val (.int xc), .val (.int xd), .val (.int xe), .val (.int (xb &&& (255 : Int32))), .val (.int ((xc &&& (7 : Int32)) * (8 : Int32))), .val (.int ((xd &&& (7 : Int32)) * (8 : Int32))), .val (.int (xe &&& (3 : Int32))), .val (.long (own_v0_66_10 xa xb xc xd xe)), .second, .val (.long (own_f1 (xb.toInt8.toInt32))), .second, .val (.long (own_v0_105 xa xb xc xd xe)), .second, .val (.int (own_v0_127 xa xb xc xd xe)), .val (.long (own_v0_161 xa xb xc xd xe)), .second] [])) ?_ (fun _ k => XS.ifNo X12.here hx rfl (hb hby at_179) rfl ((if0 _ _).trans (teq hc179_20).2) k)
          refine own_go (T' := T12) (f' := (mkF m 183 #[.val (.long xa), .second, .val (.int xb), .val (.int xc), .val (.int xd), .val (.int xe), .val (.int (xb &&& (255 : Int32))), .val (.int ((xc &&& (7 : Int32)) * (8 : Int32))), .val (.int ((xd &&& (7 : Int32)) * (8 : Int32))), .val (.int (xe &&& (3 : Int32))), .val (.long (own_v0_66_10 xa xb xc xd xe)), .second, .val (.long (own_f1 (xb.toInt8.toInt32))), .second, .val (.long (own_v0_105 xa xb xc xd xe)), .second, .val (.int (own_v0_127 xa xb xc xd xe)), .val (.long (own_v0_161 xa xb xc xd xe)), .second] [(.int (1 : Int32))])) ?_ (fun _ k => XS.iconst X12.here hx rfl (hb hby at_182) k)
          refine own_go (T' := T12) (f' := (mkF m 187 #[.val (.long xa), .second, .val (.int xb), .val (.int xc), .val (.int xd), .val (.int xe), .val (.int (xb &&& (255 : Int32))), .val (.int ((xc &&& (7 : Int32)) * (8 : Int32))), .val (.int ((xd &&& (7 : Int32)) * (8 : Int32))), .val (.int (xe &&& (3 : Int32))), .val (.long (own_v0_66_10 xa xb xc xd xe)), .second, .val (.long (own_f1 (xb.toInt8.toInt32))), .second, .val (.long (own_v0_105 xa xb xc xd xe)), .second, .val (.int (own_v0_127 xa xb xc xd xe)), .val (.long (own_v0_161 xa xb xc xd xe)), .second] [(.int (1 : Int32))])) ?_ (fun _ k => XS.goto X12.here hx rfl (pc0 := 183) (pc' := 187) rfl (hb hby at_183) (by decide) (by decide) k)
          have em21 : (own_v0_179_s0 xa xb xc xd xe) = (1 : Int32) := (if_pos hc179_20)
          exact ⟨_, ⟨T12, _, (by rw [em21]), X12, e12, N12⟩, fun _ k => k⟩
        · refine own_go (T' := T12) (f' := (mkF m 186 #[.val (.long xa), .second, .val (.int xb), .val (.int xc), .val (.int xd), .val (.int xe), .val (.int (xb &&& (255 : Int32))), .val (.int ((xc &&& (7 : Int32)) * (8 : Int32))), .val (.int ((xd &&& (7 : Int32)) * (8 : Int32))), .val (.int (xe &&& (3 : Int32))), .val (.long (own_v0_66_10 xa xb xc xd xe)), .second, .val (.long (own_f1 (xb.toInt8.toInt32))), .second, .val (.long (own_v0_105 xa xb xc xd xe)), .second, .val (.int (own_v0_127 xa xb xc xd xe)), .val (.long (own_v0_161 xa xb xc xd xe)), .second] [])) ?_ (fun _ k => XS.ifYes X12.here hx rfl (pc0 := 179) (pc' := 186) rfl (hb hby at_179) rfl ((if0 _ _).trans (feq hc179_20).2) (by decide) (by decide) k)
          refine own_go (T' := T12) (f' := (mkF m 187 #[.val (.long xa), .second, .val (.int xb), .val (.int xc), .val (.int xd), .val (.int xe), .val (.int (xb &&& (255 : Int32))), .val (.int ((xc &&& (7 : Int32)) * (8 : Int32))), .val (.int ((xd &&& (7 : Int32)) * (8 : Int32))), .val (.int (xe &&& (3 : Int32))), .val (.long (own_v0_66_10 xa xb xc xd xe)), .second, .val (.long (own_f1 (xb.toInt8.toInt32))), .second, .val (.long (own_v0_105 xa xb xc xd xe)), .second, .val (.int (own_v0_127 xa xb xc xd xe)), .val (.long (own_v0_161 xa xb xc xd xe)), .second] [(.int (0 : Int32))])) ?_ (fun _ k => XS.iconst X12.here hx rfl (hb hby at_186) k)
          have em22 : (own_v0_179_s0 xa xb xc xd xe) = (0 : Int32) := (if_neg hc179_20)
          exact ⟨_, ⟨T12, _, (by rw [em22]), X12, e12, N12⟩, fun _ k => k⟩
      refine own_go (T' := T19) (f' := (mkF m 187 #[.val (.long xa), .second, .val (.int xb), .val (.int xc), .val (.int xd), .val (.int xe), .val (.int (xb &&& (255 : Int32))), .val (.int ((xc &&& (7 : Int32)) * (8 : Int32))), .val (.int ((xd &&& (7 : Int32)) * (8 : Int32))), .val (.int (xe &&& (3 : Int32))), .val (.long (own_v0_66_10 xa xb xc xd xe)), .second, .val (.long (own_f1 (xb.toInt8.toInt32))), .second, .val (.long (own_v0_105 xa xb xc xd xe)), .second, .val (.int (own_v0_127 xa xb xc xd xe)), .val (.long (own_v0_161 xa xb xc xd xe)), .second] [(.int (own_v0_179_s0 xa xb xc xd xe))])) ?_ (mg19)
      obtain ⟨fs23, hr23, hrun23, hended23, hW23, hsame23⟩ := X19.leave (v := some (.int (own_v0_179_s0 xa xb xc xd xe))) (fun h => by rw [Bd.returns] at h; cases h)
      refine ⟨_, ⟨_, hrun23, hended23, _, _, rfl, ?_, ⟨_, rfl⟩, hW23, hsame23.mono (by decide) (by decide)⟩, fun _ k => (own_retZ X19 hx Bd.returns (own_b0_179_s0 xa xb xc xd xe) (hb hby at_187) hr23).trans k⟩
      show own_Q0 Z xa xb xc xd xe h0 n0 _ T19.heap _
      rw [e19]
      exact ⟨(congrArg (fun z => some (Value.int z)) (show (own_v0_179_s0 xa xb xc xd xe) = (own_f0 xa xb xc xd xe) from ((Eq.trans (if_pos hc115_11) (if_neg hc133_13))).symm)), N19⟩
  · refine own_go (T' := T10) (f' := (mkF m 118 #[.val (.long xa), .second, .val (.int xb), .val (.int xc), .val (.int xd), .val (.int xe), .val (.int (xb &&& (255 : Int32))), .val (.int ((xc &&& (7 : Int32)) * (8 : Int32))), .val (.int ((xd &&& (7 : Int32)) * (8 : Int32))), .val (.int (xe &&& (3 : Int32))), .val (.long (own_v0_66_10 xa xb xc xd xe)), .second, .val (.long (own_f1 (xb.toInt8.toInt32))), .second, .val (.long (own_v0_105 xa xb xc xd xe)), .second, .unset, .unset, .unset] [])) ?_ (fun _ k => XS.ifNo X10.here hx rfl (hb hby at_115) rfl ((if0 _ _).trans (feq hc115_11).1) k)
    refine own_go (T' := T10) (f' := (mkF m 119 #[.val (.long xa), .second, .val (.int xb), .val (.int xc), .val (.int xd), .val (.int xe), .val (.int (xb &&& (255 : Int32))), .val (.int ((xc &&& (7 : Int32)) * (8 : Int32))), .val (.int ((xd &&& (7 : Int32)) * (8 : Int32))), .val (.int (xe &&& (3 : Int32))), .val (.long (own_v0_66_10 xa xb xc xd xe)), .second, .val (.long (own_f1 (xb.toInt8.toInt32))), .second, .val (.long (own_v0_105 xa xb xc xd xe)), .second, .unset, .unset, .unset] [(.int (0 : Int32))])) ?_ (fun _ k => XS.iconst X10.here hx rfl (hb hby at_118) k)
    obtain ⟨fs24, hr24, hrun24, hended24, hW24, hsame24⟩ := X10.leave (v := some (.int (0 : Int32))) (fun h => by rw [Bd.returns] at h; cases h)
    refine ⟨_, ⟨_, hrun24, hended24, _, _, rfl, ?_, ⟨_, rfl⟩, hW24, hsame24.mono (by decide) (by decide)⟩, fun _ k => (own_retZ X10 hx Bd.returns (by decide) (hb hby at_119) hr24).trans k⟩
    show own_Q0 Z xa xb xc xd xe h0 n0 _ T10.heap _
    rw [e10]
    exact ⟨(congrArg (fun z => some (Value.int z)) (show (0 : Int32) = (own_f0 xa xb xc xd xe) from ((if_neg hc115_11)).symm)), N10⟩
def own_ones : Nat → Nat
  | 0 => 0
  | n + 1 => 1 + 256 * own_ones n
theorem own_p256 : ∀ n : Nat, 1 ≤ 256 ^ n
  | 0 => by decide
  | n + 1 => by have := own_p256 n; rw [Nat.pow_succ]; omega
theorem own_ones_le : ∀ n, own_ones n < 256 ^ n
  | 0 => by decide
  | n + 1 => by have := own_ones_le n; have h := own_p256 n; simp only [own_ones, Nat.pow_succ]; omega
def own_r (n x : Nat) : Nat := (((x + 256 ^ n - own_ones n) % 256 ^ n) &&& (256 ^ n - 1 - x)) &&& (128 * own_ones n)
theorem own_and_low (a b A B : Nat) (ha : a < 256) (hb : b < 256) : (a + 256 * A) &&& (b + 256 * B) = (a &&& b) + 256 * (A &&& B) := by
  apply Nat.eq_of_testBit_eq
  intro i
  have h1 := Nat.testBit_two_pow_mul_add A (i := 8) (b := a) (by omega) i
  have h2 := Nat.testBit_two_pow_mul_add B (i := 8) (b := b) (by omega) i
  have hab : a &&& b < 2 ^ 8 := Nat.and_lt_two_pow _ (by omega)
  have h3 := Nat.testBit_two_pow_mul_add (A &&& B) (i := 8) (b := a &&& b) hab i
  rw [show a + 256 * A = 2 ^ 8 * A + a by omega, show b + 256 * B = 2 ^ 8 * B + b by omega, show (a &&& b) + 256 * (A &&& B) = 2 ^ 8 * (A &&& B) + (a &&& b) by omega, Nat.testBit_and, h1, h2, h3]
  split
  · rw [Nat.testBit_and]
  · rw [Nat.testBit_and]
theorem own_mod_low (a b c : Nat) (ha : a < 256) : (a + 256 * b) % (256 * c) = a + 256 * (b % c) := by
  rcases Nat.eq_zero_or_pos c with rfl | hc
  · simp
  · have h := Nat.div_add_mod b c
    have : a + 256 * b = (a + 256 * (b % c)) + (256 * c) * (b / c) := by
      have e : 256 * (c * (b / c) + b % c) = 256 * b := by rw [h]
      rw [Nat.mul_add] at e; rw [Nat.mul_assoc]; omega
    rw [this, Nat.add_mul_mod_self_left, Nat.mod_eq_of_lt]
    have := Nat.mod_lt b hc
    omega
theorem own_byte : ∀ v : Fin 256, v.val ≠ 0 → ((v.val - 1) &&& (255 - v.val)) &&& 128 = 0 := by decide +kernel
theorem own_r_step (n x : Nat) (hx : x / 256 < 256 ^ n) (h0 : x % 256 ≠ 0) : own_r (n + 1) x = 256 * own_r n (x / 256) := by
  have e := Nat.div_add_mod x 256
  generalize hq : x / 256 = q at *
  generalize hr : x % 256 = r at *
  have hr2 : r < 256 := by omega
  have o := own_ones_le n
  have p1 : 256 ^ (n + 1) = 256 * 256 ^ n := by rw [Nat.pow_succ, Nat.mul_comm]
  unfold own_r
  simp only [own_ones]
  rw [p1, show x + 256 * 256 ^ n - (1 + 256 * own_ones n) = (r - 1) + 256 * (q + 256 ^ n - own_ones n) by omega, own_mod_low _ _ _ (by omega),
    show 256 * 256 ^ n - 1 - x = (255 - r) + 256 * (256 ^ n - 1 - q) by omega, own_and_low _ _ _ _ (by omega) (by omega), show 128 * (1 + 256 * own_ones n) = 128 + 256 * (128 * own_ones n) by omega, own_and_low _ _ _ _ (Nat.lt_of_le_of_lt Nat.and_le_left (by omega)) (by decide), own_byte ⟨r, hr2⟩ h0, Nat.zero_add]
theorem own_r_zero (n x : Nat) (hx : x < 256 ^ (n + 1)) (h0 : x % 256 = 0) : own_r (n + 1) x % 256 = 128 := by
  have e := Nat.div_add_mod x 256
  generalize hq : x / 256 = q at *
  have o := own_ones_le n
  have p1 : 256 ^ (n + 1) = 256 * 256 ^ n := by rw [Nat.pow_succ, Nat.mul_comm]
  rw [p1] at hx
  unfold own_r
  simp only [own_ones]
  rw [p1, show x + 256 * 256 ^ n - (1 + 256 * own_ones n) = 255 + 256 * (q + 256 ^ n - own_ones n - 1) by omega, own_mod_low _ _ _ (by decide),
    show 256 * 256 ^ n - 1 - x = 255 + 256 * (256 ^ n - 1 - q) by omega, own_and_low _ _ _ _ (by decide) (by decide), show 128 * (1 + 256 * own_ones n) = 128 + 256 * (128 * own_ones n) by omega, own_and_low _ _ _ _ (by decide) (by decide)]
  rw [Nat.add_mul_mod_self_left]; rfl
theorem own_r_none : ∀ (n x : Nat), x < 256 ^ n → (∀ i, i < n → x / 256 ^ i % 256 ≠ 0) → own_r n x = 0
  | 0, x, _, _ => by simp [own_r, own_ones]
  | n + 1, x, hx, h => by
    have p1 : 256 ^ (n + 1) = 256 * 256 ^ n := by rw [Nat.pow_succ, Nat.mul_comm]
    have hq : x / 256 < 256 ^ n := by rw [p1] at hx; exact Nat.div_lt_of_lt_mul hx
    rw [own_r_step n x hq (by simpa using h 0 (by omega)), own_r_none n (x / 256) hq (fun i hi => ?_)]
    have := h (i + 1) (by omega)
    rw [Nat.pow_succ, Nat.mul_comm, ← Nat.div_div_eq_div_mul] at this
    exact this
theorem own_r_first : ∀ (n k x : Nat), x < 256 ^ n → k < n → x / 256 ^ k % 256 = 0 → (∀ i, i < k → x / 256 ^ i % 256 ≠ 0) → own_r n x % 256 ^ (k + 1) = 128 * 256 ^ k
  | 0, k, x, _, hk, _, _ => absurd hk (Nat.not_lt_zero _)
  | n + 1, 0, x, hx, hk, h0, _ => by simpa using own_r_zero n x hx (by simpa using h0)
  | n + 1, k + 1, x, hx, hk, h0, h => by
    have p1 : 256 ^ (n + 1) = 256 * 256 ^ n := by rw [Nat.pow_succ, Nat.mul_comm]
    have hq : x / 256 < 256 ^ n := by rw [p1] at hx; exact Nat.div_lt_of_lt_mul hx
    have st : ∀ i, x / 256 ^ (i + 1) = x / 256 / 256 ^ i := fun i => by rw [Nat.pow_succ, Nat.mul_comm, ← Nat.div_div_eq_div_mul]
    rw [own_r_step n x hq (by simpa using h 0 (by omega))]
    have ih := own_r_first n k (x / 256) hq (by omega) (by rw [← st]; exact h0) (fun i hi => by rw [← st]; exact h (i + 1) (by omega))
    rw [show 256 ^ (k + 1 + 1) = 256 * 256 ^ (k + 1) by rw [Nat.pow_succ, Nat.mul_comm], Nat.mul_mod_mul_left, ih, show 256 ^ (k + 1) = 256 * 256 ^ k by rw [Nat.pow_succ, Nat.mul_comm]]
    omega

theorem own_nat64 {x y : Int64} (h : x.toBitVec.toNat = y.toBitVec.toNat) : x = y := Int64.toBitVec_inj.mp (BitVec.eq_of_toNat_eq h)
theorem own_match (x y : Int64) : (own_f2 x y).toBitVec.toNat = own_r 8 (x ^^^ y).toBitVec.toNat := by
  unfold own_f2 own_r
  generalize x ^^^ y = z
  have hz := z.toBitVec.isLt
  rw [Int64.toBitVec_and, Int64.toBitVec_and, Int64.toBitVec_sub, Int64.toBitVec_xor, BitVec.toNat_and, BitVec.toNat_and, BitVec.toNat_sub]
  have e1 : (z.toBitVec ^^^ (-1 : Int64).toBitVec).toNat = 256 ^ 8 - 1 - z.toBitVec.toNat := by
    rw [show (-1 : Int64).toBitVec = BitVec.allOnes 64 from by decide, BitVec.xor_allOnes, BitVec.toNat_not]
  have e2 : (2 ^ 64 - (72340172838076673 : Int64).toBitVec.toNat + z.toBitVec.toNat) % 2 ^ 64 = (z.toBitVec.toNat + 256 ^ 8 - own_ones 8) % 256 ^ 8 := by
    rw [show (72340172838076673 : Int64).toBitVec.toNat = 72340172838076673 from by decide, show own_ones 8 = 72340172838076673 from by decide, show (256 ^ 8 : Nat) = 2 ^ 64 from by decide]
    rw [show 2 ^ 64 - 72340172838076673 + z.toBitVec.toNat = z.toBitVec.toNat + 2 ^ 64 - 72340172838076673 by omega]
  rw [e1, e2, show (-9187201950435737472 : Int64).toBitVec.toNat = 128 * own_ones 8 from by decide]
theorem own_case (R L S : Int64) (X k : Nat) (hR : R.toBitVec.toNat = own_r 8 X) (hX : X < 256 ^ 8) (hk : k < 8) (hL : L.toBitVec.toNat = 2 ^ (8 * (k + 1)) - 1) (hS : S.toBitVec.toNat = 128 * 256 ^ k) (h0 : X / 256 ^ k % 256 = 0) (h : ∀ i, i < k → X / 256 ^ i % 256 ≠ 0) : R &&& L = S := by
  apply own_nat64
  rw [Int64.toBitVec_and, BitVec.toNat_and, hR, hL, hS, Nat.and_two_pow_sub_one_eq_mod]
  have := own_r_first 8 k X hX hk h0 h
  rw [show (2 : Nat) ^ (8 * (k + 1)) = 256 ^ (k + 1) by rw [Nat.pow_mul]]
  exact this
theorem own_xor0 (a b : Nat) : a ^^^ b = 0 ↔ a = b := by
  constructor
  · intro h
    apply Nat.eq_of_testBit_eq
    intro i
    have := congrArg (fun n => n.testBit i) h
    simp at this
    exact this
  · rintro rfl; simp
theorem own_spread_all : ∀ B : Fin 256, ∀ i : Fin 8, (B.val * 72340172838076673) / 256 ^ i.val % 256 = B.val := by decide +kernel
theorem own_spread (B i : Nat) (hB : B < 256) (hi : i < 8) : (B * 72340172838076673) / 256 ^ i % 256 = B := own_spread_all ⟨B, hB⟩ ⟨i, hi⟩
theorem own_bytes (W B i : Nat) (hB : B < 256) (hi : i < 8) : ((W ^^^ (B * 72340172838076673)) / 256 ^ i % 256 = 0) ↔ W / 256 ^ i % 256 = B := by
  have p : (256 : Nat) ^ i = 2 ^ (8 * i) := by rw [Nat.pow_mul]
  have s := own_spread B i hB hi
  rw [p, ← Nat.shiftRight_eq_div_pow] at s
  rw [p, ← Nat.shiftRight_eq_div_pow, ← Nat.shiftRight_eq_div_pow, Nat.shiftRight_xor_distrib, show (256 : Nat) = 2 ^ 8 from rfl, Nat.xor_mod_two_pow, show (2 : Nat) ^ 8 = 256 from rfl, s]
  exact own_xor0 _ _
theorem own_b255 (v : Int32) : (v.toInt8.toInt32 &&& (255 : Int32)) = v &&& (255 : Int32) := by
  rw [own_eq32, own_and255, own_and255, Int8.toInt_toInt32, Int32.toInt_toInt8]
  exact Int.bmod_emod ..
theorem own_bn (v : Int32) : ((v &&& (255 : Int32)).toInt64).toBitVec.toNat = (v.toInt % 256).toNat := by
  have h1 : ((v &&& (255 : Int32)).toInt64).toInt = v.toInt % 256 := by rw [Int32.toInt_toInt64, own_and255]
  have h2 : ((v &&& (255 : Int32)).toInt64).toInt = ((v &&& (255 : Int32)).toInt64).toBitVec.toInt := rfl
  have h3 := BitVec.toInt_eq_toNat_cond ((v &&& (255 : Int32)).toInt64).toBitVec
  rw [h2, h3] at h1
  split at h1 <;> omega
theorem own_w8 (W : Int64) (k : Int32) (n : Nat) (hk : (k &&& 0x3f).toInt64.toUInt64.toNat = 8 * n) (hn : n < 8) : ((W.toUInt64 >>> (k &&& 0x3f).toInt64.toUInt64).toInt64 &&& (255 : Int64)).toBitVec.toNat = W.toBitVec.toNat / 256 ^ n % 256 := by
  rw [Int64.toBitVec_and, BitVec.toNat_and]
  show (W.toUInt64 >>> (k &&& 0x3f).toInt64.toUInt64).toNat &&& _ = _
  rw [UInt64.toNat_shiftRight, hk, Nat.mod_eq_of_lt (by omega), Nat.shiftRight_eq_div_pow, Nat.pow_mul, show (255 : Int64).toBitVec.toNat = 2 ^ 8 - 1 from by decide, Nat.and_two_pow_sub_one_eq_mod]
  rfl
theorem own_cond (W : Int64) (v : Int32) (k : Int32) (n : Nat) (hk : (k &&& 0x3f).toInt64.toUInt64.toNat = 8 * n) (hn : n < 8) : (lcmpW ((W.toUInt64 >>> (k &&& 0x3f).toInt64.toUInt64).toInt64 &&& (255 : Int64)) ((v &&& (255 : Int32)).toInt64) = (0 : Int32)) ↔ W.toBitVec.toNat / 256 ^ n % 256 = (v.toInt % 256).toNat := by
  rw [lw_eq]
  constructor
  · intro h; rw [← own_w8 W k n hk hn, h, own_bn]
  · intro h; exact own_nat64 (by rw [own_w8 W k n hk hn, own_bn]; exact h)
theorem own_cond0 (W : Int64) (v : Int32) : (lcmpW (W &&& (255 : Int64)) ((v &&& (255 : Int32)).toInt64) = (0 : Int32)) ↔ W.toBitVec.toNat / 256 ^ 0 % 256 = (v.toInt % 256).toNat := by
  have e : (W &&& (255 : Int64)).toBitVec.toNat = W.toBitVec.toNat / 256 ^ 0 % 256 := by
    rw [Int64.toBitVec_and, BitVec.toNat_and, show (255 : Int64).toBitVec.toNat = 2 ^ 8 - 1 from by decide, Nat.and_two_pow_sub_one_eq_mod]; simp
  rw [lw_eq]
  constructor
  · intro h; rw [← e, h, own_bn]
  · intro h; exact own_nat64 (by rw [e, own_bn]; exact h)
/-- the law's last part: the word, the byte, the number of the first place that holds it -/
def own_end (R : Int64) (k : Int32) : Int32 := (if (lcmpW (R &&& (9187201950435737471 : Int64)) (0 : Int64)) = (0 : Int32) then (if k = (8 : Int32) then (if (lcmpW R (0 : Int64)) = (0 : Int32) then (1 : Int32) else (0 : Int32)) else (if (lcmpW (R &&& (((-1 : Int64).toUInt64 >>> (((56 : Int32) - ((8 : Int32) * k)) &&& 0x3f).toInt64.toUInt64).toInt64)) ((1 : Int64) <<< ((((8 : Int32) * k) + (7 : Int32)) &&& 0x3f).toInt64)) = (0 : Int32) then (1 : Int32) else (0 : Int32))) else (0 : Int32))
theorem own_core (W : Int64) (v : Int32) : own_end (own_f2 W (own_f1 v.toInt8.toInt32)) (own_f3 W (v &&& (255 : Int32))) = 1 := by
  have hm := own_match W (own_f1 v.toInt8.toInt32)
  have hB : (v.toInt % 256).toNat < 256 := by omega
  have hs : (own_f1 v.toInt8.toInt32).toBitVec.toNat = (v.toInt % 256).toNat * 72340172838076673 := by
    unfold own_f1
    rw [own_b255, Int64.toBitVec_mul, BitVec.toNat_mul, own_bn, show (72340172838076673 : Int64).toBitVec.toNat = 72340172838076673 from by decide, Nat.mod_eq_of_lt (by omega)]
  have hx : (W ^^^ own_f1 v.toInt8.toInt32).toBitVec.toNat = W.toBitVec.toNat ^^^ ((v.toInt % 256).toNat * 72340172838076673) := by rw [Int64.toBitVec_xor, BitVec.toNat_xor, hs]
  have hX : (W ^^^ own_f1 v.toInt8.toInt32).toBitVec.toNat < 256 ^ 8 := (W ^^^ own_f1 v.toInt8.toInt32).toBitVec.isLt
  have hi : ∀ i, i < 8 → (((W ^^^ own_f1 v.toInt8.toInt32).toBitVec.toNat / 256 ^ i % 256 = 0) ↔ W.toBitVec.toNat / 256 ^ i % 256 = (v.toInt % 256).toNat) := fun i h => by rw [hx]; exact own_bytes _ _ i hB h
  have hz : own_f2 W (own_f1 v.toInt8.toInt32) &&& (9187201950435737471 : Int64) = 0 := by
    unfold own_f2
    rw [Int64.and_assoc, show (-9187201950435737472 : Int64) &&& (9187201950435737471 : Int64) = 0 from by decide]; simp
  generalize (W ^^^ own_f1 v.toInt8.toInt32).toBitVec.toNat = X at *
  generalize own_f2 W (own_f1 v.toInt8.toInt32) = R at *
  unfold own_end
  rw [if_pos ((lw_eq _ _).mpr hz)]
  have c0 := own_cond0 W v
  have c1 := own_cond W v (8 : Int32) 1 (by decide) (by decide)
  have c2 := own_cond W v (16 : Int32) 2 (by decide) (by decide)
  have c3 := own_cond W v (24 : Int32) 3 (by decide) (by decide)
  have c4 := own_cond W v (32 : Int32) 4 (by decide) (by decide)
  have c5 := own_cond W v (40 : Int32) 5 (by decide) (by decide)
  have c6 := own_cond W v (48 : Int32) 6 (by decide) (by decide)
  have c7 := own_cond W v (56 : Int32) 7 (by decide) (by decide)
  rw [← hi 0 (by decide)] at c0
  rw [← hi 1 (by decide)] at c1
  rw [← hi 2 (by decide)] at c2
  rw [← hi 3 (by decide)] at c3
  rw [← hi 4 (by decide)] at c4
  rw [← hi 5 (by decide)] at c5
  rw [← hi 6 (by decide)] at c6
  rw [← hi 7 (by decide)] at c7
  have fin : ∀ (k : Nat) (kk : Int32), own_f3 W (v &&& (255 : Int32)) = kk → ¬ kk = (8 : Int32) → k < 8 → (((-1 : Int64).toUInt64 >>> (((56 : Int32) - ((8 : Int32) * kk)) &&& 0x3f).toInt64.toUInt64).toInt64).toBitVec.toNat = 2 ^ (8 * (k + 1)) - 1 → ((1 : Int64) <<< ((((8 : Int32) * kk) + (7 : Int32)) &&& 0x3f).toInt64).toBitVec.toNat = 128 * 256 ^ k → X / 256 ^ k % 256 = 0 → (∀ i, i < k → X / 256 ^ i % 256 ≠ 0) → (if own_f3 W (v &&& (255 : Int32)) = (8 : Int32) then (if (lcmpW R (0 : Int64)) = (0 : Int32) then (1 : Int32) else (0 : Int32)) else (if (lcmpW (R &&& (((-1 : Int64).toUInt64 >>> (((56 : Int32) - ((8 : Int32) * (own_f3 W (v &&& (255 : Int32))))) &&& 0x3f).toInt64.toUInt64).toInt64)) ((1 : Int64) <<< ((((8 : Int32) * (own_f3 W (v &&& (255 : Int32)))) + (7 : Int32)) &&& 0x3f).toInt64)) = (0 : Int32) then (1 : Int32) else (0 : Int32))) = 1 := by
    intro k kk e1 e2 e3 e4 e5 e6 e7
    rw [e1, if_neg e2, if_pos ((lw_eq _ _).mpr (own_case R _ _ X k hm hX e3 e4 e5 e6 e7))]
  by_cases h0 : X / 256 ^ 0 % 256 = 0
  · exact fin 0 0 (by unfold own_f3; rw [if_pos (c0.mpr h0)]) (by decide) (by decide) (by decide) (by decide) h0 (fun i q => absurd q (Nat.not_lt_zero _))
  by_cases h1 : X / 256 ^ 1 % 256 = 0
  · exact fin 1 1 (by unfold own_f3; rw [if_neg (mt c0.mp h0), if_pos (c1.mpr h1)]) (by decide) (by decide) (by decide) (by decide) h1 (fun i q => by
      have : i = 0 := by omega
      rcases this with rfl; assumption)
  by_cases h2 : X / 256 ^ 2 % 256 = 0
  · exact fin 2 2 (by unfold own_f3; rw [if_neg (mt c0.mp h0), if_neg (mt c1.mp h1), if_pos (c2.mpr h2)]) (by decide) (by decide) (by decide) (by decide) h2 (fun i q => by
      have : i = 0 ∨ i = 1 := by omega
      rcases this with rfl | rfl <;> assumption)
  by_cases h3 : X / 256 ^ 3 % 256 = 0
  · exact fin 3 3 (by unfold own_f3; rw [if_neg (mt c0.mp h0), if_neg (mt c1.mp h1), if_neg (mt c2.mp h2), if_pos (c3.mpr h3)]) (by decide) (by decide) (by decide) (by decide) h3 (fun i q => by
      have : i = 0 ∨ i = 1 ∨ i = 2 := by omega
      rcases this with rfl | rfl | rfl <;> assumption)
  by_cases h4 : X / 256 ^ 4 % 256 = 0
  · exact fin 4 4 (by unfold own_f3; rw [if_neg (mt c0.mp h0), if_neg (mt c1.mp h1), if_neg (mt c2.mp h2), if_neg (mt c3.mp h3), if_pos (c4.mpr h4)]) (by decide) (by decide) (by decide) (by decide) h4 (fun i q => by
      have : i = 0 ∨ i = 1 ∨ i = 2 ∨ i = 3 := by omega
      rcases this with rfl | rfl | rfl | rfl <;> assumption)
  by_cases h5 : X / 256 ^ 5 % 256 = 0
  · exact fin 5 5 (by unfold own_f3; rw [if_neg (mt c0.mp h0), if_neg (mt c1.mp h1), if_neg (mt c2.mp h2), if_neg (mt c3.mp h3), if_neg (mt c4.mp h4), if_pos (c5.mpr h5)]) (by decide) (by decide) (by decide) (by decide) h5 (fun i q => by
      have : i = 0 ∨ i = 1 ∨ i = 2 ∨ i = 3 ∨ i = 4 := by omega
      rcases this with rfl | rfl | rfl | rfl | rfl <;> assumption)
  by_cases h6 : X / 256 ^ 6 % 256 = 0
  · exact fin 6 6 (by unfold own_f3; rw [if_neg (mt c0.mp h0), if_neg (mt c1.mp h1), if_neg (mt c2.mp h2), if_neg (mt c3.mp h3), if_neg (mt c4.mp h4), if_neg (mt c5.mp h5), if_pos (c6.mpr h6)]) (by decide) (by decide) (by decide) (by decide) h6 (fun i q => by
      have : i = 0 ∨ i = 1 ∨ i = 2 ∨ i = 3 ∨ i = 4 ∨ i = 5 := by omega
      rcases this with rfl | rfl | rfl | rfl | rfl | rfl <;> assumption)
  by_cases h7 : X / 256 ^ 7 % 256 = 0
  · exact fin 7 7 (by unfold own_f3; rw [if_neg (mt c0.mp h0), if_neg (mt c1.mp h1), if_neg (mt c2.mp h2), if_neg (mt c3.mp h3), if_neg (mt c4.mp h4), if_neg (mt c5.mp h5), if_neg (mt c6.mp h6), if_pos (c7.mpr h7)]) (by decide) (by decide) (by decide) (by decide) h7 (fun i q => by
      have : i = 0 ∨ i = 1 ∨ i = 2 ∨ i = 3 ∨ i = 4 ∨ i = 5 ∨ i = 6 := by omega
      rcases this with rfl | rfl | rfl | rfl | rfl | rfl | rfl <;> assumption)
  have e8 : own_f3 W (v &&& (255 : Int32)) = 8 := by unfold own_f3; rw [if_neg (mt c0.mp h0), if_neg (mt c1.mp h1), if_neg (mt c2.mp h2), if_neg (mt c3.mp h3), if_neg (mt c4.mp h4), if_neg (mt c5.mp h5), if_neg (mt c6.mp h6), if_neg (mt c7.mp h7)]
  have r0 := own_r_none 8 X hX (fun i q => by
    have : i = 0 ∨ i = 1 ∨ i = 2 ∨ i = 3 ∨ i = 4 ∨ i = 5 ∨ i = 6 ∨ i = 7 := by omega
    rcases this with rfl | rfl | rfl | rfl | rfl | rfl | rfl | rfl <;> assumption)
  have R0 : R = 0 := own_nat64 (by rw [hm, r0]; rfl)
  rw [e8, if_pos rfl, if_pos ((lw_eq _ _).mpr R0)]
theorem own_plain (xa : Int64) (xb xc xd xe : Int32) : (own_f0 xa xb xc xd xe) = 1 := own_core (own_v0_66_10 xa xb xc xd xe) xb

set_option maxRecDepth 65536 in
set_option maxHeartbeats 40000000 in
theorem comes_1 {Post : Tables → Env → Array Value → State → Outcome → State → Prop} (hpost : ∀ tb e args s v u, (limb_1_1.after args s (.returned v) u = true ∧ limb_1_2.after args s (.returned v) u = true ∧ True) → FrameEnd s (.returned v) u (Jvm.fieldLocs frame_1_writes args s ++ Jvm.arrayLocs frame_1_arrays args s ++ Jvm.staticLocs frame_1_statics s) 0 0 → Post tb e args s (.returned v) u) :
    ArmFor flags0 classFile x code maxLocals ret World_1 tables_1 room_1 Calls_1 rest_1 Pre_1 Post := by
  intro l hfl _ _ p e ha hc hk s m args below hf hA hF happ hP
  obtain ⟨hcalls, hrest, hpre⟩ := hP
  obtain ⟨-, -, -, hnamed, -, -, -, hat⟩ := (Spec.applies_iff hf).mp happ
  obtain ⟨hg, hn⟩ := and_e (Cond.before_iff.mp (show (Jvm.Cond.and given_1 narrow_1).before args s = true from hpre))
  obtain ⟨gg1, gg2⟩ := and_e hg
  obtain ⟨gg3, gg4⟩ := and_e gg2
  obtain ⟨gg5, gg6⟩ := and_e gg4
  obtain ⟨gg7, gg8⟩ := and_e gg6
  obtain ⟨gg9, gg10⟩ := and_e gg8
  obtain ⟨w0, w1, w2, w3, w4, rfl⟩ : ∃ w0 w1 w2 w3 w4 : Value, args = #[w0, w1, w2, w3, w4] := by
    have hs : args.size = 5 := by simpa [Cond.value, given_1] using gg1
    obtain ⟨L⟩ := args
    match L, hs with
    | [w0, w1, w2, w3, w4], _ => exact ⟨w0, w1, w2, w3, w4, rfl⟩
  have hw := fun d (hd : d ∈ tables_1) => atoms_spec (ws := Jvm.Cond.code x code maxLocals ret :: tables_1) hat d (List.mem_cons_of_mem _ hd)
  have hfit : Fit s := fun {y c} hc i hi => by
    obtain ⟨ha, rfl⟩ := Array.getElem?_eq_some_iff.mp hc
    have q := List.all_eq_true.mp ((Array.all_eq_true_iff_forall_mem.mp hF) _ (Array.getElem_mem ha)) i (List.mem_range.mpr hi)
    simpa [Array.getElem?_eq_getElem hi] using q
  obtain ⟨i0, ei0⟩ := isL_v gg3
  obtain rfl : w0 = (.long i0) := Option.some.inj ei0
  obtain ⟨i1, ei1⟩ := is_v gg5
  obtain rfl : w1 = (.int i1) := Option.some.inj ei1
  obtain ⟨i2, ei2⟩ := is_v gg7
  obtain rfl : w2 = (.int i2) := Option.some.inj ei2
  obtain ⟨i3, ei3⟩ := is_v gg9
  obtain rfl : w3 = (.int i3) := Option.some.inj ei3
  obtain ⟨i4, ei4⟩ := is_v gg10
  obtain rfl : w4 = (.int i4) := Option.some.inj ei4
  obtain ⟨n, o, h1, h2, h3, _, L, rfl, ⟨rv, N⟩, hq⟩ := own_rm0 l s _ hw tables_1 i0 i1 i2 i3 i4 s.heap s.heap.size (Nat.le_refl _) p e ha hc hk s m _ below hf ((Spec.applies_iff_loose hf).mp happ).1 ⟨rfl, State.Warmed39.refl s, rfl⟩ trivial
  rw [own_plain] at rv
  subst rv
  refine ⟨n, _, h1, h2, h3, hpost _ _ _ _ _ _ ⟨Cond.after_iff.mpr rfl, Cond.after_iff.mpr (eq_i res_at (Term.int_eval (1)) rfl), trivial⟩ ⟨hq.1, hq.2.1, (hq.2.2.sift fun y hy => Or.inr (N y hy)).mono (by decide) (by decide)⟩⟩
theorem main_1_1 : Claimed_1_1 := comes_1 fun _ _ _ _ _ _ h hF => ⟨h.1, hF⟩
theorem main_1_2 : Claimed_1_2 := comes_1 fun _ _ _ _ _ _ h hF => ⟨h.2.1, hF⟩
end Jvm.Pilot.@@N@@
namespace Jvm.Pilot.@@N@@
open Jvm Jvm.ClassFile Sem Op Lib Jvm.Free Jvm.Stand Jvm.Pilot.@@N@@.Jvm.D
/-! MADE BY PROGRAM (witnessworld.py) out of the Statement's table words and the real class files: 9 classes; the members and pool entries that the words name. The judged class is class 1, her method 2. -/
namespace start1
open Jvm.ClassFile
def u (s : String) : CpInfo := .utf8 (stringToUtf16 s)
/-- a pool by its gaps: so many unusable entries, then the entry; so many at the end -/
def gap : Nat → List CpInfo → List CpInfo
  | 0, r => r
  | n + 1, r => .unusable :: gap n r
def poolList (es : List (Nat × CpInfo)) (last : Nat) : List CpInfo := es.foldr (fun e r => gap e.1 (e.2 :: r)) (gap last [])
def pool (es : List (Nat × CpInfo)) (last : Nat) : Array CpInfo := ⟨poolList es last⟩
def fileOf (pool : Array CpInfo) (this : Nat) (attrs : Array Attribute := #[]) (ms : Array MethodInfo := #[]) (fl : Nat := 33) (sup : Nat := 0) (ifs : Array Nat := #[]) (fds : Array FieldInfo := #[]) : ClassFile where
  minorVersion := 0
  majorVersion := 65
  constantPool := pool
  accessFlags := fl
  thisClass := this
  superClass := sup
  interfaces := ifs
  fields := fds
  methods := ms
  attributes := attrs
def plain (name : String) (sup : Option ClassId) : Class where
  name := name
  kind := .ordinary
  loader := none
  accessFlags := 33
  super := sup
  interfaces := #[]
  cf := none
  fields := #[]
  methods := #[]
  instanceTypes := #[]
  staticTypes := #[]
  resolved := #[]
  callSites := []
  init := .initialized
  statics := none
  mirror := none

def pool0 : Array CpInfo := pool [(5, u "<init>"), (0, u "()V"), (1, .class_ 10), (1, u "java/lang/Object")] 113

def k0m0 : Method := { name := "<init>", desc := "()V", sig := { parameters := [], returnType := none }, accessFlags := 1, code := none }
/-- java/lang/Object -/
def k0 : Class := { plain "java/lang/Object" none with
  accessFlags := 33
  interfaces := #[]
  cf := some (fileOf pool0 8 #[] #[{ accessFlags := 1, nameIndex := 5, descriptorIndex := 6, attributes := #[] }] 33 0 #[] #[])
  fields := #[]
  methods := #[k0m0]
  instanceTypes := #[]
  staticTypes := #[]
  resolved := Array.replicate 124 none
  statics := none }

def pool1 : Array CpInfo := pool [(2, .class_ 4), (1, u "java/lang/Object"), (0, u "<init>"), (0, u "()V"), (0, .long 255), (1, .long 18446744073709551615), (1, .methodref 12 13), (0, .class_ 14), (0, .nameAndType 15 16), (0, u "com/example/eben/eben/io/ByteWords"), (0, u "spread"), (0, u "(B)J"), (0, .methodref 12 18), (0, .nameAndType 19 20), (0, u "matches"), (0, u "(JJ)J"), (0, .long 9187201950435737471), (1, .methodref 24 25), (0, .class_ 26), (0, .nameAndType 27 28), (0, u "com/example/eben/eben/io/ByteWordsMatchesPinLaw"), (0, u "first"), (0, u "(JI)I"), (3, u "law"), (0, u "(JIIII)Z")] 2

def k1m0 : Method := { name := "<init>", desc := "()V", sig := { parameters := [], returnType := none }, accessFlags := 2, code := none }
def k1c1 : Code := { maxStack := 4, maxLocals := 3, code := method_2_code, exceptionTable := #[], attributes := #[] }
def k1m1 : Method := { name := "first", desc := "(JI)I", sig := { parameters := [.long, .int], returnType := some .int }, accessFlags := 10, code := some k1c1 }
def k1c2 : Code := { maxStack := 6, maxLocals := 19, code := code, exceptionTable := #[], attributes := #[] }
def k1m2 : Method := { name := "law", desc := "(JIIII)Z", sig := { parameters := [.long, .int, .int, .int, .int], returnType := some .boolean }, accessFlags := 9, code := some k1c2 }
/-- com/example/eben/eben/io/ByteWordsMatchesPinLaw -/
def k1 : Class := { plain "com/example/eben/eben/io/ByteWordsMatchesPinLaw" (some 0) with
  accessFlags := 49
  interfaces := #[]
  cf := some (fileOf pool1 24 #[] #[{ accessFlags := 2, nameIndex := 5, descriptorIndex := 6, attributes := #[] }, { accessFlags := 10, nameIndex := 27, descriptorIndex := 28, attributes := #[] }, { accessFlags := 9, nameIndex := 32, descriptorIndex := 33, attributes := #[] }] 49 2 #[] #[])
  fields := #[]
  methods := #[k1m0, k1m1, k1m2]
  instanceTypes := #[]
  staticTypes := #[]
  resolved := Array.replicate 36 none
  statics := none }

def pool2 : Array CpInfo := pool [(2, .class_ 4), (1, u "java/lang/Object"), (0, u "<init>"), (0, u "()V"), (1, .class_ 10), (1, u "com/example/eben/eben/io/ByteWords"), (0, u "LONGS"), (0, u "Ljava/lang/invoke/VarHandle;"), (6, .long 72340172838076673), (1, .long 18446744073709551615), (1, .long 9259542123273814144), (11, u "spread"), (0, u "(B)J"), (5, u "matches"), (0, u "(JJ)J"), (17, u "HIGH_BITS"), (0, u "J"), (1, u "LOW_BITS")] 10

def k2m0 : Method := { name := "<init>", desc := "()V", sig := { parameters := [], returnType := none }, accessFlags := 2, code := none }
def k2c1 : Code := { maxStack := 4, maxLocals := 1, code := prog_13_method_3_code, exceptionTable := #[], attributes := #[] }
def k2m1 : Method := { name := "spread", desc := "(B)J", sig := { parameters := [.byte], returnType := some .long }, accessFlags := 8, code := some k2c1 }
def k2c2 : Code := { maxStack := 6, maxLocals := 6, code := prog_13_method_4_code, exceptionTable := #[], attributes := #[] }
def k2m2 : Method := { name := "matches", desc := "(JJ)J", sig := { parameters := [.long, .long], returnType := some .long }, accessFlags := 8, code := some k2c2 }
/-- com/example/eben/eben/io/ByteWords -/
def k2 : Class := { plain "com/example/eben/eben/io/ByteWords" (some 0) with
  accessFlags := 48
  interfaces := #[]
  cf := some (fileOf pool2 8 #[] #[{ accessFlags := 2, nameIndex := 5, descriptorIndex := 6, attributes := #[] }, { accessFlags := 8, nameIndex := 35, descriptorIndex := 36, attributes := #[] }, { accessFlags := 8, nameIndex := 42, descriptorIndex := 43, attributes := #[] }] 48 2 #[] #[{ accessFlags := 24, nameIndex := 61, descriptorIndex := 62, attributes := #[] }, { accessFlags := 26, nameIndex := 64, descriptorIndex := 62, attributes := #[] }, { accessFlags := 26, nameIndex := 11, descriptorIndex := 12, attributes := #[] }])
  fields := #[{ name := "HIGH_BITS", type := .long, accessFlags := 24, slot := 0, constantValue := 0 }, { name := "LOW_BITS", type := .long, accessFlags := 26, slot := 1, constantValue := 0 }, { name := "LONGS", type := (.object "java/lang/invoke/VarHandle"), accessFlags := 26, slot := 2, constantValue := 0 }]
  methods := #[k2m0, k2m1, k2m2]
  instanceTypes := #[]
  staticTypes := #[.long, .long, (.object "java/lang/invoke/VarHandle")]
  resolved := Array.replicate 75 none
  statics := none }

def pool3 : Array CpInfo := pool [(1, u "java/lang/Cloneable"), (0, .class_ 1), (0, u "java/lang/Object"), (0, .class_ 3)] 3

/-- java/lang/Cloneable -/
def k3 : Class := { plain "java/lang/Cloneable" (some 0) with
  accessFlags := 1537
  interfaces := #[]
  cf := some (fileOf pool3 2 #[] #[] 1537 4 #[] #[])
  fields := #[]
  methods := #[]
  instanceTypes := #[]
  staticTypes := #[]
  resolved := Array.replicate 8 none
  statics := none }

def pool4 : Array CpInfo := pool [(1, u "java/io/Serializable"), (0, .class_ 1), (0, u "java/lang/Object"), (0, .class_ 3)] 3

/-- java/io/Serializable -/
def k4 : Class := { plain "java/io/Serializable" (some 0) with
  accessFlags := 1537
  interfaces := #[]
  cf := some (fileOf pool4 2 #[] #[] 1537 4 #[] #[])
  fields := #[]
  methods := #[]
  instanceTypes := #[]
  staticTypes := #[]
  resolved := Array.replicate 8 none
  statics := none }

/-- the primitive byte -/
def k5 : Class := { plain "byte" none with kind := .primitive 'B', accessFlags := 0x411 }
/-- [B -/
def k6 : Class := { plain "[B" (some 0) with kind := .array 5 .byte, interfaces := #[3, 4], accessFlags := 1041 }

/-- the primitive int -/
def k7 : Class := { plain "int" none with kind := .primitive 'I', accessFlags := 0x411 }
/-- [I -/
def k8 : Class := { plain "[I" (some 0) with kind := .array 7 .int, interfaces := #[3, 4], accessFlags := 1041 }

def heap : Heap := #[]
def classes : Array Class := #[k0, k1, k2, k3, k4, k5, k6, k7, k8]
def interned : List (Array UInt16 × Addr) := []
def slotsUsed : Nat := 0
def theMethod : MethodId := ⟨1, 2⟩
def args0 : Array Value := #[.long 99, .int 7, .int 1, .int 2, .int 3]
def aboutOver (below : List Frame) : State where
  vm := { classes := classes, interned := interned.toArray }
  heap := heap
  slotsUsed := slotsUsed
  threads := #[{ frames := .invoking theMethod args0 :: below }]
def below0 : List Frame := [.native { method := ⟨0, 0⟩, args := #[] }]
def about1 : State := aboutOver below0
def p0 : Program := .bare "" "" ""
def e0 : Env := launch0.env 0 0 0
theorem w_frames : about1.frames = Frame.invoking theMethod args0 :: below0 := rfl
set_option maxRecDepth 65536 in
theorem w_args : argsFit about1.vm theMethod args0 = true := by decide +kernel
set_option maxRecDepth 65536 in
theorem w_heap : heapFits about1 = true := by decide +kernel
set_option maxRecDepth 65536 in
theorem w_runnable : about1.curStatus? = some .runnable := by decide +kernel
set_option maxRecDepth 65536 in
theorem w_alone : about1.alone = true := by decide +kernel
set_option maxRecDepth 65536 in
theorem w_named : about1.methodNamed? x = some theMethod := by decide +kernel
set_option maxRecDepth 65536 in
theorem w_hears : about1.hears theMethod below0 = true := by decide +kernel
set_option maxRecDepth 65536 in
theorem w_ripe : about1.ripe theMethod args0 below0 = true := by decide +kernel
theorem w_running : about1.status = .running := rfl
set_option maxRecDepth 65536 in
theorem w_room : about1.hasRoom e0.platform room_1 = true :=
  launch0.hasRoom_least _ room_1 (by decide +kernel) (by decide +kernel) (by decide +kernel) (by decide +kernel) (by decide +kernel) (by decide +kernel)
theorem allAtoms_all (ts : List Jvm.Cond) (a : Array Jvm.Value) (st : Jvm.State) : (allAtoms ts).before a st = ts.all (fun c => c.before a st) := by
  induction ts with
  | nil => rfl
  | cons c t ih =>
    show (Jvm.Cond.and c (allAtoms t)).before a st = _
    rw [Jvm.Cond.before_and, ih, List.all_cons]
def words1 : List Jvm.Cond := Jvm.Cond.code x code maxLocals ret :: tables_1
/-- a 'code' word, met by the world's own term for the bytes: nothing is compared byte by byte -/
theorem code_word {y : MethodName} {bytes : ByteArray} {mx : Nat} {rt : Option FieldType} {a : Array Value} {s : State} {m : MethodId} {meth : Method} {c : Code} (h1 : s.methodNamed? y = some m) (h2 : s.vm.method? m = some meth) (h3 : meth.code = some c) (h4 : c.code = bytes)
    (h5 : (c.maxLocals == mx && c.exceptionTable.isEmpty && decide (c.maxStack ≤ mostOperands) && decide (meth.sig.returnType = rt) && !meth.locks && decide (parseMethodDescriptor y.desc = some meth.sig)) = true) : (Jvm.Cond.code y bytes mx rt).before a s = true := by
  simp only [Bool.and_eq_true, beq_iff_eq, Bool.not_eq_true', decide_eq_true_eq] at h5
  obtain ⟨⟨⟨⟨⟨g1, g2⟩, g3⟩, g4⟩, g5⟩, g6⟩ := h5
  simp [Cond.before, Cond.holds, Cond.value, h1, h2, h3, h4, g1, g2, g3, g4, g5, g6]
def isCode : Jvm.Cond → Bool
  | .code _ _ _ _ => true
  | _ => false
theorem all_split {L : List Jvm.Cond} {P : Jvm.Cond → Bool} (h1 : L.all (fun c => isCode c || P c) = true) (h2 : ∀ c ∈ L.filter isCode, P c = true) : L.all P = true := by
  refine List.all_eq_true.mpr fun c hc => ?_
  have h := List.all_eq_true.mp h1 c hc
  rcases Bool.eq_false_or_eq_true (isCode c) with hi | hi
  · exact h2 c (List.mem_filter.mpr ⟨hc, hi⟩)
  · simpa [hi] using h
set_option maxRecDepth 65536 in
theorem w_c0 : (Jvm.Cond.code x code maxLocals ret).before args0 about1 = true := code_word (m := ⟨1, 2⟩) (meth := k1m2) (c := k1c2) (by decide +kernel) rfl rfl rfl (by decide +kernel)
set_option maxRecDepth 65536 in
theorem w_c1 : (Jvm.Cond.code ({ cls := "com/example/eben/eben/io/ByteWords", name := "spread", desc := "(B)J" } : Jvm.MethodName) prog_13_method_3_code (1 : Nat) (Option.some Jvm.ClassFile.FieldType.long)).before args0 about1 = true := code_word (m := ⟨2, 1⟩) (meth := k2m1) (c := k2c1) (by decide +kernel) rfl rfl rfl (by decide +kernel)
set_option maxRecDepth 65536 in
theorem w_c2 : (Jvm.Cond.code ({ cls := "com/example/eben/eben/io/ByteWords", name := "matches", desc := "(JJ)J" } : Jvm.MethodName) prog_13_method_4_code (6 : Nat) (Option.some Jvm.ClassFile.FieldType.long)).before args0 about1 = true := code_word (m := ⟨2, 2⟩) (meth := k2m2) (c := k2c2) (by decide +kernel) rfl rfl rfl (by decide +kernel)
set_option maxRecDepth 65536 in
theorem w_c3 : (Jvm.Cond.code ({ cls := "com/example/eben/eben/io/ByteWordsMatchesPinLaw", name := "first", desc := "(JI)I" } : Jvm.MethodName) method_2_code (3 : Nat) (Option.some Jvm.ClassFile.FieldType.int)).before args0 about1 = true := code_word (m := ⟨1, 1⟩) (meth := k1m1) (c := k1c1) (by decide +kernel) rfl rfl rfl (by decide +kernel)
def codes1 : List Jvm.Cond := [Jvm.Cond.code x code maxLocals ret, Jvm.Cond.code ({ cls := "com/example/eben/eben/io/ByteWords", name := "spread", desc := "(B)J" } : Jvm.MethodName) prog_13_method_3_code (1 : Nat) (Option.some Jvm.ClassFile.FieldType.long), Jvm.Cond.code ({ cls := "com/example/eben/eben/io/ByteWords", name := "matches", desc := "(JJ)J" } : Jvm.MethodName) prog_13_method_4_code (6 : Nat) (Option.some Jvm.ClassFile.FieldType.long), Jvm.Cond.code ({ cls := "com/example/eben/eben/io/ByteWordsMatchesPinLaw", name := "first", desc := "(JI)I" } : Jvm.MethodName) method_2_code (3 : Nat) (Option.some Jvm.ClassFile.FieldType.int)]
set_option maxRecDepth 65536 in
theorem codes_eq : words1.filter isCode = codes1 := rfl
theorem w_codes : ∀ c ∈ words1.filter isCode, c.before args0 about1 = true := by
  rw [codes_eq]
  intro c hc
  simp only [codes1, List.mem_cons, List.not_mem_nil, or_false] at hc
  rcases hc with rfl | rfl | rfl | rfl
  · exact w_c0
  · exact w_c1
  · exact w_c2
  · exact w_c3
set_option maxRecDepth 65536 in
theorem w_t1 : words1.all (fun c => isCode c || c.before args0 about1) = true := by decide +kernel
theorem w_tables : (allAtoms (Jvm.Cond.code x code maxLocals ret :: tables_1)).before args0 about1 = true := by
  rw [allAtoms_all]
  show words1.all (fun c => c.before args0 about1) = true
  refine all_split ?_ w_codes
  rw [w_t1]
set_option maxRecDepth 65536 in
theorem w_case : (Jvm.Cond.and given_1 narrow_1).before args0 about1 = true := by decide +kernel
theorem w_applies : (headSpec (Jvm.Cond.code x code maxLocals ret :: tables_1) room_1).applies x e0.platform about1 = true :=
  (Spec.applies_iff w_frames).mpr ⟨w_running, w_runnable, w_alone, w_named, w_hears, w_ripe, w_room, w_tables⟩
theorem atStart : AtStart classFile x code maxLocals ret World_1 tables_1 room_1 Calls_1 rest_1 Pre_1 launch0 p0 e0 about1 theMethod args0 below0 :=
  ⟨lists_1, trivial, launch0.admits_env _ _ _, launch0.least_env, fairChoices_fair.cas, fairChoices_fair.clock, w_frames, w_args, w_heap, w_applies, trivial, trivial, w_case⟩
end start1
theorem witness_1 : WitnessClaimed_1 := ⟨start1.p0, start1.e0, start1.about1, start1.theMethod, start1.args0, start1.below0, start1.atStart⟩
end Jvm.Pilot.@@N@@
