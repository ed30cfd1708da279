import JvmDerived
import JvmDerived.Pilot.@@N@@Statement
import JvmDerived.Pilot.@@N@@Code
set_option linter.unusedVariables false
set_option linter.unusedSimpArgs false
@@BLOCK:NumsL.lean.txt@@
namespace Jvm.RoadKit
open Sem ClassFile Op Lib Jvm.Stand Jvm.Free Jvm.LawKit
section New
variable {p : Program} {l : Launch} {e : Env} {R : Room} {s : State} {m : MethodId} {args : Array Value} {below : List Frame} {meth : Method} {c : Code} {T : State} {locs : List Loc} {cells slots : Nat}
theorem retI (X : Stand p l e R s m args below meth c T locs cells slots) (hx : p.tables.exec = Jvm.exec) {pc : Nat} {Ls : Array Slot} {z : Int32} {rest : List Value} (hret : meth.sig.returnType = some .int) (hd : decode c.code pc = .ok (.ireturn, 1)) {fs : List Frame}
    (hl : ∀ (f : JFrame) (acts : List Action), f.method = m → f.locked = none → f.entered = [] → (doReturn e (T.setTop f) acts (some (.int z))).1 = T.setFrames fs) : Steps p.tables e below (T.setTop (mkF m pc Ls (.int z :: rest))) (T.setFrames fs) := by
  have hm' : T.vm.method? m = some meth := X.method'
  have hn : narrow .int (.int z) = .int z := rfl
  show Steps p.tables e below (T.setTop { method := m, pc := pc, locals := Ls, stack := _ :: rest, locked := none }) _
  jvm_step X.here [X.here.top, hx, hd, hm', hret, hn]
  first | (intro acts; rw [hl _ acts rfl rfl rfl]) | rw [hl _ _ rfl rfl rfl]
  exact Steps.refl _
def own_irem (x y : Int32) : Int32 := x - x / y * y
def own_lrem (x y : Int64) : Int64 := x - x / y * y
theorem own_retZ (X : Stand p l e R s m args below meth c T locs cells slots) (hx : p.tables.exec = Jvm.exec) {pc : Nat} {Ls : Array Slot} {z : Int32} {rest : List Value} (hret : meth.sig.returnType = some .boolean) (hz : z &&& 1 = z) (hd : decode c.code pc = .ok (.ireturn, 1)) {fs : List Frame}
    (hl : ∀ (f : JFrame) (acts : List Action), f.method = m → f.locked = none → f.entered = [] → (doReturn e (T.setTop f) acts (some (.int z))).1 = T.setFrames fs) : Steps p.tables e below (T.setTop (mkF m pc Ls (.int z :: rest))) (T.setFrames fs) :=
  retN X hx (t := .boolean) hret (by simp) hd (by rw [show nar .boolean z = z from hz]; exact hl)
theorem own_ite_bool {q : Prop} [Decidable q] {a b : Int32} (ha : a &&& 1 = a) (hb : b &&& 1 = b) : (if q then a else b) &&& 1 = (if q then a else b) := by split <;> assumption
theorem own_retJ (X : Stand p l e R s m args below meth c T locs cells slots) (hx : p.tables.exec = Jvm.exec) {pc : Nat} {Ls : Array Slot} {z : Int64} {rest : List Value} (hret : meth.sig.returnType = some .long) (hd : decode c.code pc = .ok (.lreturn, 1)) {fs : List Frame}
    (hl : ∀ (f : JFrame) (acts : List Action), f.method = m → f.locked = none → f.entered = [] → (doReturn e (T.setTop f) acts (some (.long z))).1 = T.setFrames fs) : Steps p.tables e below (T.setTop (mkF m pc Ls (.long z :: rest))) (T.setFrames fs) := by
  have hm' : T.vm.method? m = some meth := X.method'
  show Steps p.tables e below (T.setTop { method := m, pc := pc, locals := Ls, stack := _ :: rest, locked := none }) _
  jvm_step X.here [X.here.top, hx, hd, hm', hret, narrow]
  first | (intro acts; rw [hl _ acts rfl rfl rfl]) | rw [hl _ _ rfl rfl rfl]
  exact Steps.refl _
/-- the run goes from here to a state of which P holds -/
def own_Goes (tb : Tables) (e : Env) (below : List Frame) (P : State → Prop) (T : State) (f : JFrame) : Prop :=
  ∃ u, P u ∧ ∀ t, Steps tb e below u t → Steps tb e below (T.setTop f) t
theorem own_go {tb : Tables} {P : State → Prop} {T T' : State} {f f' : JFrame} (k : own_Goes tb e below P T' f') (h : ∀ t, Steps tb e below (T'.setTop f') t → Steps tb e below (T.setTop f) t) : own_Goes tb e below P T f := by
  obtain ⟨u, hu, hk⟩ := k
  exact ⟨u, hu, fun t q => h t (hk t q)⟩
theorem own_out {tb : Tables} {Q : Outcome → State → Prop} {T : State} {f : JFrame} (k : own_Goes tb e below (fun u => ∃ o, u.status = .running ∧ Ended u below o ∧ Q o u) T f) :
    ∃ s₂ o, Steps tb e below (T.setTop f) s₂ ∧ s₂.status = .running ∧ Ended s₂ below o ∧ Q o s₂ := by
  obtain ⟨u, ⟨o, h1, h2, h3⟩, hk⟩ := k
  exact ⟨u, o, hk u (Steps.refl _), h1, h2, h3⟩
theorem own_lsw {tb : Tables} [Ours tb] {T target : State} {g : JFrame} (h : At T m c below) (hx : tb.exec = Jvm.exec) (hg : g.method = m) {dflt : Int} {pairs : Array (Int × Int)} {len : Nat} {o : Int} {pc0 pc' : Nat} (hpc : g.pc = pc0) (hd : decode c.code g.pc = .ok (.lookupswitch dflt pairs, len)) {i : Int32} {rest : List Value} (hs : g.stack = .int i :: rest)
    (hord : (pairs.toList.zip (pairs.toList.drop 1)).all (fun (a, next) => a.1 < next.1) = true) (hoff : lookupswitch.offset pairs.toList dflt i.toInt = o) (ho : 0 ≤ (pc0 : Int) + o) (hp : ((pc0 : Int) + o).toNat = pc')
    (hr : Steps tb e below (T.setTop { g with pc := pc', stack := rest }) target) : Steps tb e below (T.setTop g) target := by
  subst hg hpc hp
  jvm_step h [h.top, hx, hd, hs, hoff, ho, lookupswitch.wp_chain]
  exact ⟨by simpa using hord, hr⟩
theorem own_ne_key {i k : Int32} (h : ¬ i = k) : ¬ (k.toInt = i.toInt) := fun q => h (Int32.toInt_inj.mp q.symm)
theorem own_selP {s : State} {args : Array Value} {y : MethodName} {n : Nat} (wi : (Cond.instantiable y.cls n).before args s = true) (hp : s.PrivateAt y) (hi : (Cond.instanceMethod y).before args s = true) (hy : y.cls ≠ "java/lang/invoke/MethodHandle" ∧ y.cls ≠ "java/lang/invoke/VarHandle") : (Cond.selects y.cls y y).before args s = true := by
  obtain ⟨c, k, h1, h2, -, h3, -⟩ := Cond.instantiable_spec wi
  simp only [Bool.or_eq_false_iff] at h3
  exact selects_self_of_private h1 h2 h3.1 hp hi hy
end New
end Jvm.RoadKit
namespace Jvm.Pilot.@@N@@
open Jvm Jvm.ClassFile Sem Op Lib Jvm.Free Jvm.Stand Jvm.LawKit Jvm.RoadKit Bundle Jvm.Pilot.@@N@@.Jvm.D
theorem own_pn0 : plainName "java/lang/Record" = true := by first | (simp [plainName, overriddenIn]; done) | decide +kernel
theorem own_d3_0 : decode jdk_30_method_1_code 0 = .ok (.aload_n 0, 1) := by decide +kernel
theorem own_d3_1 : decode jdk_30_method_1_code 1 = .ok (.invokespecial 1, 3) := by decide +kernel
theorem own_d3_4 : decode jdk_30_method_1_code 4 = .ok (.return_, 1) := by decide +kernel
theorem own_ef3 (m : MethodId) (oa : Addr) : entryFrame m #[(.ref oa)] 1 = mkF m 0 #[.val (.ref oa)] [] := by first | (simp [entryFrame, mkF, argsToLocals, Value.category]; done) | rfl
abbrev own_room3 : Room := { frames := 1, cells := 0, slots := 0, locals := 12 }
def own_Q3 (Z : State) (oa : Addr) (h0 : Heap) (n0 : Nat) (v : Option Value) (h : Heap) (L : List Loc) : Prop := v = none ∧ Fr n0 L ∧ h = h0
set_option maxRecDepth 65536 in
set_option maxHeartbeats 40000000 in
theorem own_rm3 (l : Launch) (Z : State) (a0 : Array Value) (hw : ∀ d ∈ tables_1, d.before a0 Z = true) (ws : List Jvm.Cond) (oa : Addr) (h0 : Heap) (n0 : Nat) (Z0 : n0 ≤ h0.size) :
    MetFree l (⟨"java/lang/Record", "<init>", "()V"⟩ : MethodName) (head1 (Jvm.Cond.code (⟨"java/lang/Record", "<init>", "()V"⟩ : MethodName) jdk_30_method_1_code 1 none :: ws) own_room3) (fun a U => a = #[(.ref oa)] ∧ Z.Warmed39 U.vm ∧ U.heap = h0) (fun _ _ _ _ _ => True) (fun _ U o U' => ∃ v L, o = .returned v ∧ own_Q3 Z oa h0 n0 v U'.heap L ∧ FrameEnd U o U' L own_room3.cells own_room3.slots) := by
  refine MetFree.of_bodySF (plainFor_of_name own_pn0) hisR ?_
  intro p e s m args below meth c s₁ Bd hml0 hP hK
  obtain ⟨rfl, hZ, hh⟩ := hP
  have hx := Bd.exec
  have hby := Bd.bytes
  have hml : c.maxLocals = 1 := hml0
  have hown : s.vm.findClass "java/lang/Record" = some m.cls := findClass_of_methodNamed Bd.named
  have hnm := (name_of_methodNamed Bd.named Bd.method).1
  have X0 : Stand p l e own_room3 s m #[(.ref oa)] below meth c s₁ [] 0 0 := Stand.of_body Bd
  have e0 : s₁.heap = h0 := by rw [← hh, Bd.state]; rfl
  have N0 := Fr.nil n0
  refine own_out (Q := fun o U' => ∃ v L, o = .returned v ∧ own_Q3 Z oa h0 n0 v U'.heap L ∧ FrameEnd s o U' L own_room3.cells own_room3.slots) ?_
  refine own_go (T' := s₁) (f' := (mkF m 0 #[.val (.ref oa)] [])) ?_ (fun _ k => castTop (own_ef3 m oa) k)
  refine own_go (T' := s₁) (f' := (mkF m 1 #[.val (.ref oa)] [(.ref oa)])) ?_ (fun _ k => XS.aloadN X0.here hx rfl (hb hby own_d3_0) rfl rfl k)
  obtain ⟨T1, X1, e1, st1⟩ := initO X0 hx hZ hown (hw _ (List.mem_of_getElem? (i := 11) rfl)) (hw _ (List.mem_of_getElem? (i := 12) rfl)) (hw _ (List.mem_of_getElem? (i := 13) rfl)) e0 (g := (mkF m 1 #[.val (.ref oa)] [(.ref oa)])) rfl (by rw [hml]; rfl) rfl (hb hby own_d3_1) (by decide) (W := 0) (by show 2 * 0 + _ ≤ _; exact Nat.le_of_eq rfl) (by decide)
  refine own_go (T' := T1) (f' := (mkF m 4 #[.val (.ref oa)] [])) ?_ (st1)
  obtain ⟨fs2, hr2, hrun2, hended2, hW2, hsame2⟩ := X1.leave (v := none) (fun _ => rfl)
  refine ⟨_, ⟨_, hrun2, hended2, _, _, rfl, ?_, ⟨_, rfl⟩, hW2, hsame2.mono (by decide) (by decide)⟩, fun _ k => (X1.returnOut hx Bd.returns (hb hby own_d3_4) hr2).trans k⟩
  show own_Q3 Z oa h0 n0 _ T1.heap _
  rw [e1]
  exact ⟨rfl, N0, rfl⟩
theorem own_pd0 : parseMethodDescriptor "()V" = some ⟨[], none⟩ := by decide +kernel
theorem own_pn1 : plainName "com/example/inca_dove/incadove/lists/Audience$Counters" = true := by first | (simp [plainName, overriddenIn]; done) | decide +kernel
theorem own_d1_0 : decode prog_14_method_1_code 0 = .ok (.aload_n 0, 1) := by decide +kernel
theorem own_d1_1 : decode prog_14_method_1_code 1 = .ok (.invokespecial 1, 3) := by decide +kernel
theorem own_d1_4 : decode prog_14_method_1_code 4 = .ok (.aload_n 0, 1) := by decide +kernel
theorem own_d1_5 : decode prog_14_method_1_code 5 = .ok (.lload_n 1, 1) := by decide +kernel
theorem own_d1_6 : decode prog_14_method_1_code 6 = .ok (.putfield 7, 3) := by decide +kernel
theorem own_d1_9 : decode prog_14_method_1_code 9 = .ok (.aload_n 0, 1) := by decide +kernel
theorem own_d1_10 : decode prog_14_method_1_code 10 = .ok (.lload_n 3, 1) := by decide +kernel
theorem own_d1_11 : decode prog_14_method_1_code 11 = .ok (.putfield 13, 3) := by decide +kernel
theorem own_d1_14 : decode prog_14_method_1_code 14 = .ok (.aload_n 0, 1) := by decide +kernel
theorem own_d1_15 : decode prog_14_method_1_code 15 = .ok (.lload 5, 2) := by decide +kernel
theorem own_d1_17 : decode prog_14_method_1_code 17 = .ok (.putfield 16, 3) := by decide +kernel
theorem own_d1_20 : decode prog_14_method_1_code 20 = .ok (.aload_n 0, 1) := by decide +kernel
theorem own_d1_21 : decode prog_14_method_1_code 21 = .ok (.lload 7, 2) := by decide +kernel
theorem own_d1_23 : decode prog_14_method_1_code 23 = .ok (.putfield 19, 3) := by decide +kernel
theorem own_d1_26 : decode prog_14_method_1_code 26 = .ok (.return_, 1) := by decide +kernel
theorem own_ef1 (m : MethodId) (oa : Addr) (xa : Int64) (xb : Int64) (xc : Int64) (xd : Int64) : entryFrame m #[(.ref oa), (.long xa), (.long xb), (.long xc), (.long xd)] 9 = mkF m 0 #[.val (.ref oa), .val (.long xa), .second, .val (.long xb), .second, .val (.long xc), .second, .val (.long xd), .second] [] := by first | (simp [entryFrame, mkF, argsToLocals, Value.category]; done) | rfl
abbrev own_room1 : Room := { frames := 2, cells := 0, slots := 0, locals := 24 }
def own_Q1 (Z : State) (oa : Addr) (xa : Int64) (xb : Int64) (xc : Int64) (xd : Int64) (h0 : Heap) (n0 : Nat) (v : Option Value) (h : Heap) (L : List Loc) : Prop := v = none ∧ Fr n0 L ∧ Keep h0 h [oa] ∧ Fld Z h oa "com/example/inca_dove/incadove/lists/Audience$Counters" "total" "J" (.long xa) ∧ Fld Z h oa "com/example/inca_dove/incadove/lists/Audience$Counters" "duplicates" "J" (.long xb) ∧ Fld Z h oa "com/example/inca_dove/incadove/lists/Audience$Counters" "excluded" "J" (.long xc) ∧ Fld Z h oa "com/example/inca_dove/incadove/lists/Audience$Counters" "unsubscribed" "J" (.long xd)
set_option maxRecDepth 65536 in
set_option maxHeartbeats 40000000 in
theorem own_rm1 (l : Launch) (Z : State) (a0 : Array Value) (hw : ∀ d ∈ tables_1, d.before a0 Z = true) (ws : List Jvm.Cond) (oa : Addr) (xa : Int64) (xb : Int64) (xc : Int64) (xd : Int64) (h0 : Heap) (n0 : Nat) (Z0 : n0 ≤ h0.size) (E_oa : Exa Z h0 oa "com/example/inca_dove/incadove/lists/Audience$Counters") (g_oa : n0 ≤ oa) (F_total_oa : Fld Z h0 oa "com/example/inca_dove/incadove/lists/Audience$Counters" "total" "J" (.long (0 : Int64))) (F_duplicates_oa : Fld Z h0 oa "com/example/inca_dove/incadove/lists/Audience$Counters" "duplicates" "J" (.long (0 : Int64))) (F_excluded_oa : Fld Z h0 oa "com/example/inca_dove/incadove/lists/Audience$Counters" "excluded" "J" (.long (0 : Int64))) (F_unsubscribed_oa : Fld Z h0 oa "com/example/inca_dove/incadove/lists/Audience$Counters" "unsubscribed" "J" (.long (0 : Int64))) :
    MetFree l (⟨"com/example/inca_dove/incadove/lists/Audience$Counters", "<init>", "(JJJJ)V"⟩ : MethodName) (head1 (Jvm.Cond.code (⟨"com/example/inca_dove/incadove/lists/Audience$Counters", "<init>", "(JJJJ)V"⟩ : MethodName) prog_14_method_1_code 9 none :: ws) own_room1) (fun a U => a = #[(.ref oa), (.long xa), (.long xb), (.long xc), (.long xd)] ∧ Z.Warmed39 U.vm ∧ U.heap = h0) (fun _ _ _ _ _ => True) (fun _ U o U' => ∃ v L, o = .returned v ∧ own_Q1 Z oa xa xb xc xd h0 n0 v U'.heap L ∧ FrameEnd U o U' L own_room1.cells own_room1.slots) := by
  refine MetFree.of_bodySF (plainFor_of_name own_pn1) hisR ?_
  intro p e s m args below meth c s₁ Bd hml0 hP hK
  obtain ⟨rfl, hZ, hh⟩ := hP
  have hx := Bd.exec
  have hby := Bd.bytes
  have hml : c.maxLocals = 9 := hml0
  have hown : s.vm.findClass "com/example/inca_dove/incadove/lists/Audience$Counters" = some m.cls := findClass_of_methodNamed Bd.named
  have hnm := (name_of_methodNamed Bd.named Bd.method).1
  have X0 : Stand p l e own_room1 s m #[(.ref oa), (.long xa), (.long xb), (.long xc), (.long xd)] below meth c s₁ [] 0 0 := Stand.of_body Bd
  have e0 : s₁.heap = h0 := by rw [← hh, Bd.state]; rfl
  have N0 := Fr.nil n0
  refine own_out (Q := fun o U' => ∃ v L, o = .returned v ∧ own_Q1 Z oa xa xb xc xd h0 n0 v U'.heap L ∧ FrameEnd s o U' L own_room1.cells own_room1.slots) ?_
  refine own_go (T' := s₁) (f' := (mkF m 0 #[.val (.ref oa), .val (.long xa), .second, .val (.long xb), .second, .val (.long xc), .second, .val (.long xd), .second] [])) ?_ (fun _ k => castTop (own_ef1 m oa xa xb xc xd) k)
  refine own_go (T' := s₁) (f' := (mkF m 1 #[.val (.ref oa), .val (.long xa), .second, .val (.long xb), .second, .val (.long xc), .second, .val (.long xd), .second] [(.ref oa)])) ?_ (fun _ k => XS.aloadN X0.here hx rfl (hb hby own_d1_0) rfl rfl k)
  obtain ⟨_, _, ⟨T1, L1, k1, n1⟩, -, X1, ⟨Lc1, hQ1, l1, y1, z1⟩, st1⟩ := X0.specialBack hx (y := (⟨"java/lang/Record", "<init>", "()V"⟩ : MethodName)) rfl hown (mvT hZ (hw _ (List.mem_of_getElem? (i := 6) rfl))) (mvT hZ (hw _ (List.mem_of_getElem? (i := 7) rfl))) (mvT hZ (hw _ (List.mem_of_getElem? (i := 10) rfl))) (by decide) (backOf (W := 0) (own_rm3 l Z a0 hw [] oa h0 n0 Z0) hZ (hw _ (List.mem_of_getElem? (i := 10) rfl)) (hw _ (List.mem_of_getElem? (i := 9) rfl)) (by decide) (by decide)) (g := (mkF m 1 #[.val (.ref oa), .val (.long xa), .second, .val (.long xb), .second, .val (.long xc), .second, .val (.long xd), .second] [(.ref oa)])) rfl (by rw [hml]; rfl) (Steps.refl _) (a := oa) (argsL := []) (rest := []) (lenOf own_pd0 rfl) rfl (by show 2 * 0 + _ ≤ _; exact Nat.le_of_eq rfl) (hb hby own_d1_1) (fun _ _ => ⟨rfl, e0, (by decide : 0 + 0 ≤ _), (by decide : 0 + 0 ≤ _)⟩)
  dsimp only [Pt.U, Pt.locs, Pt.cells, Pt.slots] at X1 l1 y1 z1 st1 hQ1
  subst y1 z1
  obtain ⟨rfl, N1q, e1⟩ := hQ1
  have N1 : Fr n0 L1 := l1 ▸ Fr.app N0 N1q
  refine own_go (T' := T1) (f' := (mkF m 4 #[.val (.ref oa), .val (.long xa), .second, .val (.long xb), .second, .val (.long xc), .second, .val (.long xd), .second] [])) ?_ (fun _ k => st1.trans k)
  refine own_go (T' := T1) (f' := (mkF m 5 #[.val (.ref oa), .val (.long xa), .second, .val (.long xb), .second, .val (.long xc), .second, .val (.long xd), .second] [(.ref oa)])) ?_ (fun _ k => XS.aloadN X1.here hx rfl (hb hby own_d1_4) rfl rfl k)
  refine own_go (T' := T1) (f' := (mkF m 6 #[.val (.ref oa), .val (.long xa), .second, .val (.long xb), .second, .val (.long xc), .second, .val (.long xd), .second] [(.long xa), (.ref oa)])) ?_ (fun _ k => XS.lloadN X1.here hx rfl (hb hby own_d1_5) rfl  k)
  obtain ⟨T2, h2, X2, e2, W2, st2⟩ := putF X1 hx hZ hown (host := "") (Or.inl (hw _ (List.mem_of_getElem? (i := 14) rfl))) Via.refl e1 F_total_oa E_oa (Or.inr ⟨(hw _ (List.mem_of_getElem? (i := 15) rfl)), rfl, hnm⟩) (hw _ (List.mem_of_getElem? (i := 1) rfl)) (ty := .long) (by decide) rfl rfl (g := (mkF m 6 #[.val (.ref oa), .val (.long xa), .second, .val (.long xb), .second, .val (.long xc), .second, .val (.long xd), .second] [(.long xa), (.ref oa)])) rfl rfl (hb hby own_d1_6)
  have fa3 := E_oa.wr W2
  have fa5 := F_duplicates_oa.other W2 (Or.inr (slot_ne (Or.inr (hw _ (List.mem_of_getElem? (i := 17) rfl))) (Or.inr (hw _ (List.mem_of_getElem? (i := 15) rfl))) (by decide) (t := .long) (t' := .long) (by decide) (by decide)))
  have fa6 := F_excluded_oa.other W2 (Or.inr (slot_ne (Or.inr (hw _ (List.mem_of_getElem? (i := 19) rfl))) (Or.inr (hw _ (List.mem_of_getElem? (i := 15) rfl))) (by decide) (t := .long) (t' := .long) (by decide) (by decide)))
  have fa7 := F_unsubscribed_oa.other W2 (Or.inr (slot_ne (Or.inr (hw _ (List.mem_of_getElem? (i := 21) rfl))) (Or.inr (hw _ (List.mem_of_getElem? (i := 15) rfl))) (by decide) (t := .long) (t' := .long) (by decide) (by decide)))
  have Fw2 := F_total_oa.same W2
  have N2 := Fr.snoc X2 N1 g_oa
  have KK2 : Keep h0 h2 [oa] := (Keep.refl h0 [oa]).wr W2 (Or.inl (List.mem_of_getElem? (i := 0) rfl))
  have ZZ2 : n0 ≤ h2.size := Nat.le_trans Z0 (Keep.of_wr W2).1
  refine own_go (T' := T2) (f' := (mkF m 9 #[.val (.ref oa), .val (.long xa), .second, .val (.long xb), .second, .val (.long xc), .second, .val (.long xd), .second] [])) ?_ (st2)
  refine own_go (T' := T2) (f' := (mkF m 10 #[.val (.ref oa), .val (.long xa), .second, .val (.long xb), .second, .val (.long xc), .second, .val (.long xd), .second] [(.ref oa)])) ?_ (fun _ k => XS.aloadN X2.here hx rfl (hb hby own_d1_9) rfl rfl k)
  refine own_go (T' := T2) (f' := (mkF m 11 #[.val (.ref oa), .val (.long xa), .second, .val (.long xb), .second, .val (.long xc), .second, .val (.long xd), .second] [(.long xb), (.ref oa)])) ?_ (fun _ k => XS.lloadN X2.here hx rfl (hb hby own_d1_10) rfl  k)
  obtain ⟨T8, h8, X8, e8, W8, st8⟩ := putF X2 hx hZ hown (host := "") (Or.inl (hw _ (List.mem_of_getElem? (i := 16) rfl))) Via.refl e2 fa5 fa3 (Or.inr ⟨(hw _ (List.mem_of_getElem? (i := 17) rfl)), rfl, hnm⟩) (hw _ (List.mem_of_getElem? (i := 1) rfl)) (ty := .long) (by decide) rfl rfl (g := (mkF m 11 #[.val (.ref oa), .val (.long xa), .second, .val (.long xb), .second, .val (.long xc), .second, .val (.long xd), .second] [(.long xb), (.ref oa)])) rfl rfl (hb hby own_d1_11)
  have fa9 := fa3.wr W8
  have fa11 := fa6.other W8 (Or.inr (slot_ne (Or.inr (hw _ (List.mem_of_getElem? (i := 19) rfl))) (Or.inr (hw _ (List.mem_of_getElem? (i := 17) rfl))) (by decide) (t := .long) (t' := .long) (by decide) (by decide)))
  have fa12 := fa7.other W8 (Or.inr (slot_ne (Or.inr (hw _ (List.mem_of_getElem? (i := 21) rfl))) (Or.inr (hw _ (List.mem_of_getElem? (i := 17) rfl))) (by decide) (t := .long) (t' := .long) (by decide) (by decide)))
  have fa13 := Fw2.other W8 (Or.inr (slot_ne (Or.inr (hw _ (List.mem_of_getElem? (i := 15) rfl))) (Or.inr (hw _ (List.mem_of_getElem? (i := 17) rfl))) (by decide) (t := .long) (t' := .long) (by decide) (by decide)))
  have Fw8 := fa5.same W8
  have N8 := Fr.snoc X8 N2 g_oa
  have KK8 : Keep h0 h8 [oa] := KK2.wr W8 (Or.inl (List.mem_of_getElem? (i := 0) rfl))
  have ZZ8 : n0 ≤ h8.size := Nat.le_trans ZZ2 (Keep.of_wr W8).1
  refine own_go (T' := T8) (f' := (mkF m 14 #[.val (.ref oa), .val (.long xa), .second, .val (.long xb), .second, .val (.long xc), .second, .val (.long xd), .second] [])) ?_ (st8)
  refine own_go (T' := T8) (f' := (mkF m 15 #[.val (.ref oa), .val (.long xa), .second, .val (.long xb), .second, .val (.long xc), .second, .val (.long xd), .second] [(.ref oa)])) ?_ (fun _ k => XS.aloadN X8.here hx rfl (hb hby own_d1_14) rfl rfl k)
  refine own_go (T' := T8) (f' := (mkF m 17 #[.val (.ref oa), .val (.long xa), .second, .val (.long xb), .second, .val (.long xc), .second, .val (.long xd), .second] [(.long xc), (.ref oa)])) ?_ (fun _ k => XS.lload X8.here hx rfl (hb hby own_d1_15) rfl  k)
  obtain ⟨T14, h14, X14, e14, W14, st14⟩ := putF X8 hx hZ hown (host := "") (Or.inl (hw _ (List.mem_of_getElem? (i := 18) rfl))) Via.refl e8 fa11 fa9 (Or.inr ⟨(hw _ (List.mem_of_getElem? (i := 19) rfl)), rfl, hnm⟩) (hw _ (List.mem_of_getElem? (i := 1) rfl)) (ty := .long) (by decide) rfl rfl (g := (mkF m 17 #[.val (.ref oa), .val (.long xa), .second, .val (.long xb), .second, .val (.long xc), .second, .val (.long xd), .second] [(.long xc), (.ref oa)])) rfl rfl (hb hby own_d1_17)
  have fa15 := fa9.wr W14
  have fa17 := fa12.other W14 (Or.inr (slot_ne (Or.inr (hw _ (List.mem_of_getElem? (i := 21) rfl))) (Or.inr (hw _ (List.mem_of_getElem? (i := 19) rfl))) (by decide) (t := .long) (t' := .long) (by decide) (by decide)))
  have fa18 := fa13.other W14 (Or.inr (slot_ne (Or.inr (hw _ (List.mem_of_getElem? (i := 15) rfl))) (Or.inr (hw _ (List.mem_of_getElem? (i := 19) rfl))) (by decide) (t := .long) (t' := .long) (by decide) (by decide)))
  have fa19 := Fw8.other W14 (Or.inr (slot_ne (Or.inr (hw _ (List.mem_of_getElem? (i := 17) rfl))) (Or.inr (hw _ (List.mem_of_getElem? (i := 19) rfl))) (by decide) (t := .long) (t' := .long) (by decide) (by decide)))
  have Fw14 := fa11.same W14
  have N14 := Fr.snoc X14 N8 g_oa
  have KK14 : Keep h0 h14 [oa] := KK8.wr W14 (Or.inl (List.mem_of_getElem? (i := 0) rfl))
  have ZZ14 : n0 ≤ h14.size := Nat.le_trans ZZ8 (Keep.of_wr W14).1
  refine own_go (T' := T14) (f' := (mkF m 20 #[.val (.ref oa), .val (.long xa), .second, .val (.long xb), .second, .val (.long xc), .second, .val (.long xd), .second] [])) ?_ (st14)
  refine own_go (T' := T14) (f' := (mkF m 21 #[.val (.ref oa), .val (.long xa), .second, .val (.long xb), .second, .val (.long xc), .second, .val (.long xd), .second] [(.ref oa)])) ?_ (fun _ k => XS.aloadN X14.here hx rfl (hb hby own_d1_20) rfl rfl k)
  refine own_go (T' := T14) (f' := (mkF m 23 #[.val (.ref oa), .val (.long xa), .second, .val (.long xb), .second, .val (.long xc), .second, .val (.long xd), .second] [(.long xd), (.ref oa)])) ?_ (fun _ k => XS.lload X14.here hx rfl (hb hby own_d1_21) rfl  k)
  obtain ⟨T20, h20, X20, e20, W20, st20⟩ := putF X14 hx hZ hown (host := "") (Or.inl (hw _ (List.mem_of_getElem? (i := 20) rfl))) Via.refl e14 fa17 fa15 (Or.inr ⟨(hw _ (List.mem_of_getElem? (i := 21) rfl)), rfl, hnm⟩) (hw _ (List.mem_of_getElem? (i := 1) rfl)) (ty := .long) (by decide) rfl rfl (g := (mkF m 23 #[.val (.ref oa), .val (.long xa), .second, .val (.long xb), .second, .val (.long xc), .second, .val (.long xd), .second] [(.long xd), (.ref oa)])) rfl rfl (hb hby own_d1_23)
  have fa21 := fa15.wr W20
  have fa23 := fa18.other W20 (Or.inr (slot_ne (Or.inr (hw _ (List.mem_of_getElem? (i := 15) rfl))) (Or.inr (hw _ (List.mem_of_getElem? (i := 21) rfl))) (by decide) (t := .long) (t' := .long) (by decide) (by decide)))
  have fa24 := fa19.other W20 (Or.inr (slot_ne (Or.inr (hw _ (List.mem_of_getElem? (i := 17) rfl))) (Or.inr (hw _ (List.mem_of_getElem? (i := 21) rfl))) (by decide) (t := .long) (t' := .long) (by decide) (by decide)))
  have fa25 := Fw14.other W20 (Or.inr (slot_ne (Or.inr (hw _ (List.mem_of_getElem? (i := 19) rfl))) (Or.inr (hw _ (List.mem_of_getElem? (i := 21) rfl))) (by decide) (t := .long) (t' := .long) (by decide) (by decide)))
  have Fw20 := fa17.same W20
  have N20 := Fr.snoc X20 N14 g_oa
  have KK20 : Keep h0 h20 [oa] := KK14.wr W20 (Or.inl (List.mem_of_getElem? (i := 0) rfl))
  have ZZ20 : n0 ≤ h20.size := Nat.le_trans ZZ14 (Keep.of_wr W20).1
  refine own_go (T' := T20) (f' := (mkF m 26 #[.val (.ref oa), .val (.long xa), .second, .val (.long xb), .second, .val (.long xc), .second, .val (.long xd), .second] [])) ?_ (st20)
  obtain ⟨fs26, hr26, hrun26, hended26, hW26, hsame26⟩ := X20.leave (v := none) (fun _ => rfl)
  refine ⟨_, ⟨_, hrun26, hended26, _, _, rfl, ?_, ⟨_, rfl⟩, hW26, hsame26.mono (by decide) (by decide)⟩, fun _ k => (X20.returnOut hx Bd.returns (hb hby own_d1_26) hr26).trans k⟩
  show own_Q1 Z oa xa xb xc xd h0 n0 _ T20.heap _
  rw [e20]
  exact ⟨rfl, N20, KK20, fa23, fa24, fa25, Fw20⟩
theorem own_d2_0 : decode prog_14_method_2_code 0 = .ok (.aload_n 0, 1) := by decide +kernel
theorem own_d2_1 : decode prog_14_method_2_code 1 = .ok (.getfield 7, 3) := by decide +kernel
theorem own_d2_4 : decode prog_14_method_2_code 4 = .ok (.aload_n 0, 1) := by decide +kernel
theorem own_d2_5 : decode prog_14_method_2_code 5 = .ok (.getfield 13, 3) := by decide +kernel
theorem own_d2_8 : decode prog_14_method_2_code 8 = .ok (.lsub, 1) := by decide +kernel
theorem own_d2_9 : decode prog_14_method_2_code 9 = .ok (.aload_n 0, 1) := by decide +kernel
theorem own_d2_10 : decode prog_14_method_2_code 10 = .ok (.getfield 16, 3) := by decide +kernel
theorem own_d2_13 : decode prog_14_method_2_code 13 = .ok (.lsub, 1) := by decide +kernel
theorem own_d2_14 : decode prog_14_method_2_code 14 = .ok (.aload_n 0, 1) := by decide +kernel
theorem own_d2_15 : decode prog_14_method_2_code 15 = .ok (.getfield 19, 3) := by decide +kernel
theorem own_d2_18 : decode prog_14_method_2_code 18 = .ok (.lsub, 1) := by decide +kernel
theorem own_d2_19 : decode prog_14_method_2_code 19 = .ok (.lreturn, 1) := by decide +kernel
def own_f2 (xa : Int64) (xb : Int64) (xc : Int64) (xd : Int64) : Int64 := (((xa - xb) - xc) - xd)
theorem own_ef2 (m : MethodId) (oa : Addr) : entryFrame m #[(.ref oa)] 1 = mkF m 0 #[.val (.ref oa)] [] := by first | (simp [entryFrame, mkF, argsToLocals, Value.category]; done) | rfl
abbrev own_room2 : Room := { frames := 0, cells := 0, slots := 0, locals := 0 }
def own_Q2 (Z : State) (oa : Addr) (xa : Int64) (xb : Int64) (xc : Int64) (xd : Int64) (h0 : Heap) (n0 : Nat) (v : Option Value) (h : Heap) (L : List Loc) : Prop := v = some (.long (own_f2 xa xb xc xd)) ∧ Fr n0 L ∧ h = h0
set_option maxRecDepth 65536 in
set_option maxHeartbeats 40000000 in
theorem own_rm2 (l : Launch) (Z : State) (a0 : Array Value) (hw : ∀ d ∈ tables_1, d.before a0 Z = true) (ws : List Jvm.Cond) (oa : Addr) (xa : Int64) (xb : Int64) (xc : Int64) (xd : Int64) (h0 : Heap) (n0 : Nat) (Z0 : n0 ≤ h0.size) (F_total_oa : Fld Z h0 oa "com/example/inca_dove/incadove/lists/Audience$Counters" "total" "J" (.long xa)) (F_duplicates_oa : Fld Z h0 oa "com/example/inca_dove/incadove/lists/Audience$Counters" "duplicates" "J" (.long xb)) (F_excluded_oa : Fld Z h0 oa "com/example/inca_dove/incadove/lists/Audience$Counters" "excluded" "J" (.long xc)) (F_unsubscribed_oa : Fld Z h0 oa "com/example/inca_dove/incadove/lists/Audience$Counters" "unsubscribed" "J" (.long xd)) :
    MetFree l (⟨"com/example/inca_dove/incadove/lists/Audience$Counters", "recipients", "()J"⟩ : MethodName) (head1 (Jvm.Cond.code (⟨"com/example/inca_dove/incadove/lists/Audience$Counters", "recipients", "()J"⟩ : MethodName) prog_14_method_2_code 1 (some .long) :: ws) own_room2) (fun a U => a = #[(.ref oa)] ∧ Z.Warmed39 U.vm ∧ U.heap = h0) (fun _ _ _ _ _ => True) (fun _ U o U' => ∃ v L, o = .returned v ∧ own_Q2 Z oa xa xb xc xd h0 n0 v U'.heap L ∧ FrameEnd U o U' L own_room2.cells own_room2.slots) := by
  refine MetFree.of_bodySF (plainFor_of_name own_pn1) hisR ?_
  intro p e s m args below meth c s₁ Bd hml0 hP hK
  obtain ⟨rfl, hZ, hh⟩ := hP
  have hx := Bd.exec
  have hby := Bd.bytes
  have hml : c.maxLocals = 1 := hml0
  have hown : s.vm.findClass "com/example/inca_dove/incadove/lists/Audience$Counters" = some m.cls := findClass_of_methodNamed Bd.named
  have hnm := (name_of_methodNamed Bd.named Bd.method).1
  have X0 : Stand p l e own_room2 s m #[(.ref oa)] below meth c s₁ [] 0 0 := Stand.of_body Bd
  have e0 : s₁.heap = h0 := by rw [← hh, Bd.state]; rfl
  have N0 := Fr.nil n0
  refine own_out (Q := fun o U' => ∃ v L, o = .returned v ∧ own_Q2 Z oa xa xb xc xd h0 n0 v U'.heap L ∧ FrameEnd s o U' L own_room2.cells own_room2.slots) ?_
  refine own_go (T' := s₁) (f' := (mkF m 0 #[.val (.ref oa)] [])) ?_ (fun _ k => castTop (own_ef2 m oa) k)
  refine own_go (T' := s₁) (f' := (mkF m 1 #[.val (.ref oa)] [(.ref oa)])) ?_ (fun _ k => XS.aloadN X0.here hx rfl (hb hby own_d2_0) rfl rfl k)
  obtain ⟨T1, X1, e1, st1⟩ := getF X0 hx hZ hown (host := "") (Or.inl (hw _ (List.mem_of_getElem? (i := 14) rfl))) Via.refl e0 F_total_oa (g := (mkF m 1 #[.val (.ref oa)] [(.ref oa)])) rfl rfl (hb hby own_d2_1)
  refine own_go (T' := T1) (f' := (mkF m 4 #[.val (.ref oa)] [(.long xa)])) ?_ (st1)
  refine own_go (T' := T1) (f' := (mkF m 5 #[.val (.ref oa)] [(.ref oa), (.long xa)])) ?_ (fun _ k => XS.aloadN X1.here hx rfl (hb hby own_d2_4) rfl rfl k)
  obtain ⟨T2, X2, e2, st2⟩ := getF X1 hx hZ hown (host := "") (Or.inl (hw _ (List.mem_of_getElem? (i := 16) rfl))) Via.refl e1 F_duplicates_oa (g := (mkF m 5 #[.val (.ref oa)] [(.ref oa), (.long xa)])) rfl rfl (hb hby own_d2_5)
  refine own_go (T' := T2) (f' := (mkF m 8 #[.val (.ref oa)] [(.long xb), (.long xa)])) ?_ (st2)
  refine own_go (T' := T2) (f' := (mkF m 9 #[.val (.ref oa)] [(.long (xa - xb))])) ?_ (fun _ k => XS.lsub X2.here hx rfl (hb hby own_d2_8) rfl k)
  refine own_go (T' := T2) (f' := (mkF m 10 #[.val (.ref oa)] [(.ref oa), (.long (xa - xb))])) ?_ (fun _ k => XS.aloadN X2.here hx rfl (hb hby own_d2_9) rfl rfl k)
  obtain ⟨T3, X3, e3, st3⟩ := getF X2 hx hZ hown (host := "") (Or.inl (hw _ (List.mem_of_getElem? (i := 18) rfl))) Via.refl e2 F_excluded_oa (g := (mkF m 10 #[.val (.ref oa)] [(.ref oa), (.long (xa - xb))])) rfl rfl (hb hby own_d2_10)
  refine own_go (T' := T3) (f' := (mkF m 13 #[.val (.ref oa)] [(.long xc), (.long (xa - xb))])) ?_ (st3)
  refine own_go (T' := T3) (f' := (mkF m 14 #[.val (.ref oa)] [(.long ((xa - xb) - xc))])) ?_ (fun _ k => XS.lsub X3.here hx rfl (hb hby own_d2_13) rfl k)
  refine own_go (T' := T3) (f' := (mkF m 15 #[.val (.ref oa)] [(.ref oa), (.long ((xa - xb) - xc))])) ?_ (fun _ k => XS.aloadN X3.here hx rfl (hb hby own_d2_14) rfl rfl k)
  obtain ⟨T4, X4, e4, st4⟩ := getF X3 hx hZ hown (host := "") (Or.inl (hw _ (List.mem_of_getElem? (i := 20) rfl))) Via.refl e3 F_unsubscribed_oa (g := (mkF m 15 #[.val (.ref oa)] [(.ref oa), (.long ((xa - xb) - xc))])) rfl rfl (hb hby own_d2_15)
  refine own_go (T' := T4) (f' := (mkF m 18 #[.val (.ref oa)] [(.long xd), (.long ((xa - xb) - xc))])) ?_ (st4)
  refine own_go (T' := T4) (f' := (mkF m 19 #[.val (.ref oa)] [(.long (((xa - xb) - xc) - xd))])) ?_ (fun _ k => XS.lsub X4.here hx rfl (hb hby own_d2_18) rfl k)
  obtain ⟨fs5, hr5, hrun5, hended5, hW5, hsame5⟩ := X4.leave (v := some (.long (((xa - xb) - xc) - xd))) (fun h => by rw [Bd.returns] at h; cases h)
  refine ⟨_, ⟨_, hrun5, hended5, _, _, rfl, ?_, ⟨_, rfl⟩, hW5, hsame5.mono (by decide) (by decide)⟩, fun _ k => (own_retJ X4 hx Bd.returns (hb hby own_d2_19) hr5).trans k⟩
  show own_Q2 Z oa xa xb xc xd h0 n0 _ T4.heap _
  rw [e4]
  exact ⟨rfl, N0, rfl⟩
theorem own_pd1 : parseMethodDescriptor "(JJJJ)V" = some ⟨[.long, .long, .long, .long], none⟩ := by decide +kernel
theorem own_pd2 : parseMethodDescriptor "()J" = some ⟨[], some .long⟩ := by decide +kernel
theorem own_pn2 : plainName "com/example/inca_dove/incadove/lists/CountersRecipientsPinLaw" = true := by first | (simp [plainName, overriddenIn]; done) | decide +kernel
def own_v0_34_s0 (xa : Int64) (xb : Int64) (xc : Int64) (xd : Int64) : Int32 := (if (lcmpW ((((own_f2 xa xb xc xd) + xb) + xc) + xd) xa) = (0 : Int32) then (1 : Int32) else (0 : Int32))
def own_f0 (xa : Int64) (xb : Int64) (xc : Int64) (xd : Int64) : Int32 := (own_v0_34_s0 xa xb xc xd)
theorem own_b0_34_s0 (xa : Int64) (xb : Int64) (xc : Int64) (xd : Int64) : (own_v0_34_s0 xa xb xc xd) &&& 1 = (own_v0_34_s0 xa xb xc xd) := (own_ite_bool (by decide) (by decide))
theorem own_bf0 (xa : Int64) (xb : Int64) (xc : Int64) (xd : Int64) : (own_f0 xa xb xc xd) &&& 1 = (own_f0 xa xb xc xd) := (own_b0_34_s0 xa xb xc xd)
theorem own_ef0 (m : MethodId) (xa : Int64) (xb : Int64) (xc : Int64) (xd : Int64) : entryFrame m #[(.long xa), (.long xb), (.long xc), (.long xd)] maxLocals = mkF m 0 #[.val (.long xa), .second, .val (.long xb), .second, .val (.long xc), .second, .val (.long xd), .second, .unset, .unset, .unset] [] := by first | (simp [entryFrame, mkF, argsToLocals, Value.category, maxLocals]; done) | rfl
def own_Q0 (Z : State) (xa : Int64) (xb : Int64) (xc : Int64) (xd : Int64) (h0 : Heap) (n0 : Nat) (v : Option Value) (h : Heap) (L : List Loc) : Prop := v = some (.int (own_f0 xa xb xc xd)) ∧ Fr n0 L
set_option maxRecDepth 65536 in
set_option maxHeartbeats 40000000 in
theorem own_rm0 (l : Launch) (Z : State) (a0 : Array Value) (hw : ∀ d ∈ tables_1, d.before a0 Z = true) (ws : List Jvm.Cond) (xa : Int64) (xb : Int64) (xc : Int64) (xd : Int64) (h0 : Heap) (n0 : Nat) (Z0 : n0 ≤ h0.size) :
    MetFree l x (head1 (Jvm.Cond.code x code maxLocals ret :: ws) room_1) (fun a U => a = #[(.long xa), (.long xb), (.long xc), (.long xd)] ∧ Z.Warmed39 U.vm ∧ U.heap = h0) (fun _ _ _ _ _ => True) (fun _ U o U' => ∃ v L, o = .returned v ∧ own_Q0 Z xa xb xc xd h0 n0 v U'.heap L ∧ FrameEnd U o U' L 16 128) := by
  refine MetFree.of_bodySF (plainFor_of_name own_pn2) hisR ?_
  intro p e s m args below meth c s₁ Bd hml0 hP hK
  obtain ⟨rfl, hZ, hh⟩ := hP
  have hx := Bd.exec
  have hby := Bd.bytes
  have hml : c.maxLocals = 11 := hml0
  have hown : s.vm.findClass "com/example/inca_dove/incadove/lists/CountersRecipientsPinLaw" = some m.cls := findClass_of_methodNamed Bd.named
  have hnm := (name_of_methodNamed Bd.named Bd.method).1
  have X0 : Stand p l e room_1 s m #[(.long xa), (.long xb), (.long xc), (.long xd)] below meth c s₁ [] 0 0 := Stand.of_body Bd
  have e0 : s₁.heap = h0 := by rw [← hh, Bd.state]; rfl
  have N0 := Fr.nil n0
  refine own_out (Q := fun o U' => ∃ v L, o = .returned v ∧ own_Q0 Z xa xb xc xd h0 n0 v U'.heap L ∧ FrameEnd s o U' L 16 128) ?_
  refine own_go (T' := s₁) (f' := (mkF m 0 #[.val (.long xa), .second, .val (.long xb), .second, .val (.long xc), .second, .val (.long xd), .second, .unset, .unset, .unset] [])) ?_ (fun _ k => castTop (own_ef0 m xa xb xc xd) k)
  obtain ⟨T1, h1, X1, e1, E1, A1, D1, -, st1⟩ := newO X0 hx hZ hown (hw _ (List.mem_of_getElem? (i := 0) rfl)) (hw _ (List.mem_of_getElem? (i := 1) rfl)) (hw _ (List.mem_of_getElem? (i := 2) rfl)) e0 (g := (mkF m 0 #[.val (.long xa), .second, .val (.long xb), .second, .val (.long xc), .second, .val (.long xd), .second, .unset, .unset, .unset] [])) rfl (hb hby at_0) (by decide) (by decide)
  obtain ⟨b1, g1⟩ : ∃ z, z = h0.size := ⟨_, rfl⟩
  rw [← g1] at A1 D1 st1
  have KK1 : Keep h0 h1 [] := (Keep.refl h0 []).ext E1
  have g_b1 : n0 ≤ b1 := Nat.le_trans Z0 (Nat.le_of_eq g1.symm)
  have sz_b1 : h0.size ≤ b1 := Nat.le_trans (Keep.refl h0 []).1 (Nat.le_of_eq g1.symm)
  have ZZ1 : n0 ≤ h1.size := Nat.le_trans Z0 E1.1
  have F1_total : Fld Z h1 b1 "com/example/inca_dove/incadove/lists/Audience$Counters" "total" "J" (.long (0 : Int64)) := D1 (Or.inr (hw _ (List.mem_of_getElem? (i := 15) rfl))) (ty := .long) (by decide)
  have F1_duplicates : Fld Z h1 b1 "com/example/inca_dove/incadove/lists/Audience$Counters" "duplicates" "J" (.long (0 : Int64)) := D1 (Or.inr (hw _ (List.mem_of_getElem? (i := 17) rfl))) (ty := .long) (by decide)
  have F1_excluded : Fld Z h1 b1 "com/example/inca_dove/incadove/lists/Audience$Counters" "excluded" "J" (.long (0 : Int64)) := D1 (Or.inr (hw _ (List.mem_of_getElem? (i := 19) rfl))) (ty := .long) (by decide)
  have F1_unsubscribed : Fld Z h1 b1 "com/example/inca_dove/incadove/lists/Audience$Counters" "unsubscribed" "J" (.long (0 : Int64)) := D1 (Or.inr (hw _ (List.mem_of_getElem? (i := 21) rfl))) (ty := .long) (by decide)
  refine own_go (T' := T1) (f' := (mkF m 3 #[.val (.long xa), .second, .val (.long xb), .second, .val (.long xc), .second, .val (.long xd), .second, .unset, .unset, .unset] [(.ref b1)])) ?_ (st1)
  refine own_go (T' := T1) (f' := (mkF m 4 #[.val (.long xa), .second, .val (.long xb), .second, .val (.long xc), .second, .val (.long xd), .second, .unset, .unset, .unset] [(.ref b1), (.ref b1)])) ?_ (fun _ k => XS.dup X1.here hx rfl (hb hby at_3) rfl rfl k)
  refine own_go (T' := T1) (f' := (mkF m 5 #[.val (.long xa), .second, .val (.long xb), .second, .val (.long xc), .second, .val (.long xd), .second, .unset, .unset, .unset] [(.long xa), (.ref b1), (.ref b1)])) ?_ (fun _ k => XS.lloadN X1.here hx rfl (hb hby at_4) rfl  k)
  refine own_go (T' := T1) (f' := (mkF m 6 #[.val (.long xa), .second, .val (.long xb), .second, .val (.long xc), .second, .val (.long xd), .second, .unset, .unset, .unset] [(.long xb), (.long xa), (.ref b1), (.ref b1)])) ?_ (fun _ k => XS.lloadN X1.here hx rfl (hb hby at_5) rfl  k)
  refine own_go (T' := T1) (f' := (mkF m 8 #[.val (.long xa), .second, .val (.long xb), .second, .val (.long xc), .second, .val (.long xd), .second, .unset, .unset, .unset] [(.long xc), (.long xb), (.long xa), (.ref b1), (.ref b1)])) ?_ (fun _ k => XS.lload X1.here hx rfl (hb hby at_6) rfl  k)
  refine own_go (T' := T1) (f' := (mkF m 10 #[.val (.long xa), .second, .val (.long xb), .second, .val (.long xc), .second, .val (.long xd), .second, .unset, .unset, .unset] [(.long xd), (.long xc), (.long xb), (.long xa), (.ref b1), (.ref b1)])) ?_ (fun _ k => XS.lload X1.here hx rfl (hb hby at_8) rfl  k)
  obtain ⟨_, _, ⟨T2, L2, k2, n2⟩, -, X2, ⟨Lc2, hQ2, l2, y2, z2⟩, st2⟩ := X1.specialBack hx (y := (⟨"com/example/inca_dove/incadove/lists/Audience$Counters", "<init>", "(JJJJ)V"⟩ : MethodName)) rfl hown (mvT hZ (hw _ (List.mem_of_getElem? (i := 3) rfl))) (mvT hZ (hw _ (List.mem_of_getElem? (i := 4) rfl))) (mvT hZ (hw _ (List.mem_of_getElem? (i := 5) rfl))) (by decide) (backOf (W := 1) (own_rm1 l Z a0 hw [] b1 xa xb xc xd h1 n0 ZZ1 A1 g_b1 F1_total F1_duplicates F1_excluded F1_unsubscribed) hZ (hw _ (List.mem_of_getElem? (i := 5) rfl)) (hw _ (List.mem_of_getElem? (i := 2) rfl)) (by decide) (by decide)) (g := (mkF m 10 #[.val (.long xa), .second, .val (.long xb), .second, .val (.long xc), .second, .val (.long xd), .second, .unset, .unset, .unset] [(.long xd), (.long xc), (.long xb), (.long xa), (.ref b1), (.ref b1)])) rfl (by rw [hml]; rfl) (Steps.refl _) (a := b1) (argsL := [(.long xa), (.long xb), (.long xc), (.long xd)]) (rest := [(.ref b1)]) (lenOf own_pd1 rfl) rfl (by show 2 * 0 + _ ≤ _; exact Nat.le_of_eq rfl) (hb hby at_10) (fun _ _ => ⟨rfl, e1, (by decide : 1 + 0 ≤ _), (by decide : 4 + 0 ≤ _)⟩)
  dsimp only [Pt.U, Pt.locs, Pt.cells, Pt.slots] at X2 l2 y2 z2 st2 hQ2
  subst y2 z2
  obtain ⟨rfl, N2q, K2, P2_0, P2_1, P2_2, P2_3⟩ := hQ2
  have fa3 := A1.keep K2
  have KK2 : Keep h0 T2.heap [] := KK1.trans K2 (allS (Or.inr sz_b1) all0)
  have ZZ2 : n0 ≤ T2.heap.size := Nat.le_trans ZZ1 K2.1
  have N2 : Fr n0 L2 := l2 ▸ Fr.app N0 N2q
  refine own_go (T' := T2) (f' := (mkF m 13 #[.val (.long xa), .second, .val (.long xb), .second, .val (.long xc), .second, .val (.long xd), .second, .unset, .unset, .unset] [(.ref b1)])) ?_ (fun _ k => st2.trans k)
  refine own_go (T' := T2) (f' := (mkF m 15 #[.val (.long xa), .second, .val (.long xb), .second, .val (.long xc), .second, .val (.long xd), .second, .val (.ref b1), .unset, .unset] [])) ?_ (fun _ k => XS.astore X2.here hx rfl (hb hby at_13) rfl rfl (l' := #[.val (.long xa), .second, .val (.long xb), .second, .val (.long xc), .second, .val (.long xd), .second, .val (.ref b1), .unset, .unset]) rfl k)
  refine own_go (T' := T2) (f' := (mkF m 17 #[.val (.long xa), .second, .val (.long xb), .second, .val (.long xc), .second, .val (.long xd), .second, .val (.ref b1), .unset, .unset] [(.ref b1)])) ?_ (fun _ k => XS.aload X2.here hx rfl (hb hby at_15) rfl rfl k)
  obtain ⟨cq8, kq8, qa8, qb8, qc8⟩ := isOf hZ rfl fa3
  obtain ⟨_, _, ⟨T8, L8, k8, n8⟩, -, X8, ⟨Lc8, hQ8, l8, y8, z8⟩, st8⟩ := X2.virtualBack hx (y := (⟨"com/example/inca_dove/incadove/lists/Audience$Counters", "recipients", "()J"⟩ : MethodName)) (z := (⟨"com/example/inca_dove/incadove/lists/Audience$Counters", "recipients", "()J"⟩ : MethodName)) hown (mvT hZ (hw _ (List.mem_of_getElem? (i := 22) rfl))) (mvT hZ (hw _ (List.mem_of_getElem? (i := 23) rfl))) (notFace_of_selects (args := #[]) (mvT hZ (hw _ (List.mem_of_getElem? (i := 25) rfl)))) (mvT hZ (hw _ (List.mem_of_getElem? (i := 25) rfl))) (mvT hZ (hw _ (List.mem_of_getElem? (i := 24) rfl))) (by decide) (backOf (W := 0) (own_rm2 l Z a0 hw [] b1 xa xb xc xd T2.heap n0 ZZ2 P2_0 P2_1 P2_2 P2_3) hZ (hw _ (List.mem_of_getElem? (i := 26) rfl)) (hw _ (List.mem_of_getElem? (i := 2) rfl)) (by decide) (by decide)) qa8 qc8 (g := (mkF m 17 #[.val (.long xa), .second, .val (.long xb), .second, .val (.long xc), .second, .val (.long xd), .second, .val (.ref b1), .unset, .unset] [(.ref b1)])) rfl (by rw [hml]; rfl) (Steps.refl _) (argsL := []) (rest := []) (lenOf own_pd2 rfl) rfl (by show 2 * 0 + _ ≤ _; exact Nat.le_of_eq rfl) (hb hby at_17) (fun _ _ => ⟨rfl, rfl, (by decide : 1 + 0 ≤ _), (by decide : 4 + 0 ≤ _)⟩)
  dsimp only [Pt.U, Pt.locs, Pt.cells, Pt.slots] at X8 l8 y8 z8 st8 hQ8
  subst y8 z8
  obtain ⟨rfl, N8q, e8⟩ := hQ8
  have N8 : Fr n0 L8 := l8 ▸ Fr.app N2 N8q
  refine own_go (T' := T8) (f' := (mkF m 20 #[.val (.long xa), .second, .val (.long xb), .second, .val (.long xc), .second, .val (.long xd), .second, .val (.ref b1), .unset, .unset] [(.long (own_f2 xa xb xc xd))])) ?_ (fun _ k => st8.trans k)
  refine own_go (T' := T8) (f' := (mkF m 22 #[.val (.long xa), .second, .val (.long xb), .second, .val (.long xc), .second, .val (.long xd), .second, .val (.ref b1), .val (.long (own_f2 xa xb xc xd)), .second] [])) ?_ (fun _ k => XS.lstore X8.here hx rfl (hb hby at_20) rfl (l' := #[.val (.long xa), .second, .val (.long xb), .second, .val (.long xc), .second, .val (.long xd), .second, .val (.ref b1), .val (.long (own_f2 xa xb xc xd)), .second]) rfl k)
  refine own_go (T' := T8) (f' := (mkF m 24 #[.val (.long xa), .second, .val (.long xb), .second, .val (.long xc), .second, .val (.long xd), .second, .val (.ref b1), .val (.long (own_f2 xa xb xc xd)), .second] [(.long (own_f2 xa xb xc xd))])) ?_ (fun _ k => XS.lload X8.here hx rfl (hb hby at_22) rfl  k)
  refine own_go (T' := T8) (f' := (mkF m 25 #[.val (.long xa), .second, .val (.long xb), .second, .val (.long xc), .second, .val (.long xd), .second, .val (.ref b1), .val (.long (own_f2 xa xb xc xd)), .second] [(.long xb), (.long (own_f2 xa xb xc xd))])) ?_ (fun _ k => XS.lloadN X8.here hx rfl (hb hby at_24) rfl  k)
  refine own_go (T' := T8) (f' := (mkF m 26 #[.val (.long xa), .second, .val (.long xb), .second, .val (.long xc), .second, .val (.long xd), .second, .val (.ref b1), .val (.long (own_f2 xa xb xc xd)), .second] [(.long ((own_f2 xa xb xc xd) + xb))])) ?_ (fun _ k => XS.ladd X8.here hx rfl (hb hby at_25) rfl k)
  refine own_go (T' := T8) (f' := (mkF m 28 #[.val (.long xa), .second, .val (.long xb), .second, .val (.long xc), .second, .val (.long xd), .second, .val (.ref b1), .val (.long (own_f2 xa xb xc xd)), .second] [(.long xc), (.long ((own_f2 xa xb xc xd) + xb))])) ?_ (fun _ k => XS.lload X8.here hx rfl (hb hby at_26) rfl  k)
  refine own_go (T' := T8) (f' := (mkF m 29 #[.val (.long xa), .second, .val (.long xb), .second, .val (.long xc), .second, .val (.long xd), .second, .val (.ref b1), .val (.long (own_f2 xa xb xc xd)), .second] [(.long (((own_f2 xa xb xc xd) + xb) + xc))])) ?_ (fun _ k => XS.ladd X8.here hx rfl (hb hby at_28) rfl k)
  refine own_go (T' := T8) (f' := (mkF m 31 #[.val (.long xa), .second, .val (.long xb), .second, .val (.long xc), .second, .val (.long xd), .second, .val (.ref b1), .val (.long (own_f2 xa xb xc xd)), .second] [(.long xd), (.long (((own_f2 xa xb xc xd) + xb) + xc))])) ?_ (fun _ k => XS.lload X8.here hx rfl (hb hby at_29) rfl  k)
  refine own_go (T' := T8) (f' := (mkF m 32 #[.val (.long xa), .second, .val (.long xb), .second, .val (.long xc), .second, .val (.long xd), .second, .val (.ref b1), .val (.long (own_f2 xa xb xc xd)), .second] [(.long ((((own_f2 xa xb xc xd) + xb) + xc) + xd))])) ?_ (fun _ k => XS.ladd X8.here hx rfl (hb hby at_31) rfl k)
  refine own_go (T' := T8) (f' := (mkF m 33 #[.val (.long xa), .second, .val (.long xb), .second, .val (.long xc), .second, .val (.long xd), .second, .val (.ref b1), .val (.long (own_f2 xa xb xc xd)), .second] [(.long xa), (.long ((((own_f2 xa xb xc xd) + xb) + xc) + xd))])) ?_ (fun _ k => XS.lloadN X8.here hx rfl (hb hby at_32) rfl  k)
  refine own_go (T' := T8) (f' := (mkF m 34 #[.val (.long xa), .second, .val (.long xb), .second, .val (.long xc), .second, .val (.long xd), .second, .val (.ref b1), .val (.long (own_f2 xa xb xc xd)), .second] [(.int (lcmpW ((((own_f2 xa xb xc xd) + xb) + xc) + xd) xa))])) ?_ (fun _ k => XS.lcmp X8.here hx rfl (hb hby at_33) rfl k)
  obtain ⟨_, ⟨T9, L9, rfl, X9, e9, N9⟩, mg9⟩ : own_Goes p.tables e below (fun uu => ∃ (T' : State) (L' : List Loc), uu = T'.setTop (mkF m 42 #[.val (.long xa), .second, .val (.long xb), .second, .val (.long xc), .second, .val (.long xd), .second, .val (.ref b1), .val (.long (own_f2 xa xb xc xd)), .second] [(.int (own_v0_34_s0 xa xb xc xd))]) ∧ Stand p l e room_1 s m #[(.long xa), (.long xb), (.long xc), (.long xd)] below meth c T' L' 1 4 ∧ T'.heap = T2.heap ∧ Fr n0 L') T8 (mkF m 34 #[.val (.long xa), .second, .val (.long xb), .second, .val (.long xc), .second, .val (.long xd), .second, .val (.ref b1), .val (.long (own_f2 xa xb xc xd)), .second] [(.int (lcmpW ((((own_f2 xa xb xc xd) + xb) + xc) + xd) xa))]) := by
    by_cases hc34_10 : (lcmpW ((((own_f2 xa xb xc xd) + xb) + xc) + xd) xa) = (0 : Int32)
    · refine own_go (T' := T8) (f' := (mkF m 37 #[.val (.long xa), .second, .val (.long xb), .second, .val (.long xc), .second, .val (.long xd), .second, .val (.ref b1), .val (.long (own_f2 xa xb xc xd)), .second] [])) ?_ (fun _ k => XS.ifNo X8.here hx rfl (hb hby at_34) rfl ((if0 _ _).trans (teq hc34_10).2) k)
      refine own_go (T' := T8) (f' := (mkF m 38 #[.val (.long xa), .second, .val (.long xb), .second, .val (.long xc), .second, .val (.long xd), .second, .val (.ref b1), .val (.long (own_f2 xa xb xc xd)), .second] [(.int (1 : Int32))])) ?_ (fun _ k => XS.iconst X8.here hx rfl (hb hby at_37) k)
      refine own_go (T' := T8) (f' := (mkF m 42 #[.val (.long xa), .second, .val (.long xb), .second, .val (.long xc), .second, .val (.long xd), .second, .val (.ref b1), .val (.long (own_f2 xa xb xc xd)), .second] [(.int (1 : Int32))])) ?_ (fun _ k => XS.goto X8.here hx rfl (pc0 := 38) (pc' := 42) rfl (hb hby at_38) (by decide) (by decide) k)
      have em11 : (own_v0_34_s0 xa xb xc xd) = (1 : Int32) := (if_pos hc34_10)
      exact ⟨_, ⟨T8, _, (by rw [em11]), X8, e8, N8⟩, fun _ k => k⟩
    · refine own_go (T' := T8) (f' := (mkF m 41 #[.val (.long xa), .second, .val (.long xb), .second, .val (.long xc), .second, .val (.long xd), .second, .val (.ref b1), .val (.long (own_f2 xa xb xc xd)), .second] [])) ?_ (fun _ k => XS.ifYes X8.here hx rfl (pc0 := 34) (pc' := 41) rfl (hb hby at_34) rfl ((if0 _ _).trans (feq hc34_10).2) (by decide) (by decide) k)
      refine own_go (T' := T8) (f' := (mkF m 42 #[.val (.long xa), .second, .val (.long xb), .second, .val (.long xc), .second, .val (.long xd), .second, .val (.ref b1), .val (.long (own_f2 xa xb xc xd)), .second] [(.int (0 : Int32))])) ?_ (fun _ k => XS.iconst X8.here hx rfl (hb hby at_41) k)
      have em12 : (own_v0_34_s0 xa xb xc xd) = (0 : Int32) := (if_neg hc34_10)
      exact ⟨_, ⟨T8, _, (by rw [em12]), X8, e8, N8⟩, fun _ k => k⟩
  refine own_go (T' := T9) (f' := (mkF m 42 #[.val (.long xa), .second, .val (.long xb), .second, .val (.long xc), .second, .val (.long xd), .second, .val (.ref b1), .val (.long (own_f2 xa xb xc xd)), .second] [(.int (own_v0_34_s0 xa xb xc xd))])) ?_ (mg9)
  obtain ⟨fs13, hr13, hrun13, hended13, hW13, hsame13⟩ := X9.leave (v := some (.int (own_v0_34_s0 xa xb xc xd))) (fun h => by rw [Bd.returns] at h; cases h)
  refine ⟨_, ⟨_, hrun13, hended13, _, _, rfl, ?_, ⟨_, rfl⟩, hW13, hsame13.mono (by decide) (by decide)⟩, fun _ k => (own_retZ X9 hx Bd.returns (own_b0_34_s0 xa xb xc xd) (hb hby at_42) hr13).trans k⟩
  show own_Q0 Z xa xb xc xd h0 n0 _ T9.heap _
  rw [e9]
  exact ⟨rfl, N9⟩
theorem own_plain (xa xb xc xd : Int64) : (own_f0 xa xb xc xd) = 1 := by
  have e : (((own_f2 xa xb xc xd) + xb) + xc) + xd = xa := by
    unfold own_f2
    apply Int64.toBitVec_inj.mp
    simp only [Int64.toBitVec_add, Int64.toBitVec_sub]
    bv_omega
  exact if_pos ((lw_eq _ _).mpr e)
set_option maxRecDepth 65536 in
set_option maxHeartbeats 40000000 in
theorem comes_1 {Post : Tables → Env → Array Value → State → Outcome → State → Prop} (hpost : ∀ tb e args s v u, (limb_1_1.after args s (.returned v) u = true ∧ limb_1_2.after args s (.returned v) u = true ∧ True) → FrameEnd s (.returned v) u (Jvm.fieldLocs frame_1_writes args s ++ Jvm.arrayLocs frame_1_arrays args s ++ Jvm.staticLocs frame_1_statics s) 16 128 → Post tb e args s (.returned v) u) :
    ArmFor flags0 classFile x code maxLocals ret World_1 tables_1 room_1 Calls_1 rest_1 Pre_1 Post := by
  intro l hfl _ _ p e ha hc hk s m args below hf hA hF happ hP
  obtain ⟨hcalls, hrest, hpre⟩ := hP
  obtain ⟨-, -, -, hnamed, -, -, -, hat⟩ := (Spec.applies_iff hf).mp happ
  obtain ⟨hg, hn⟩ := and_e (Cond.before_iff.mp (show (Jvm.Cond.and given_1 narrow_1).before args s = true from hpre))
  obtain ⟨gg1, gg2⟩ := and_e hg
  obtain ⟨gg3, gg4⟩ := and_e gg2
  obtain ⟨gg5, gg6⟩ := and_e gg4
  obtain ⟨gg7, gg8⟩ := and_e gg6
  obtain ⟨w0, w1, w2, w3, rfl⟩ : ∃ w0 w1 w2 w3 : Value, args = #[w0, w1, w2, w3] := by
    have hs : args.size = 4 := by simpa [Cond.value, given_1] using gg1
    obtain ⟨L⟩ := args
    match L, hs with
    | [w0, w1, w2, w3], _ => exact ⟨w0, w1, w2, w3, rfl⟩
  have hw := fun d (hd : d ∈ tables_1) => atoms_spec (ws := Jvm.Cond.code x code maxLocals ret :: tables_1) hat d (List.mem_cons_of_mem _ hd)
  have hfit : Fit s := fun {y c} hc i hi => by
    obtain ⟨ha, rfl⟩ := Array.getElem?_eq_some_iff.mp hc
    have q := List.all_eq_true.mp ((Array.all_eq_true_iff_forall_mem.mp hF) _ (Array.getElem_mem ha)) i (List.mem_range.mpr hi)
    simpa [Array.getElem?_eq_getElem hi] using q
  obtain ⟨i0, ei0⟩ := isL_v gg3
  obtain rfl : w0 = (.long i0) := Option.some.inj ei0
  obtain ⟨i1, ei1⟩ := isL_v gg5
  obtain rfl : w1 = (.long i1) := Option.some.inj ei1
  obtain ⟨i2, ei2⟩ := isL_v gg7
  obtain rfl : w2 = (.long i2) := Option.some.inj ei2
  obtain ⟨i3, ei3⟩ := isL_v gg8
  obtain rfl : w3 = (.long i3) := Option.some.inj ei3
  obtain ⟨n, o, h1, h2, h3, _, L, rfl, ⟨rv, N⟩, hq⟩ := own_rm0 l s _ hw tables_1 i0 i1 i2 i3 s.heap s.heap.size (Nat.le_refl _) p e ha hc hk s m _ below hf ((Spec.applies_iff_loose hf).mp happ).1 ⟨rfl, State.Warmed39.refl s, rfl⟩ trivial
  rw [own_plain] at rv
  subst rv
  refine ⟨n, _, h1, h2, h3, hpost _ _ _ _ _ _ ⟨Cond.after_iff.mpr rfl, Cond.after_iff.mpr (eq_i res_at (Term.int_eval (1)) rfl), trivial⟩ ⟨hq.1, hq.2.1, (hq.2.2.sift fun y hy => Or.inr (N y hy)).mono (by decide) (by decide)⟩⟩
theorem main_1_1 : Claimed_1_1 := comes_1 fun _ _ _ _ _ _ h hF => ⟨h.1, hF⟩
theorem main_1_2 : Claimed_1_2 := comes_1 fun _ _ _ _ _ _ h hF => ⟨h.2.1, hF⟩
end Jvm.Pilot.@@N@@
namespace Jvm.Pilot.@@N@@
open Jvm Jvm.ClassFile Sem Op Lib Jvm.Free Jvm.Stand Jvm.Pilot.@@N@@.Jvm.D
/-! MADE BY PROGRAM (witnessworld.py) out of the Statement's table words and the real class files: 10 classes; the members and pool entries that the words name. The judged class is class 1, her method 1. -/
namespace start1
open Jvm.ClassFile
def u (s : String) : CpInfo := .utf8 (stringToUtf16 s)
/-- a pool by its gaps: so many unusable entries, then the entry; so many at the end -/
def gap : Nat → List CpInfo → List CpInfo
  | 0, r => r
  | n + 1, r => .unusable :: gap n r
def poolList (es : List (Nat × CpInfo)) (last : Nat) : List CpInfo := es.foldr (fun e r => gap e.1 (e.2 :: r)) (gap last [])
def pool (es : List (Nat × CpInfo)) (last : Nat) : Array CpInfo := ⟨poolList es last⟩
def fileOf (pool : Array CpInfo) (this : Nat) (attrs : Array Attribute := #[]) (ms : Array MethodInfo := #[]) (fl : Nat := 33) (sup : Nat := 0) (ifs : Array Nat := #[]) (fds : Array FieldInfo := #[]) : ClassFile where
  minorVersion := 0
  majorVersion := 65
  constantPool := pool
  accessFlags := fl
  thisClass := this
  superClass := sup
  interfaces := ifs
  fields := fds
  methods := ms
  attributes := attrs
def plain (name : String) (sup : Option ClassId) : Class where
  name := name
  kind := .ordinary
  loader := none
  accessFlags := 33
  super := sup
  interfaces := #[]
  cf := none
  fields := #[]
  methods := #[]
  instanceTypes := #[]
  staticTypes := #[]
  resolved := #[]
  callSites := []
  init := .initialized
  statics := none
  mirror := none

def pool0 : Array CpInfo := pool [(5, u "<init>"), (0, u "()V"), (1, .class_ 10), (1, u "java/lang/Object")] 113

def k0c0 : Code := { maxStack := 0, maxLocals := 1, code := object_method_1_code, exceptionTable := #[], attributes := #[] }
def k0m0 : Method := { name := "<init>", desc := "()V", sig := { parameters := [], returnType := none }, accessFlags := 1, code := some k0c0 }
/-- java/lang/Object -/
def k0 : Class := { plain "java/lang/Object" none with
  accessFlags := 33
  interfaces := #[]
  cf := some (fileOf pool0 8 #[] #[{ accessFlags := 1, nameIndex := 5, descriptorIndex := 6, attributes := #[] }] 33 0 #[] #[])
  fields := #[]
  methods := #[k0m0]
  instanceTypes := #[]
  staticTypes := #[]
  resolved := Array.replicate 124 none
  statics := none }

def pool1 : Array CpInfo := pool [(2, .class_ 4), (1, u "java/lang/Object"), (0, u "<init>"), (0, u "()V"), (0, .class_ 8), (0, u "com/example/inca_dove/incadove/lists/Audience$Counters"), (0, .methodref 7 10), (0, .nameAndType 5 11), (0, u "(JJJJ)V"), (0, .methodref 7 13), (0, .nameAndType 14 15), (0, u "recipients"), (0, u "()J"), (0, .class_ 17), (0, u "com/example/inca_dove/incadove/lists/CountersRecipientsPinLaw"), (2, u "law"), (0, u "(JJJJ)Z")] 7

def k1m0 : Method := { name := "<init>", desc := "()V", sig := { parameters := [], returnType := none }, accessFlags := 2, code := none }
def k1c1 : Code := { maxStack := 10, maxLocals := 11, code := code, exceptionTable := #[], attributes := #[] }
def k1m1 : Method := { name := "law", desc := "(JJJJ)Z", sig := { parameters := [.long, .long, .long, .long], returnType := some .boolean }, accessFlags := 9, code := some k1c1 }
/-- com/example/inca_dove/incadove/lists/CountersRecipientsPinLaw -/
def k1 : Class := { plain "com/example/inca_dove/incadove/lists/CountersRecipientsPinLaw" (some 0) with
  accessFlags := 49
  interfaces := #[]
  cf := some (fileOf pool1 16 #[] #[{ accessFlags := 2, nameIndex := 5, descriptorIndex := 6, attributes := #[] }, { accessFlags := 9, nameIndex := 20, descriptorIndex := 21, attributes := #[] }] 49 2 #[] #[])
  fields := #[]
  methods := #[k1m0, k1m1]
  instanceTypes := #[]
  staticTypes := #[]
  resolved := Array.replicate 29 none
  statics := none }

def pool2 : Array CpInfo := pool [(1, .methodref 2 3), (0, .class_ 4), (0, .nameAndType 5 6), (0, u "java/lang/Object"), (0, u "<init>"), (0, u "()V"), (0, .class_ 8), (0, u "java/lang/Record")] 13

def k2c0 : Code := { maxStack := 1, maxLocals := 1, code := jdk_30_method_1_code, exceptionTable := #[], attributes := #[] }
def k2m0 : Method := { name := "<init>", desc := "()V", sig := { parameters := [], returnType := none }, accessFlags := 4, code := some k2c0 }
/-- java/lang/Record -/
def k2 : Class := { plain "java/lang/Record" (some 0) with
  accessFlags := 1057
  interfaces := #[]
  cf := some (fileOf pool2 7 #[] #[{ accessFlags := 4, nameIndex := 5, descriptorIndex := 6, attributes := #[] }] 1057 2 #[] #[])
  fields := #[]
  methods := #[k2m0]
  instanceTypes := #[]
  staticTypes := #[]
  resolved := Array.replicate 22 none
  statics := none }

def pool3 : Array CpInfo := pool [(1, .methodref 2 3), (0, .class_ 4), (0, .nameAndType 5 6), (0, u "java/lang/Record"), (0, u "<init>"), (0, u "()V"), (0, .fieldref 8 9), (0, .class_ 10), (0, .nameAndType 11 12), (0, u "com/example/inca_dove/incadove/lists/Audience$Counters"), (0, u "total"), (0, u "J"), (0, .fieldref 8 14), (0, .nameAndType 15 12), (0, u "duplicates"), (0, .fieldref 8 17), (0, .nameAndType 18 12), (0, u "excluded"), (0, .fieldref 8 20), (0, .nameAndType 21 12), (0, u "unsubscribed"), (12, u "(JJJJ)V"), (3, u "recipients"), (0, u "()J"), (6, .class_ 47), (0, u "com/example/inca_dove/incadove/lists/Audience")] 22

def k3c0 : Code := { maxStack := 3, maxLocals := 9, code := prog_14_method_1_code, exceptionTable := #[], attributes := #[] }
def k3m0 : Method := { name := "<init>", desc := "(JJJJ)V", sig := { parameters := [.long, .long, .long, .long], returnType := none }, accessFlags := 1, code := some k3c0 }
def k3c1 : Code := { maxStack := 4, maxLocals := 1, code := prog_14_method_2_code, exceptionTable := #[], attributes := #[] }
def k3m1 : Method := { name := "recipients", desc := "()J", sig := { parameters := [], returnType := some .long }, accessFlags := 1, code := some k3c1 }
/-- com/example/inca_dove/incadove/lists/Audience$Counters -/
def k3 : Class := { plain "com/example/inca_dove/incadove/lists/Audience$Counters" (some 2) with
  accessFlags := 49
  interfaces := #[]
  cf := some (fileOf pool3 8 #[.nestHost 46] #[{ accessFlags := 1, nameIndex := 5, descriptorIndex := 34, attributes := #[] }, { accessFlags := 1, nameIndex := 38, descriptorIndex := 39, attributes := #[] }] 49 2 #[] #[{ accessFlags := 18, nameIndex := 11, descriptorIndex := 12, attributes := #[] }, { accessFlags := 18, nameIndex := 15, descriptorIndex := 12, attributes := #[] }, { accessFlags := 18, nameIndex := 18, descriptorIndex := 12, attributes := #[] }, { accessFlags := 18, nameIndex := 21, descriptorIndex := 12, attributes := #[] }])
  fields := #[{ name := "total", type := .long, accessFlags := 18, slot := 0, constantValue := 0 }, { name := "duplicates", type := .long, accessFlags := 18, slot := 1, constantValue := 0 }, { name := "excluded", type := .long, accessFlags := 18, slot := 2, constantValue := 0 }, { name := "unsubscribed", type := .long, accessFlags := 18, slot := 3, constantValue := 0 }]
  methods := #[k3m0, k3m1]
  instanceTypes := #[.long, .long, .long, .long]
  staticTypes := #[]
  resolved := Array.replicate 70 none
  statics := none }

def pool4 : Array CpInfo := pool [(1, u "java/lang/Cloneable"), (0, .class_ 1), (0, u "java/lang/Object"), (0, .class_ 3)] 3

/-- java/lang/Cloneable -/
def k4 : Class := { plain "java/lang/Cloneable" (some 0) with
  accessFlags := 1537
  interfaces := #[]
  cf := some (fileOf pool4 2 #[] #[] 1537 4 #[] #[])
  fields := #[]
  methods := #[]
  instanceTypes := #[]
  staticTypes := #[]
  resolved := Array.replicate 8 none
  statics := none }

def pool5 : Array CpInfo := pool [(1, u "java/io/Serializable"), (0, .class_ 1), (0, u "java/lang/Object"), (0, .class_ 3)] 3

/-- java/io/Serializable -/
def k5 : Class := { plain "java/io/Serializable" (some 0) with
  accessFlags := 1537
  interfaces := #[]
  cf := some (fileOf pool5 2 #[] #[] 1537 4 #[] #[])
  fields := #[]
  methods := #[]
  instanceTypes := #[]
  staticTypes := #[]
  resolved := Array.replicate 8 none
  statics := none }

/-- the primitive byte -/
def k6 : Class := { plain "byte" none with kind := .primitive 'B', accessFlags := 0x411 }
/-- [B -/
def k7 : Class := { plain "[B" (some 0) with kind := .array 6 .byte, interfaces := #[4, 5], accessFlags := 1041 }

/-- the primitive int -/
def k8 : Class := { plain "int" none with kind := .primitive 'I', accessFlags := 0x411 }
/-- [I -/
def k9 : Class := { plain "[I" (some 0) with kind := .array 8 .int, interfaces := #[4, 5], accessFlags := 1041 }

def heap : Heap := #[]
def classes : Array Class := #[k0, k1, k2, k3, k4, k5, k6, k7, k8, k9]
def interned : List (Array UInt16 × Addr) := []
def slotsUsed : Nat := 0
def theMethod : MethodId := ⟨1, 1⟩
def args0 : Array Value := #[.long 9, .long 3, .long 2, .long 1]
def aboutOver (below : List Frame) : State where
  vm := { classes := classes, interned := interned.toArray }
  heap := heap
  slotsUsed := slotsUsed
  threads := #[{ frames := .invoking theMethod args0 :: below }]
def below0 : List Frame := [.native { method := ⟨0, 0⟩, args := #[] }]
def about1 : State := aboutOver below0
def p0 : Program := .bare "" "" ""
def e0 : Env := launch0.env 0 0 0
theorem w_frames : about1.frames = Frame.invoking theMethod args0 :: below0 := rfl
set_option maxRecDepth 65536 in
theorem w_args : argsFit about1.vm theMethod args0 = true := by decide +kernel
set_option maxRecDepth 65536 in
theorem w_heap : heapFits about1 = true := by decide +kernel
set_option maxRecDepth 65536 in
theorem w_runnable : about1.curStatus? = some .runnable := by decide +kernel
set_option maxRecDepth 65536 in
theorem w_alone : about1.alone = true := by decide +kernel
set_option maxRecDepth 65536 in
theorem w_named : about1.methodNamed? x = some theMethod := by decide +kernel
set_option maxRecDepth 65536 in
theorem w_hears : about1.hears theMethod below0 = true := by decide +kernel
set_option maxRecDepth 65536 in
theorem w_ripe : about1.ripe theMethod args0 below0 = true := by decide +kernel
theorem w_running : about1.status = .running := rfl
set_option maxRecDepth 65536 in
theorem w_room : about1.hasRoom e0.platform room_1 = true :=
  launch0.hasRoom_least _ room_1 (by decide +kernel) (by decide +kernel) (by decide +kernel) (by decide +kernel) (by decide +kernel) (by decide +kernel)
theorem allAtoms_all (ts : List Jvm.Cond) (a : Array Jvm.Value) (st : Jvm.State) : (allAtoms ts).before a st = ts.all (fun c => c.before a st) := by
  induction ts with
  | nil => rfl
  | cons c t ih =>
    show (Jvm.Cond.and c (allAtoms t)).before a st = _
    rw [Jvm.Cond.before_and, ih, List.all_cons]
def words1 : List Jvm.Cond := Jvm.Cond.code x code maxLocals ret :: tables_1
/-- a 'code' word, met by the world's own term for the bytes: nothing is compared byte by byte -/
theorem code_word {y : MethodName} {bytes : ByteArray} {mx : Nat} {rt : Option FieldType} {a : Array Value} {s : State} {m : MethodId} {meth : Method} {c : Code} (h1 : s.methodNamed? y = some m) (h2 : s.vm.method? m = some meth) (h3 : meth.code = some c) (h4 : c.code = bytes)
    (h5 : (c.maxLocals == mx && c.exceptionTable.isEmpty && decide (c.maxStack ≤ mostOperands) && decide (meth.sig.returnType = rt) && !meth.locks && decide (parseMethodDescriptor y.desc = some meth.sig)) = true) : (Jvm.Cond.code y bytes mx rt).before a s = true := by
  simp only [Bool.and_eq_true, beq_iff_eq, Bool.not_eq_true', decide_eq_true_eq] at h5
  obtain ⟨⟨⟨⟨⟨g1, g2⟩, g3⟩, g4⟩, g5⟩, g6⟩ := h5
  simp [Cond.before, Cond.holds, Cond.value, h1, h2, h3, h4, g1, g2, g3, g4, g5, g6]
def isCode : Jvm.Cond → Bool
  | .code _ _ _ _ => true
  | _ => false
theorem all_split {L : List Jvm.Cond} {P : Jvm.Cond → Bool} (h1 : L.all (fun c => isCode c || P c) = true) (h2 : ∀ c ∈ L.filter isCode, P c = true) : L.all P = true := by
  refine List.all_eq_true.mpr fun c hc => ?_
  have h := List.all_eq_true.mp h1 c hc
  rcases Bool.eq_false_or_eq_true (isCode c) with hi | hi
  · exact h2 c (List.mem_filter.mpr ⟨hc, hi⟩)
  · simpa [hi] using h
set_option maxRecDepth 65536 in
theorem w_c0 : (Jvm.Cond.code x code maxLocals ret).before args0 about1 = true := code_word (m := ⟨1, 1⟩) (meth := k1m1) (c := k1c1) (by decide +kernel) rfl rfl rfl (by decide +kernel)
set_option maxRecDepth 65536 in
theorem w_c1 : (Jvm.Cond.code ({ cls := "com/example/inca_dove/incadove/lists/Audience$Counters", name := "<init>", desc := "(JJJJ)V" } : Jvm.MethodName) prog_14_method_1_code (9 : Nat) (Option.none : Option Jvm.ClassFile.FieldType)).before args0 about1 = true := code_word (m := ⟨3, 0⟩) (meth := k3m0) (c := k3c0) (by decide +kernel) rfl rfl rfl (by decide +kernel)
set_option maxRecDepth 65536 in
theorem w_c2 : (Jvm.Cond.code ({ cls := "java/lang/Record", name := "<init>", desc := "()V" } : Jvm.MethodName) jdk_30_method_1_code (1 : Nat) (Option.none : Option Jvm.ClassFile.FieldType)).before args0 about1 = true := code_word (m := ⟨2, 0⟩) (meth := k2m0) (c := k2c0) (by decide +kernel) rfl rfl rfl (by decide +kernel)
set_option maxRecDepth 65536 in
theorem w_c3 : (Jvm.Cond.code ({ cls := "java/lang/Object", name := "<init>", desc := "()V" } : Jvm.MethodName) object_method_1_code (1 : Nat) (Option.none : Option Jvm.ClassFile.FieldType)).before args0 about1 = true := code_word (m := ⟨0, 0⟩) (meth := k0m0) (c := k0c0) (by decide +kernel) rfl rfl rfl (by decide +kernel)
set_option maxRecDepth 65536 in
theorem w_c4 : (Jvm.Cond.code ({ cls := "com/example/inca_dove/incadove/lists/Audience$Counters", name := "recipients", desc := "()J" } : Jvm.MethodName) prog_14_method_2_code (1 : Nat) (Option.some Jvm.ClassFile.FieldType.long)).before args0 about1 = true := code_word (m := ⟨3, 1⟩) (meth := k3m1) (c := k3c1) (by decide +kernel) rfl rfl rfl (by decide +kernel)
def codes1 : List Jvm.Cond := [Jvm.Cond.code x code maxLocals ret, Jvm.Cond.code ({ cls := "com/example/inca_dove/incadove/lists/Audience$Counters", name := "<init>", desc := "(JJJJ)V" } : Jvm.MethodName) prog_14_method_1_code (9 : Nat) (Option.none : Option Jvm.ClassFile.FieldType), Jvm.Cond.code ({ cls := "java/lang/Record", name := "<init>", desc := "()V" } : Jvm.MethodName) jdk_30_method_1_code (1 : Nat) (Option.none : Option Jvm.ClassFile.FieldType), Jvm.Cond.code ({ cls := "java/lang/Object", name := "<init>", desc := "()V" } : Jvm.MethodName) object_method_1_code (1 : Nat) (Option.none : Option Jvm.ClassFile.FieldType), Jvm.Cond.code ({ cls := "com/example/inca_dove/incadove/lists/Audience$Counters", name := "recipients", desc := "()J" } : Jvm.MethodName) prog_14_method_2_code (1 : Nat) (Option.some Jvm.ClassFile.FieldType.long)]
set_option maxRecDepth 65536 in
theorem codes_eq : words1.filter isCode = codes1 := rfl
theorem w_codes : ∀ c ∈ words1.filter isCode, c.before args0 about1 = true := by
  rw [codes_eq]
  intro c hc
  simp only [codes1, List.mem_cons, List.not_mem_nil, or_false] at hc
  rcases hc with rfl | rfl | rfl | rfl | rfl
  · exact w_c0
  · exact w_c1
  · exact w_c2
  · exact w_c3
  · exact w_c4
set_option maxRecDepth 65536 in
theorem w_t1 : (words1.take 24).all (fun c => isCode c || c.before args0 about1) = true := by decide +kernel
set_option maxRecDepth 65536 in
theorem w_t2 : (words1.drop 24).all (fun c => isCode c || c.before args0 about1) = true := by decide +kernel
theorem w_tables : (allAtoms (Jvm.Cond.code x code maxLocals ret :: tables_1)).before args0 about1 = true := by
  rw [allAtoms_all]
  show words1.all (fun c => c.before args0 about1) = true
  refine all_split ?_ w_codes
  rw [← List.take_append_drop 24 words1, List.all_append, w_t1, w_t2]
  rfl
set_option maxRecDepth 65536 in
theorem w_case : (Jvm.Cond.and given_1 narrow_1).before args0 about1 = true := by decide +kernel
theorem w_applies : (headSpec (Jvm.Cond.code x code maxLocals ret :: tables_1) room_1).applies x e0.platform about1 = true :=
  (Spec.applies_iff w_frames).mpr ⟨w_running, w_runnable, w_alone, w_named, w_hears, w_ripe, w_room, w_tables⟩
theorem atStart : AtStart classFile x code maxLocals ret World_1 tables_1 room_1 Calls_1 rest_1 Pre_1 launch0 p0 e0 about1 theMethod args0 below0 :=
  ⟨lists_1, trivial, launch0.admits_env _ _ _, launch0.least_env, fairChoices_fair.cas, fairChoices_fair.clock, w_frames, w_args, w_heap, w_applies, trivial, trivial, w_case⟩
end start1
theorem witness_1 : WitnessClaimed_1 := ⟨start1.p0, start1.e0, start1.about1, start1.theMethod, start1.args0, start1.below0, start1.atStart⟩
end Jvm.Pilot.@@N@@
