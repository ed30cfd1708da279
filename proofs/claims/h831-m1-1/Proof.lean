import JvmDerived
import JvmDerived.Pilot.@@N@@Statement
import JvmDerived.Pilot.@@N@@Code
set_option linter.unusedVariables false
set_option linter.unusedSimpArgs false
@@BLOCK:NumsL.lean.txt@@
namespace Jvm.RoadKit
open Sem ClassFile Op Lib Jvm.Stand Jvm.Free Jvm.LawKit
section New
variable {p : Program} {l : Launch} {e : Env} {R : Room} {s : State} {m : MethodId} {args : Array Value} {below : List Frame} {meth : Method} {c : Code} {T : State} {locs : List Loc} {cells slots : Nat}
theorem retI (X : Stand p l e R s m args below meth c T locs cells slots) (hx : p.tables.exec = Jvm.exec) {pc : Nat} {Ls : Array Slot} {z : Int32} {rest : List Value} (hret : meth.sig.returnType = some .int) (hd : decode c.code pc = .ok (.ireturn, 1)) {fs : List Frame}
    (hl : ∀ (f : JFrame) (acts : List Action), f.method = m → f.locked = none → f.entered = [] → (doReturn e (T.setTop f) acts (some (.int z))).1 = T.setFrames fs) : Steps p.tables e below (T.setTop (mkF m pc Ls (.int z :: rest))) (T.setFrames fs) := by
  have hm' : T.vm.method? m = some meth := X.method'
  have hn : narrow .int (.int z) = .int z := rfl
  show Steps p.tables e below (T.setTop { method := m, pc := pc, locals := Ls, stack := _ :: rest, locked := none }) _
  jvm_step X.here [X.here.top, hx, hd, hm', hret, hn]
  first | (intro acts; rw [hl _ acts rfl rfl rfl]) | rw [hl _ _ rfl rfl rfl]
  exact Steps.refl _
def own_irem (x y : Int32) : Int32 := x - x / y * y
def own_lrem (x y : Int64) : Int64 := x - x / y * y
theorem own_retZ (X : Stand p l e R s m args below meth c T locs cells slots) (hx : p.tables.exec = Jvm.exec) {pc : Nat} {Ls : Array Slot} {z : Int32} {rest : List Value} (hret : meth.sig.returnType = some .boolean) (hz : z &&& 1 = z) (hd : decode c.code pc = .ok (.ireturn, 1)) {fs : List Frame}
    (hl : ∀ (f : JFrame) (acts : List Action), f.method = m → f.locked = none → f.entered = [] → (doReturn e (T.setTop f) acts (some (.int z))).1 = T.setFrames fs) : Steps p.tables e below (T.setTop (mkF m pc Ls (.int z :: rest))) (T.setFrames fs) :=
  retN X hx (t := .boolean) hret (by simp) hd (by rw [show nar .boolean z = z from hz]; exact hl)
theorem own_ite_bool {q : Prop} [Decidable q] {a b : Int32} (ha : a &&& 1 = a) (hb : b &&& 1 = b) : (if q then a else b) &&& 1 = (if q then a else b) := by split <;> assumption
theorem own_retJ (X : Stand p l e R s m args below meth c T locs cells slots) (hx : p.tables.exec = Jvm.exec) {pc : Nat} {Ls : Array Slot} {z : Int64} {rest : List Value} (hret : meth.sig.returnType = some .long) (hd : decode c.code pc = .ok (.lreturn, 1)) {fs : List Frame}
    (hl : ∀ (f : JFrame) (acts : List Action), f.method = m → f.locked = none → f.entered = [] → (doReturn e (T.setTop f) acts (some (.long z))).1 = T.setFrames fs) : Steps p.tables e below (T.setTop (mkF m pc Ls (.long z :: rest))) (T.setFrames fs) := by
  have hm' : T.vm.method? m = some meth := X.method'
  show Steps p.tables e below (T.setTop { method := m, pc := pc, locals := Ls, stack := _ :: rest, locked := none }) _
  jvm_step X.here [X.here.top, hx, hd, hm', hret, narrow]
  first | (intro acts; rw [hl _ acts rfl rfl rfl]) | rw [hl _ _ rfl rfl rfl]
  exact Steps.refl _
/-- the run goes from here to a state of which P holds -/
def own_Goes (tb : Tables) (e : Env) (below : List Frame) (P : State → Prop) (T : State) (f : JFrame) : Prop :=
  ∃ u, P u ∧ ∀ t, Steps tb e below u t → Steps tb e below (T.setTop f) t
theorem own_go {tb : Tables} {P : State → Prop} {T T' : State} {f f' : JFrame} (k : own_Goes tb e below P T' f') (h : ∀ t, Steps tb e below (T'.setTop f') t → Steps tb e below (T.setTop f) t) : own_Goes tb e below P T f := by
  obtain ⟨u, hu, hk⟩ := k
  exact ⟨u, hu, fun t q => h t (hk t q)⟩
theorem own_out {tb : Tables} {Q : Outcome → State → Prop} {T : State} {f : JFrame} (k : own_Goes tb e below (fun u => ∃ o, u.status = .running ∧ Ended u below o ∧ Q o u) T f) :
    ∃ s₂ o, Steps tb e below (T.setTop f) s₂ ∧ s₂.status = .running ∧ Ended s₂ below o ∧ Q o s₂ := by
  obtain ⟨u, ⟨o, h1, h2, h3⟩, hk⟩ := k
  exact ⟨u, o, hk u (Steps.refl _), h1, h2, h3⟩
theorem own_lsw {tb : Tables} [Ours tb] {T target : State} {g : JFrame} (h : At T m c below) (hx : tb.exec = Jvm.exec) (hg : g.method = m) {dflt : Int} {pairs : Array (Int × Int)} {len : Nat} {o : Int} {pc0 pc' : Nat} (hpc : g.pc = pc0) (hd : decode c.code g.pc = .ok (.lookupswitch dflt pairs, len)) {i : Int32} {rest : List Value} (hs : g.stack = .int i :: rest)
    (hord : (pairs.toList.zip (pairs.toList.drop 1)).all (fun (a, next) => a.1 < next.1) = true) (hoff : lookupswitch.offset pairs.toList dflt i.toInt = o) (ho : 0 ≤ (pc0 : Int) + o) (hp : ((pc0 : Int) + o).toNat = pc')
    (hr : Steps tb e below (T.setTop { g with pc := pc', stack := rest }) target) : Steps tb e below (T.setTop g) target := by
  subst hg hpc hp
  jvm_step h [h.top, hx, hd, hs, hoff, ho, lookupswitch.wp_chain]
  exact ⟨by simpa using hord, hr⟩
theorem own_ne_key {i k : Int32} (h : ¬ i = k) : ¬ (k.toInt = i.toInt) := fun q => h (Int32.toInt_inj.mp q.symm)
theorem own_selP {s : State} {args : Array Value} {y : MethodName} {n : Nat} (wi : (Cond.instantiable y.cls n).before args s = true) (hp : s.PrivateAt y) (hi : (Cond.instanceMethod y).before args s = true) (hy : y.cls ≠ "java/lang/invoke/MethodHandle" ∧ y.cls ≠ "java/lang/invoke/VarHandle") : (Cond.selects y.cls y y).before args s = true := by
  obtain ⟨c, k, h1, h2, -, h3, -⟩ := Cond.instantiable_spec wi
  simp only [Bool.or_eq_false_iff] at h3
  exact selects_self_of_private h1 h2 h3.1 hp hi hy
end New
end Jvm.RoadKit
namespace Jvm.RoadKit
open Sem ClassFile Op Lib Jvm.Stand Jvm.Free Jvm.LawKit
theorem own_lt32 {x y : Int32} : x < y ↔ x.toInt < y.toInt := Int32.lt_iff_toInt_lt
theorem own_eq32 {x y : Int32} : x = y ↔ x.toInt = y.toInt := (Int32.toInt_inj).symm
theorem own_mod32 (x y : Int32) : (own_irem x y).toInt = x.toInt.tmod y.toInt := by
  rw [show own_irem x y = x % y from irem_eq_mod x y]; exact Int32.toInt_mod x y
theorem own_pos31 (x : Int32) : (x &&& (2147483647 : Int32)).toInt = x.toInt % 2147483648 := Jvm.Kit.i32_mask x 2147483647 (k := 31) (by decide) (by decide)
theorem own_rem31 (x : Int32) (y : Int32) (hy : 0 < y.toInt) : (own_irem (x &&& (2147483647 : Int32)) y).toInt = (x.toInt % 2147483648) % y.toInt := by
  rw [own_mod32, own_pos31, Int.tmod_eq_emod_of_nonneg (by omega)]
theorem own_and3 (x : Int32) : (x &&& (3 : Int32)).toInt = x.toInt % 4 := Jvm.Kit.i32_mask x 3 (k := 2) (by decide) (by decide)
theorem own_and7 (x : Int32) : (x &&& (7 : Int32)).toInt = x.toInt % 8 := Jvm.Kit.i32_mask x 7 (k := 3) (by decide) (by decide)
theorem own_and63 (x : Int32) : (x &&& (63 : Int32)).toInt = x.toInt % 64 := Jvm.Kit.i32_mask x 63 (k := 6) (by decide) (by decide)
theorem own_and255 (x : Int32) : (x &&& (255 : Int32)).toInt = x.toInt % 256 := Jvm.Kit.i32_mask x 255 (k := 8) (by decide) (by decide)
theorem own_add_ok {x y : Int32} (h1 : -2147483648 ≤ x.toInt + y.toInt) (h2 : x.toInt + y.toInt < 2147483648) : (x + y).toInt = x.toInt + y.toInt := Jvm.Kit.i32_add (by omega) (by omega)
theorem own_sub_ok {x y : Int32} (h1 : -2147483648 ≤ x.toInt - y.toInt) (h2 : x.toInt - y.toInt < 2147483648) : (x - y).toInt = x.toInt - y.toInt := Jvm.Kit.i32_sub (by omega) (by omega)
theorem own_nat32 {x : Int32} (h : 0 ≤ x.toInt) : (x.toNatClampNeg : Int) = x.toInt := by simp only [Int32.toNatClampNeg]; omega
theorem own_rng (x : Int32) : -2147483648 ≤ x.toInt ∧ x.toInt < 2147483648 := ⟨x.le_toInt, x.toInt_lt⟩
theorem own_m3 (y : Int32) : ¬ (y &&& (3 : Int32)) < (0 : Int32) ∧ (y &&& (3 : Int32)).toNatClampNeg ≤ 3 := by
  have e := own_and3 y
  refine ⟨?_, ?_⟩
  · rw [own_lt32, e, show (0 : Int32).toInt = 0 from rfl]; omega
  · have := own_nat32 (x := y &&& 3) (by omega); omega
end Jvm.RoadKit
namespace Jvm.RoadKit
open Sem ClassFile Op Lib Jvm.Stand Jvm.Free Jvm.LawKit
section OwnArr
variable {p : Program} {l : Launch} {e : Env} {R : Room} {s : State} {m : MethodId} {args : Array Value} {below : List Frame} {meth : Method} {c : Code} {T : State} {locs : List Loc} {cells slots : Nat}
variable {Z : State} {h h' : Heap} {a b : Addr} {sl : Nat} {v : Value} {ws : List Addr} {n : Int32} {L : List Int32} {M : List Int64} {ty : FieldType} {k : ClassId}
/-- an array of ints (bytes, chars): its length and what it holds -/
def own_AI (Z : State) (h : Heap) (a : Addr) (ty : FieldType) (n : Int32) (L : List Int32) : Prop := L.length = n.toNatClampNeg ∧ ∃ k, Arv Z h a k ty n (L.map Value.int) (.int 0)
def own_AJ (Z : State) (h : Heap) (a : Addr) (n : Int32) (M : List Int64) : Prop := M.length = n.toNatClampNeg ∧ ∃ k, Arv Z h a k .long n (M.map Value.long) (.long 0)
theorem own_AI.lt (F : own_AI Z h a ty n L) : a < h.size := by obtain ⟨_, _, A⟩ := F; exact A.lt
theorem own_AJ.lt (F : own_AJ Z h a n M) : a < h.size := by obtain ⟨_, _, A⟩ := F; exact A.lt
theorem own_AI.ext (F : own_AI Z h a ty n L) (E : Ext h h') : own_AI Z h' a ty n L := by obtain ⟨q, k, A⟩ := F; exact ⟨q, k, A.ext E⟩
theorem own_AJ.ext (F : own_AJ Z h a n M) (E : Ext h h') : own_AJ Z h' a n M := by obtain ⟨q, k, A⟩ := F; exact ⟨q, k, A.ext E⟩
theorem own_AI.other (F : own_AI Z h b ty n L) (W : Wr h h' a sl v) (q : b ≠ a) : own_AI Z h' b ty n L := by obtain ⟨r, k, A⟩ := F; exact ⟨r, k, A.other W q⟩
theorem own_AJ.other (F : own_AJ Z h b n M) (W : Wr h h' a sl v) (q : b ≠ a) : own_AJ Z h' b n M := by obtain ⟨r, k, A⟩ := F; exact ⟨r, k, A.other W q⟩
theorem own_AI.keep (F : own_AI Z h a ty n L) (K : Keep h h' ws) (q : a ∉ ws) : own_AI Z h' a ty n L := by obtain ⟨r, k, A⟩ := F; exact ⟨r, k, A.keep K q⟩
theorem own_AJ.keep (F : own_AJ Z h a n M) (K : Keep h h' ws) (q : a ∉ ws) : own_AJ Z h' a n M := by obtain ⟨r, k, A⟩ := F; exact ⟨r, k, A.keep K q⟩
theorem own_AI.new (A : Arr Z h a (newA k ty n) ty) (q : ¬ n < 0) (hd : defaultValue ty = .int 0) : own_AI Z h a ty n (List.replicate n.toNatClampNeg 0) := by
  refine ⟨by simp, k, ?_⟩
  have B := Arv.new A q
  rw [hd] at B
  rw [List.map_replicate]
  exact B.pad (pad_rep [] _ _)
theorem own_AJ.new (A : Arr Z h a (newA k .long n) .long) (q : ¬ n < 0) : own_AJ Z h a n (List.replicate n.toNatClampNeg 0) := by
  refine ⟨by simp, k, ?_⟩
  have B := Arv.new A q
  rw [List.map_replicate]
  exact B.pad (pad_rep [] _ _)
theorem own_getD_int (L : List Int32) (i : Nat) : (L.map Value.int).getD i (.int 0) = .int (L.getD i 0) := by
  simp only [List.getD_eq_getElem?_getD, List.getElem?_map]
  cases L[i]? <;> rfl
theorem own_getD_long (M : List Int64) (i : Nat) : (M.map Value.long).getD i (.long 0) = .long (M.getD i 0) := by
  simp only [List.getD_eq_getElem?_getD, List.getElem?_map]
  cases M[i]? <;> rfl
theorem own_inl {j : Int32} {len : Nat} (q : len = n.toNatClampNeg) (hj : ¬ j < 0 ∧ j < n) : j.toNatClampNeg < len := by
  rw [q]; obtain ⟨q1, q2⟩ := hj
  rw [Int32.lt_iff_toInt_lt] at q1 q2
  have e0 : (0 : Int32).toInt = 0 := rfl
  simp only [Int32.toNatClampNeg] at *; omega
theorem own_ldI (X : Stand p l e R s m args below meth c T locs cells slots) (hx : p.tables.exec = Jvm.exec) (hZ : Z.Warmed39 s.vm) (eT : T.heap = h) (F : own_AI Z h a .int n L) {j : Int32} (hj : ¬ j < 0 ∧ j < n) {g : JFrame} (hg : g.method = m) {rest : List Value} (hs : g.stack = .int j :: .ref a :: rest) (hd : decode c.code g.pc = .ok (.iaload, 1)) :
    ∀ target, Steps p.tables e below (T.setTop { g with pc := g.pc + 1, stack := .int (L.getD j.toNatClampNeg 0) :: rest }) target → Steps p.tables e below (T.setTop g) target := by
  intro target hk
  obtain ⟨q, k, cl, A, r1, S, r3, H, G⟩ := F
  have hin := inb_of S hj
  exact X.iaload hx (j := j) (v := .int (L.getD j.toNatClampNeg 0)) (by rw [eT]; exact A.1) (State.isArrayOf_alike hZ.alike A.2.1) A.2.2 hin (H.at hin (own_getD_int L _)) hg hs hd _ hk
theorem own_ldB (X : Stand p l e R s m args below meth c T locs cells slots) (hx : p.tables.exec = Jvm.exec) (hZ : Z.Warmed39 s.vm) (eT : T.heap = h) (F : own_AI Z h a .byte n L) {j : Int32} (hj : ¬ j < 0 ∧ j < n) {g : JFrame} (hg : g.method = m) {rest : List Value} (hs : g.stack = .int j :: .ref a :: rest) (hd : decode c.code g.pc = .ok (.baload, 1)) :
    ∀ target, Steps p.tables e below (T.setTop { g with pc := g.pc + 1, stack := .int (L.getD j.toNatClampNeg 0) :: rest }) target → Steps p.tables e below (T.setTop g) target := by
  intro target hk
  obtain ⟨q, k, cl, A, r1, S, r3, H, G⟩ := F
  have hin := inb_of S hj
  exact X.baloadBytes hx (j := j) (v := .int (L.getD j.toNatClampNeg 0)) (by rw [eT]; exact A.1) (State.isArrayOf_alike hZ.alike A.2.1) A.2.2 hin (H.at hin (own_getD_int L _)) hg hs hd _ hk
theorem own_ldJ (X : Stand p l e R s m args below meth c T locs cells slots) (hx : p.tables.exec = Jvm.exec) (hZ : Z.Warmed39 s.vm) (eT : T.heap = h) (F : own_AJ Z h a n M) {j : Int32} (hj : ¬ j < 0 ∧ j < n) {g : JFrame} (hg : g.method = m) {rest : List Value} (hs : g.stack = .int j :: .ref a :: rest) (hd : decode c.code g.pc = .ok (.laload, 1)) :
    ∀ target, Steps p.tables e below (T.setTop { g with pc := g.pc + 1, stack := .long (M.getD j.toNatClampNeg 0) :: rest }) target → Steps p.tables e below (T.setTop g) target := by
  intro target hk
  obtain ⟨q, k, cl, A, r1, S, r3, H, G⟩ := F
  have hin := inb_of S hj
  exact X.laload hx (j := j) (v := .long (M.getD j.toNatClampNeg 0)) (by rw [eT]; exact A.1) (State.isArrayOf_alike hZ.alike A.2.1) A.2.2 hin (H.at hin (own_getD_long M _)) hg hs hd _ hk
theorem own_len (X : Stand p l e R s m args below meth c T locs cells slots) (hx : p.tables.exec = Jvm.exec) (hZ : Z.Warmed39 s.vm) (eT : T.heap = h) (F : own_AI Z h a ty n L) {g : JFrame} (hg : g.method = m) {rest : List Value} (hs : g.stack = .ref a :: rest) (hd : decode c.code g.pc = .ok (.arraylength, 1)) :
    ∀ target, Steps p.tables e below (T.setTop { g with pc := g.pc + 1, stack := .int n :: rest }) target → Steps p.tables e below (T.setTop g) target := by
  intro target hk
  obtain ⟨q, k, cl, A, r1, S, r3, H, G⟩ := F
  refine X.arraylength hx (by rw [eT]; exact A.1) (State.isArrayOf_alike hZ.alike A.2.1) hg hs hd _ ?_
  rw [len_of S r3]; exact hk
theorem own_lenJ (X : Stand p l e R s m args below meth c T locs cells slots) (hx : p.tables.exec = Jvm.exec) (hZ : Z.Warmed39 s.vm) (eT : T.heap = h) (F : own_AJ Z h a n M) {g : JFrame} (hg : g.method = m) {rest : List Value} (hs : g.stack = .ref a :: rest) (hd : decode c.code g.pc = .ok (.arraylength, 1)) :
    ∀ target, Steps p.tables e below (T.setTop { g with pc := g.pc + 1, stack := .int n :: rest }) target → Steps p.tables e below (T.setTop g) target := by
  intro target hk
  obtain ⟨q, k, cl, A, r1, S, r3, H, G⟩ := F
  refine X.arraylength hx (by rw [eT]; exact A.1) (State.isArrayOf_alike hZ.alike A.2.1) hg hs hd _ ?_
  rw [len_of S r3]; exact hk
theorem own_stI (X : Stand p l e R s m args below meth c T locs cells slots) (hx : p.tables.exec = Jvm.exec) (hZ : Z.Warmed39 s.vm) (eT : T.heap = h) (F : own_AI Z h a .int n L) {j x : Int32} (hj : ¬ j < 0 ∧ j < n) {g : JFrame} (hg : g.method = m) {rest : List Value} (hs : g.stack = .int x :: .int j :: .ref a :: rest) (hd : decode c.code g.pc = .ok (.iastore, 1)) :
    ∃ T' h', Stand p l e R s m args below meth c T' (locs ++ [⟨a, j.toNatClampNeg⟩]) cells slots ∧ T'.heap = h' ∧ Wr h h' a j.toNatClampNeg (.int x) ∧ own_AI Z h' a .int n (L.set j.toNatClampNeg x) ∧ ∀ target, Steps p.tables e below (T'.setTop { g with pc := g.pc + 1, stack := rest }) target → Steps p.tables e below (T.setTop g) target := by
  obtain ⟨q, k, cl, A, r1, S, r3, H, G⟩ := F
  obtain ⟨T', h', X', e', W, st⟩ := stI X hx hZ eT A (inb_of S hj) hg hs hd
  refine ⟨T', h', X', e', W, ⟨by simp [q], k, ?_⟩, st⟩
  have B := Arv.set A r1 S r3 H G (v := .int x) rfl W j.toNatClampNeg rfl (by rw [List.length_map]; exact own_inl q hj)
  rw [List.map_set]; exact B
theorem own_stB (X : Stand p l e R s m args below meth c T locs cells slots) (hx : p.tables.exec = Jvm.exec) (hZ : Z.Warmed39 s.vm) (eT : T.heap = h) (F : own_AI Z h a .byte n L) {j x : Int32} (hj : ¬ j < 0 ∧ j < n) {g : JFrame} (hg : g.method = m) {rest : List Value} (hs : g.stack = .int x :: .int j :: .ref a :: rest) (hd : decode c.code g.pc = .ok (.bastore, 1)) :
    ∃ T' h', Stand p l e R s m args below meth c T' (locs ++ [⟨a, j.toNatClampNeg⟩]) cells slots ∧ T'.heap = h' ∧ Wr h h' a j.toNatClampNeg (.int x.toInt8.toInt32) ∧ own_AI Z h' a .byte n (L.set j.toNatClampNeg x.toInt8.toInt32) ∧ ∀ target, Steps p.tables e below (T'.setTop { g with pc := g.pc + 1, stack := rest }) target → Steps p.tables e below (T.setTop g) target := by
  obtain ⟨q, k, cl, A, r1, S, r3, H, G⟩ := F
  obtain ⟨T', h', X', e', W, st⟩ := stB X hx hZ eT A (inb_of S hj) hg hs hd
  refine ⟨T', h', X', e', W, ⟨by simp [q], k, ?_⟩, st⟩
  have B := Arv.set A r1 S r3 H G (v := .int x.toInt8.toInt32) (fits_nar_byte _) W j.toNatClampNeg rfl (by rw [List.length_map]; exact own_inl q hj)
  rw [List.map_set]; exact B
theorem own_stJ (X : Stand p l e R s m args below meth c T locs cells slots) (hx : p.tables.exec = Jvm.exec) (hZ : Z.Warmed39 s.vm) (eT : T.heap = h) (F : own_AJ Z h a n M) {j : Int32} {x : Int64} (hj : ¬ j < 0 ∧ j < n) {g : JFrame} (hg : g.method = m) {rest : List Value} (hs : g.stack = .long x :: .int j :: .ref a :: rest) (hd : decode c.code g.pc = .ok (.lastore, 1)) :
    ∃ T' h', Stand p l e R s m args below meth c T' (locs ++ [⟨a, j.toNatClampNeg⟩]) cells slots ∧ T'.heap = h' ∧ Wr h h' a j.toNatClampNeg (.long x) ∧ own_AJ Z h' a n (M.set j.toNatClampNeg x) ∧ ∀ target, Steps p.tables e below (T'.setTop { g with pc := g.pc + 1, stack := rest }) target → Steps p.tables e below (T.setTop g) target := by
  obtain ⟨q, k, cl, A, r1, S, r3, H, G⟩ := F
  obtain ⟨T', h', X', e', W, st⟩ := stJ X hx hZ eT A (inb_of S hj) hg hs hd
  refine ⟨T', h', X', e', W, ⟨by simp [q], k, ?_⟩, st⟩
  have B := Arv.set A r1 S r3 H G (v := .long x) rfl W j.toNatClampNeg rfl (by rw [List.length_map]; exact own_inl q hj)
  rw [List.map_set]; exact B
end OwnArr
end Jvm.RoadKit
namespace Jvm.RoadKit
open Sem ClassFile Op Lib Jvm.Stand Jvm.Free Jvm.LawKit
section OwnIdx
variable {Z : State} {h : Heap} {a : Addr} {n : Int32} {L : List Int32} {ty : FieldType} {i : Nat}
theorem own_ofNat_toInt {i : Nat} (hi : i < 2 ^ 31) : (Int32.ofNat i).toInt = (i : Int) := Int32.toInt_ofNat_of_lt hi
theorem own_AI.len (A : own_AI Z h a ty n L) : n.toInt = (L.length : Int) ∧ L.length < 2 ^ 31 := by
  obtain ⟨q, k, cl, A, r1, S, r3, H, G⟩ := A
  rw [Int32.lt_iff_toInt_lt] at r3
  have e0 : (0 : Int32).toInt = 0 := rfl
  have := n.toInt_lt
  simp only [Int32.toNatClampNeg] at q; omega
theorem own_AI.lt_iff (A : own_AI Z h a ty n L) (hi : i ≤ L.length) : Int32.ofNat i < n ↔ i < L.length := by
  obtain ⟨q, r⟩ := A.len
  rw [Int32.lt_iff_toInt_lt, own_ofNat_toInt (by omega), q]; omega
theorem own_AI.eq_iff (A : own_AI Z h a ty n L) (hi : i ≤ L.length) : Int32.ofNat i = n ↔ i = L.length := by
  obtain ⟨q, r⟩ := A.len
  rw [← Int32.toInt_inj, own_ofNat_toInt (by omega), q]; omega
theorem own_AI.inb (A : own_AI Z h a ty n L) (hi : i < L.length) : ¬ Int32.ofNat i < 0 ∧ Int32.ofNat i < n := by
  obtain ⟨q, r⟩ := A.len
  refine ⟨?_, (A.lt_iff (Nat.le_of_lt hi)).mpr hi⟩
  have e0 : (0 : Int32).toInt = 0 := rfl
  rw [Int32.lt_iff_toInt_lt, own_ofNat_toInt (by omega), e0]; omega
theorem own_at_ofNat {i : Nat} (hi : i < 2 ^ 31) : (Int32.ofNat i).toNatClampNeg = i := by
  simp only [Int32.toNatClampNeg, own_ofNat_toInt hi]; rfl
theorem own_succ (i : Nat) : Int32.ofNat i + (1 : Int32) = Int32.ofNat (i + 1) := by rw [Int32.ofNat_add]; rfl
end OwnIdx
end Jvm.RoadKit
namespace Jvm.RoadKit
open Sem ClassFile Op Lib Jvm.Stand Jvm.Free Jvm.LawKit
section OwnSta
variable {s : State} {args : Array Value} {a : Addr} {cl : Cell} {ty : FieldType} {t : Term}
theorem own_len_of {z : Int32} (ev : t.eval args s none [] s = some (.ref a)) (A : Arr s s.heap a cl ty) (h : (Cond.eq (Term.length t) (Term.int z)).value args s none s [] = some true) : cl.slots.size < 2 ^ 31 ∧ cl.slots.size.toInt32 = z := by
  have e := eqv_i (Term.int_eval z) h
  have ha := A.fin (Vm.Alike.refl _)
  simp only [Term.eval, ev, ha, Option.bind_eq_bind, Option.bind_some] at e
  by_cases q : cl.slots.size < 2147483648
  · simp [q] at e; exact ⟨q, e⟩
  · simp [q] at e
theorem own_el_of {j v : Int32} (ev : t.eval args s none [] s = some (.ref a)) (A : Arr s s.heap a cl ty) (h : (Cond.eq (Term.elem t (Term.int j)) (Term.int v)).value args s none s [] = some true) : cl.slots[j.toNatClampNeg]? = some (.int v) :=
  (elem_in (eqv_i (Term.int_eval v) h) ev (Term.int_eval j) A.1).2
end OwnSta
end Jvm.RoadKit
namespace Jvm.Pilot.@@N@@
open Jvm Jvm.ClassFile Sem Op Lib Jvm.Free Jvm.Stand Jvm.LawKit Jvm.RoadKit Bundle Jvm.Pilot.@@N@@.Jvm.D
theorem own_pn0 : plainName "java/lang/Record" = true := by first | (simp [plainName, overriddenIn]; done) | decide +kernel
theorem own_d1_0 : decode jdk_30_method_1_code 0 = .ok (.aload_n 0, 1) := by decide +kernel
theorem own_d1_1 : decode jdk_30_method_1_code 1 = .ok (.invokespecial 1, 3) := by decide +kernel
theorem own_d1_4 : decode jdk_30_method_1_code 4 = .ok (.return_, 1) := by decide +kernel
theorem own_ef1 (m : MethodId) (oa : Addr) : entryFrame m #[(.ref oa)] 1 = mkF m 0 #[.val (.ref oa)] [] := by first | (simp [entryFrame, mkF, argsToLocals, Value.category]; done) | rfl
abbrev own_room1 : Room := { frames := 1, cells := 0, slots := 0, locals := 12 }
def own_Q1 (Z : State) (oa : Addr) (h0 : Heap) (n0 : Nat) (v : Option Value) (h : Heap) (L : List Loc) : Prop := v = none ∧ Fr n0 L ∧ h = h0
set_option maxRecDepth 65536 in
set_option maxHeartbeats 40000000 in
theorem own_rm1 (l : Launch) (Z : State) (a0 : Array Value) (hw : ∀ d ∈ tables_1, d.before a0 Z = true) (ws : List Jvm.Cond) (oa : Addr) (h0 : Heap) (n0 : Nat) (Z0 : n0 ≤ h0.size) :
    MetFree l (⟨"java/lang/Record", "<init>", "()V"⟩ : MethodName) (head1 (Jvm.Cond.code (⟨"java/lang/Record", "<init>", "()V"⟩ : MethodName) jdk_30_method_1_code 1 none :: ws) own_room1) (fun a U => a = #[(.ref oa)] ∧ Z.Warmed39 U.vm ∧ U.heap = h0) (fun _ _ _ _ _ => True) (fun _ U o U' => ∃ v L, o = .returned v ∧ own_Q1 Z oa h0 n0 v U'.heap L ∧ FrameEnd U o U' L own_room1.cells own_room1.slots) := by
  refine MetFree.of_bodySF (plainFor_of_name own_pn0) hisR ?_
  intro p e s m args below meth c s₁ Bd hml0 hP hK
  obtain ⟨rfl, hZ, hh⟩ := hP
  have hx := Bd.exec
  have hby := Bd.bytes
  have hml : c.maxLocals = 1 := hml0
  have hown : s.vm.findClass "java/lang/Record" = some m.cls := findClass_of_methodNamed Bd.named
  have hnm := (name_of_methodNamed Bd.named Bd.method).1
  have X0 : Stand p l e own_room1 s m #[(.ref oa)] below meth c s₁ [] 0 0 := Stand.of_body Bd
  have e0 : s₁.heap = h0 := by rw [← hh, Bd.state]; rfl
  have N0 := Fr.nil n0
  refine own_out (Q := fun o U' => ∃ v L, o = .returned v ∧ own_Q1 Z oa h0 n0 v U'.heap L ∧ FrameEnd s o U' L own_room1.cells own_room1.slots) ?_
  refine own_go (T' := s₁) (f' := (mkF m 0 #[.val (.ref oa)] [])) ?_ (fun _ k => castTop (own_ef1 m oa) k)
  refine own_go (T' := s₁) (f' := (mkF m 1 #[.val (.ref oa)] [(.ref oa)])) ?_ (fun _ k => XS.aloadN X0.here hx rfl (hb hby own_d1_0) rfl rfl k)
  obtain ⟨T1, X1, e1, st1⟩ := initO X0 hx hZ hown (hw _ (List.mem_of_getElem? (i := 11) rfl)) (hw _ (List.mem_of_getElem? (i := 12) rfl)) (hw _ (List.mem_of_getElem? (i := 13) rfl)) e0 (g := (mkF m 1 #[.val (.ref oa)] [(.ref oa)])) rfl (by rw [hml]; rfl) rfl (hb hby own_d1_1) (by decide) (W := 0) (by show 2 * 0 + _ ≤ _; exact Nat.le_of_eq rfl) (by decide)
  refine own_go (T' := T1) (f' := (mkF m 4 #[.val (.ref oa)] [])) ?_ (st1)
  obtain ⟨fs2, hr2, hrun2, hended2, hW2, hsame2⟩ := X1.leave (v := none) (fun _ => rfl)
  refine ⟨_, ⟨_, hrun2, hended2, _, _, rfl, ?_, ⟨_, rfl⟩, hW2, hsame2.mono (by decide) (by decide)⟩, fun _ k => (X1.returnOut hx Bd.returns (hb hby own_d1_4) hr2).trans k⟩
  show own_Q1 Z oa h0 n0 _ T1.heap _
  rw [e1]
  exact ⟨rfl, N0, rfl⟩
theorem own_pd0 : parseMethodDescriptor "()V" = some ⟨[], none⟩ := by decide +kernel
theorem own_pn1 : plainName "com/example/halyard/halyard/protocol/MessageId" = true := by first | (simp [plainName, overriddenIn]; done) | decide +kernel
theorem own_d2_0 : decode prog_170_method_1_code 0 = .ok (.aload_n 0, 1) := by decide +kernel
theorem own_d2_1 : decode prog_170_method_1_code 1 = .ok (.invokespecial 1, 3) := by decide +kernel
theorem own_d2_4 : decode prog_170_method_1_code 4 = .ok (.aload_n 0, 1) := by decide +kernel
theorem own_d2_5 : decode prog_170_method_1_code 5 = .ok (.lload_n 1, 1) := by decide +kernel
theorem own_d2_6 : decode prog_170_method_1_code 6 = .ok (.putfield 7, 3) := by decide +kernel
theorem own_d2_9 : decode prog_170_method_1_code 9 = .ok (.aload_n 0, 1) := by decide +kernel
theorem own_d2_10 : decode prog_170_method_1_code 10 = .ok (.lload_n 3, 1) := by decide +kernel
theorem own_d2_11 : decode prog_170_method_1_code 11 = .ok (.putfield 13, 3) := by decide +kernel
theorem own_d2_14 : decode prog_170_method_1_code 14 = .ok (.return_, 1) := by decide +kernel
theorem own_ef2 (m : MethodId) (oa : Addr) (xa : Int64) (xb : Int64) : entryFrame m #[(.ref oa), (.long xa), (.long xb)] 5 = mkF m 0 #[.val (.ref oa), .val (.long xa), .second, .val (.long xb), .second] [] := by first | (simp [entryFrame, mkF, argsToLocals, Value.category]; done) | rfl
abbrev own_room2 : Room := { frames := 2, cells := 0, slots := 0, locals := 24 }
def own_Q2 (Z : State) (oa : Addr) (xa : Int64) (xb : Int64) (h0 : Heap) (n0 : Nat) (v : Option Value) (h : Heap) (L : List Loc) : Prop := v = none ∧ Fr n0 L ∧ Keep h0 h [oa] ∧ Fld Z h oa "com/example/halyard/halyard/protocol/MessageId" "ledgerId" "J" (.long xa) ∧ Fld Z h oa "com/example/halyard/halyard/protocol/MessageId" "entryId" "J" (.long xb)
set_option maxRecDepth 65536 in
set_option maxHeartbeats 40000000 in
theorem own_rm2 (l : Launch) (Z : State) (a0 : Array Value) (hw : ∀ d ∈ tables_1, d.before a0 Z = true) (ws : List Jvm.Cond) (oa : Addr) (xa : Int64) (xb : Int64) (h0 : Heap) (n0 : Nat) (Z0 : n0 ≤ h0.size) (E_oa : Exa Z h0 oa "com/example/halyard/halyard/protocol/MessageId") (g_oa : n0 ≤ oa) (F_ledgerId_oa : Fld Z h0 oa "com/example/halyard/halyard/protocol/MessageId" "ledgerId" "J" (.long (0 : Int64))) (F_entryId_oa : Fld Z h0 oa "com/example/halyard/halyard/protocol/MessageId" "entryId" "J" (.long (0 : Int64))) :
    MetFree l (⟨"com/example/halyard/halyard/protocol/MessageId", "<init>", "(JJ)V"⟩ : MethodName) (head1 (Jvm.Cond.code (⟨"com/example/halyard/halyard/protocol/MessageId", "<init>", "(JJ)V"⟩ : MethodName) prog_170_method_1_code 5 none :: ws) own_room2) (fun a U => a = #[(.ref oa), (.long xa), (.long xb)] ∧ Z.Warmed39 U.vm ∧ U.heap = h0) (fun _ _ _ _ _ => True) (fun _ U o U' => ∃ v L, o = .returned v ∧ own_Q2 Z oa xa xb h0 n0 v U'.heap L ∧ FrameEnd U o U' L own_room2.cells own_room2.slots) := by
  refine MetFree.of_bodySF (plainFor_of_name own_pn1) hisR ?_
  intro p e s m args below meth c s₁ Bd hml0 hP hK
  obtain ⟨rfl, hZ, hh⟩ := hP
  have hx := Bd.exec
  have hby := Bd.bytes
  have hml : c.maxLocals = 5 := hml0
  have hown : s.vm.findClass "com/example/halyard/halyard/protocol/MessageId" = some m.cls := findClass_of_methodNamed Bd.named
  have hnm := (name_of_methodNamed Bd.named Bd.method).1
  have X0 : Stand p l e own_room2 s m #[(.ref oa), (.long xa), (.long xb)] below meth c s₁ [] 0 0 := Stand.of_body Bd
  have e0 : s₁.heap = h0 := by rw [← hh, Bd.state]; rfl
  have N0 := Fr.nil n0
  refine own_out (Q := fun o U' => ∃ v L, o = .returned v ∧ own_Q2 Z oa xa xb h0 n0 v U'.heap L ∧ FrameEnd s o U' L own_room2.cells own_room2.slots) ?_
  refine own_go (T' := s₁) (f' := (mkF m 0 #[.val (.ref oa), .val (.long xa), .second, .val (.long xb), .second] [])) ?_ (fun _ k => castTop (own_ef2 m oa xa xb) k)
  refine own_go (T' := s₁) (f' := (mkF m 1 #[.val (.ref oa), .val (.long xa), .second, .val (.long xb), .second] [(.ref oa)])) ?_ (fun _ k => XS.aloadN X0.here hx rfl (hb hby own_d2_0) rfl rfl k)
  obtain ⟨_, _, ⟨T1, L1, k1, n1⟩, -, X1, ⟨Lc1, hQ1, l1, y1, z1⟩, st1⟩ := X0.specialBack hx (y := (⟨"java/lang/Record", "<init>", "()V"⟩ : MethodName)) rfl hown (mvT hZ (hw _ (List.mem_of_getElem? (i := 6) rfl))) (mvT hZ (hw _ (List.mem_of_getElem? (i := 7) rfl))) (mvT hZ (hw _ (List.mem_of_getElem? (i := 10) rfl))) (by decide) (backOf (W := 0) (own_rm1 l Z a0 hw [] oa h0 n0 Z0) hZ (hw _ (List.mem_of_getElem? (i := 10) rfl)) (hw _ (List.mem_of_getElem? (i := 9) rfl)) (by decide) (by decide)) (g := (mkF m 1 #[.val (.ref oa), .val (.long xa), .second, .val (.long xb), .second] [(.ref oa)])) rfl (by rw [hml]; rfl) (Steps.refl _) (a := oa) (argsL := []) (rest := []) (lenOf own_pd0 rfl) rfl (by show 2 * 0 + _ ≤ _; exact Nat.le_of_eq rfl) (hb hby own_d2_1) (fun _ _ => ⟨rfl, e0, (by decide : 0 + 0 ≤ _), (by decide : 0 + 0 ≤ _)⟩)
  dsimp only [Pt.U, Pt.locs, Pt.cells, Pt.slots] at X1 l1 y1 z1 st1 hQ1
  subst y1 z1
  obtain ⟨rfl, N1q, e1⟩ := hQ1
  have N1 : Fr n0 L1 := l1 ▸ Fr.app N0 N1q
  refine own_go (T' := T1) (f' := (mkF m 4 #[.val (.ref oa), .val (.long xa), .second, .val (.long xb), .second] [])) ?_ (fun _ k => st1.trans k)
  refine own_go (T' := T1) (f' := (mkF m 5 #[.val (.ref oa), .val (.long xa), .second, .val (.long xb), .second] [(.ref oa)])) ?_ (fun _ k => XS.aloadN X1.here hx rfl (hb hby own_d2_4) rfl rfl k)
  refine own_go (T' := T1) (f' := (mkF m 6 #[.val (.ref oa), .val (.long xa), .second, .val (.long xb), .second] [(.long xa), (.ref oa)])) ?_ (fun _ k => XS.lloadN X1.here hx rfl (hb hby own_d2_5) rfl  k)
  obtain ⟨T2, h2, X2, e2, W2, st2⟩ := putF X1 hx hZ hown (host := "") (Or.inl (hw _ (List.mem_of_getElem? (i := 14) rfl))) Via.refl e1 F_ledgerId_oa E_oa (Or.inr ⟨(hw _ (List.mem_of_getElem? (i := 15) rfl)), rfl, hnm⟩) (hw _ (List.mem_of_getElem? (i := 1) rfl)) (ty := .long) (by decide) rfl rfl (g := (mkF m 6 #[.val (.ref oa), .val (.long xa), .second, .val (.long xb), .second] [(.long xa), (.ref oa)])) rfl rfl (hb hby own_d2_6)
  have fa3 := E_oa.wr W2
  have fa5 := F_entryId_oa.other W2 (Or.inr (slot_ne (Or.inr (hw _ (List.mem_of_getElem? (i := 17) rfl))) (Or.inr (hw _ (List.mem_of_getElem? (i := 15) rfl))) (by decide) (t := .long) (t' := .long) (by decide) (by decide)))
  have Fw2 := F_ledgerId_oa.same W2
  have N2 := Fr.snoc X2 N1 g_oa
  have KK2 : Keep h0 h2 [oa] := (Keep.refl h0 [oa]).wr W2 (Or.inl (List.mem_of_getElem? (i := 0) rfl))
  have ZZ2 : n0 ≤ h2.size := Nat.le_trans Z0 (Keep.of_wr W2).1
  refine own_go (T' := T2) (f' := (mkF m 9 #[.val (.ref oa), .val (.long xa), .second, .val (.long xb), .second] [])) ?_ (st2)
  refine own_go (T' := T2) (f' := (mkF m 10 #[.val (.ref oa), .val (.long xa), .second, .val (.long xb), .second] [(.ref oa)])) ?_ (fun _ k => XS.aloadN X2.here hx rfl (hb hby own_d2_9) rfl rfl k)
  refine own_go (T' := T2) (f' := (mkF m 11 #[.val (.ref oa), .val (.long xa), .second, .val (.long xb), .second] [(.long xb), (.ref oa)])) ?_ (fun _ k => XS.lloadN X2.here hx rfl (hb hby own_d2_10) rfl  k)
  obtain ⟨T6, h6, X6, e6, W6, st6⟩ := putF X2 hx hZ hown (host := "") (Or.inl (hw _ (List.mem_of_getElem? (i := 16) rfl))) Via.refl e2 fa5 fa3 (Or.inr ⟨(hw _ (List.mem_of_getElem? (i := 17) rfl)), rfl, hnm⟩) (hw _ (List.mem_of_getElem? (i := 1) rfl)) (ty := .long) (by decide) rfl rfl (g := (mkF m 11 #[.val (.ref oa), .val (.long xa), .second, .val (.long xb), .second] [(.long xb), (.ref oa)])) rfl rfl (hb hby own_d2_11)
  have fa7 := fa3.wr W6
  have fa9 := Fw2.other W6 (Or.inr (slot_ne (Or.inr (hw _ (List.mem_of_getElem? (i := 15) rfl))) (Or.inr (hw _ (List.mem_of_getElem? (i := 17) rfl))) (by decide) (t := .long) (t' := .long) (by decide) (by decide)))
  have Fw6 := fa5.same W6
  have N6 := Fr.snoc X6 N2 g_oa
  have KK6 : Keep h0 h6 [oa] := KK2.wr W6 (Or.inl (List.mem_of_getElem? (i := 0) rfl))
  have ZZ6 : n0 ≤ h6.size := Nat.le_trans ZZ2 (Keep.of_wr W6).1
  refine own_go (T' := T6) (f' := (mkF m 14 #[.val (.ref oa), .val (.long xa), .second, .val (.long xb), .second] [])) ?_ (st6)
  obtain ⟨fs10, hr10, hrun10, hended10, hW10, hsame10⟩ := X6.leave (v := none) (fun _ => rfl)
  refine ⟨_, ⟨_, hrun10, hended10, _, _, rfl, ?_, ⟨_, rfl⟩, hW10, hsame10.mono (by decide) (by decide)⟩, fun _ k => (X6.returnOut hx Bd.returns (hb hby own_d2_14) hr10).trans k⟩
  show own_Q2 Z oa xa xb h0 n0 _ T6.heap _
  rw [e6]
  exact ⟨rfl, N6, KK6, fa9, Fw6⟩
theorem own_d3_0 : decode prog_170_method_4_code 0 = .ok (.aload_n 1, 1) := by decide +kernel
theorem own_d3_1 : decode prog_170_method_4_code 1 = .ok (.instanceof 8, 3) := by decide +kernel
theorem own_d3_4 : decode prog_170_method_4_code 4 = .ok (.ifCond .eq 37, 3) := by decide +kernel
theorem own_d3_41 : decode prog_170_method_4_code 41 = .ok (.iconst 0, 1) := by decide +kernel
theorem own_d3_42 : decode prog_170_method_4_code 42 = .ok (.ireturn, 1) := by decide +kernel
def own_f3 : Int32 := (0 : Int32)
theorem own_bf3 : own_f3 &&& 1 = own_f3 := (by decide)
theorem own_ef3 (m : MethodId) (oa : Addr) : entryFrame m #[(.ref oa), .null] 2 = mkF m 0 #[.val (.ref oa), .val .null] [] := by first | (simp [entryFrame, mkF, argsToLocals, Value.category]; done) | rfl
abbrev own_room3 : Room := { frames := 0, cells := 0, slots := 0, locals := 0 }
def own_Q3 (Z : State) (oa : Addr) (h0 : Heap) (n0 : Nat) (v : Option Value) (h : Heap) (L : List Loc) : Prop := v = some (.int own_f3) ∧ Fr n0 L ∧ h = h0
set_option maxRecDepth 65536 in
set_option maxHeartbeats 40000000 in
theorem own_rm3 (l : Launch) (Z : State) (a0 : Array Value) (hw : ∀ d ∈ tables_1, d.before a0 Z = true) (ws : List Jvm.Cond) (oa : Addr) (h0 : Heap) (n0 : Nat) (Z0 : n0 ≤ h0.size) :
    MetFree l (⟨"com/example/halyard/halyard/protocol/MessageId", "equals", "(Ljava/lang/Object;)Z"⟩ : MethodName) (head1 (Jvm.Cond.code (⟨"com/example/halyard/halyard/protocol/MessageId", "equals", "(Ljava/lang/Object;)Z"⟩ : MethodName) prog_170_method_4_code 2 (some .boolean) :: ws) own_room3) (fun a U => a = #[(.ref oa), .null] ∧ Z.Warmed39 U.vm ∧ U.heap = h0) (fun _ _ _ _ _ => True) (fun _ U o U' => ∃ v L, o = .returned v ∧ own_Q3 Z oa h0 n0 v U'.heap L ∧ FrameEnd U o U' L own_room3.cells own_room3.slots) := by
  refine MetFree.of_bodySF (plainFor_of_name own_pn1) hisR ?_
  intro p e s m args below meth c s₁ Bd hml0 hP hK
  obtain ⟨rfl, hZ, hh⟩ := hP
  have hx := Bd.exec
  have hby := Bd.bytes
  have hml : c.maxLocals = 2 := hml0
  have hown : s.vm.findClass "com/example/halyard/halyard/protocol/MessageId" = some m.cls := findClass_of_methodNamed Bd.named
  have hnm := (name_of_methodNamed Bd.named Bd.method).1
  have X0 : Stand p l e own_room3 s m #[(.ref oa), .null] below meth c s₁ [] 0 0 := Stand.of_body Bd
  have e0 : s₁.heap = h0 := by rw [← hh, Bd.state]; rfl
  have N0 := Fr.nil n0
  refine own_out (Q := fun o U' => ∃ v L, o = .returned v ∧ own_Q3 Z oa h0 n0 v U'.heap L ∧ FrameEnd s o U' L own_room3.cells own_room3.slots) ?_
  refine own_go (T' := s₁) (f' := (mkF m 0 #[.val (.ref oa), .val .null] [])) ?_ (fun _ k => castTop (own_ef3 m oa) k)
  refine own_go (T' := s₁) (f' := (mkF m 1 #[.val (.ref oa), .val .null] [.null])) ?_ (fun _ k => XS.aloadN X0.here hx rfl (hb hby own_d3_0) rfl rfl k)
  refine own_go (T' := s₁) (f' := (mkF m 4 #[.val (.ref oa), .val .null] [(.int (0 : Int32))])) ?_ (X0.instanceofNull hx (g := (mkF m 1 #[.val (.ref oa), .val .null] [.null])) rfl rfl (hb hby own_d3_1))
  refine own_go (T' := s₁) (f' := (mkF m 41 #[.val (.ref oa), .val .null] [])) ?_ (fun _ k => XS.ifYes X0.here hx rfl (pc0 := 4) (pc' := 41) rfl (hb hby own_d3_4) rfl ((if0 _ _).trans (teq (by decide : (0 : Int32) = (0 : Int32))).1) (by decide) (by decide) k)
  refine own_go (T' := s₁) (f' := (mkF m 42 #[.val (.ref oa), .val .null] [(.int (0 : Int32))])) ?_ (fun _ k => XS.iconst X0.here hx rfl (hb hby own_d3_41) k)
  obtain ⟨fs2, hr2, hrun2, hended2, hW2, hsame2⟩ := X0.leave (v := some (.int (0 : Int32))) (fun h => by rw [Bd.returns] at h; cases h)
  refine ⟨_, ⟨_, hrun2, hended2, _, _, rfl, ?_, ⟨_, rfl⟩, hW2, hsame2.mono (by decide) (by decide)⟩, fun _ k => (own_retZ X0 hx Bd.returns (by decide) (hb hby own_d3_42) hr2).trans k⟩
  show own_Q3 Z oa h0 n0 _ s₁.heap _
  rw [e0]
  exact ⟨rfl, N0, rfl⟩
theorem own_d4_0 : decode prog_170_method_4_code 0 = .ok (.aload_n 1, 1) := by decide +kernel
theorem own_d4_1 : decode prog_170_method_4_code 1 = .ok (.instanceof 8, 3) := by decide +kernel
theorem own_d4_4 : decode prog_170_method_4_code 4 = .ok (.ifCond .eq 37, 3) := by decide +kernel
theorem own_d4_7 : decode prog_170_method_4_code 7 = .ok (.aload_n 1, 1) := by decide +kernel
theorem own_d4_8 : decode prog_170_method_4_code 8 = .ok (.checkcast 8, 3) := by decide +kernel
theorem own_d4_11 : decode prog_170_method_4_code 11 = .ok (.getfield 7, 3) := by decide +kernel
theorem own_d4_14 : decode prog_170_method_4_code 14 = .ok (.aload_n 0, 1) := by decide +kernel
theorem own_d4_15 : decode prog_170_method_4_code 15 = .ok (.getfield 7, 3) := by decide +kernel
theorem own_d4_18 : decode prog_170_method_4_code 18 = .ok (.lcmp, 1) := by decide +kernel
theorem own_d4_19 : decode prog_170_method_4_code 19 = .ok (.ifCond .ne 22, 3) := by decide +kernel
theorem own_d4_22 : decode prog_170_method_4_code 22 = .ok (.aload_n 1, 1) := by decide +kernel
theorem own_d4_23 : decode prog_170_method_4_code 23 = .ok (.checkcast 8, 3) := by decide +kernel
theorem own_d4_26 : decode prog_170_method_4_code 26 = .ok (.getfield 13, 3) := by decide +kernel
theorem own_d4_29 : decode prog_170_method_4_code 29 = .ok (.aload_n 0, 1) := by decide +kernel
theorem own_d4_30 : decode prog_170_method_4_code 30 = .ok (.getfield 13, 3) := by decide +kernel
theorem own_d4_33 : decode prog_170_method_4_code 33 = .ok (.lcmp, 1) := by decide +kernel
theorem own_d4_34 : decode prog_170_method_4_code 34 = .ok (.ifCond .ne 7, 3) := by decide +kernel
theorem own_d4_37 : decode prog_170_method_4_code 37 = .ok (.iconst 1, 1) := by decide +kernel
theorem own_d4_38 : decode prog_170_method_4_code 38 = .ok (.goto 4, 3) := by decide +kernel
theorem own_d4_41 : decode prog_170_method_4_code 41 = .ok (.iconst 0, 1) := by decide +kernel
theorem own_d4_42 : decode prog_170_method_4_code 42 = .ok (.ireturn, 1) := by decide +kernel
def own_v4_19_s0 (xa : Int64) (xb : Int64) (xc : Int64) (xd : Int64) : Int32 := (if (lcmpW xc xa) = (0 : Int32) then (if (lcmpW xd xb) = (0 : Int32) then (1 : Int32) else (0 : Int32)) else (0 : Int32))
def own_f4 (xa : Int64) (xb : Int64) (xc : Int64) (xd : Int64) : Int32 := (own_v4_19_s0 xa xb xc xd)
theorem own_b4_19_s0 (xa : Int64) (xb : Int64) (xc : Int64) (xd : Int64) : (own_v4_19_s0 xa xb xc xd) &&& 1 = (own_v4_19_s0 xa xb xc xd) := (own_ite_bool (own_ite_bool (by decide) (by decide)) (by decide))
theorem own_bf4 (xa : Int64) (xb : Int64) (xc : Int64) (xd : Int64) : (own_f4 xa xb xc xd) &&& 1 = (own_f4 xa xb xc xd) := (own_b4_19_s0 xa xb xc xd)
theorem own_ef4 (m : MethodId) (oa : Addr) (ob : Addr) : entryFrame m #[(.ref oa), (.ref ob)] 2 = mkF m 0 #[.val (.ref oa), .val (.ref ob)] [] := by first | (simp [entryFrame, mkF, argsToLocals, Value.category]; done) | rfl
abbrev own_room4 : Room := { frames := 0, cells := 0, slots := 0, locals := 0 }
def own_Q4 (Z : State) (oa : Addr) (ob : Addr) (xa : Int64) (xb : Int64) (xc : Int64) (xd : Int64) (h0 : Heap) (n0 : Nat) (v : Option Value) (h : Heap) (L : List Loc) : Prop := v = some (.int (own_f4 xa xb xc xd)) ∧ Fr n0 L ∧ h = h0
set_option maxRecDepth 65536 in
set_option maxHeartbeats 40000000 in
theorem own_rm4 (l : Launch) (Z : State) (a0 : Array Value) (hw : ∀ d ∈ tables_1, d.before a0 Z = true) (ws : List Jvm.Cond) (oa : Addr) (ob : Addr) (xa : Int64) (xb : Int64) (xc : Int64) (xd : Int64) (h0 : Heap) (n0 : Nat) (Z0 : n0 ≤ h0.size) (F_ledgerId_oa : Fld Z h0 oa "com/example/halyard/halyard/protocol/MessageId" "ledgerId" "J" (.long xa)) (F_entryId_oa : Fld Z h0 oa "com/example/halyard/halyard/protocol/MessageId" "entryId" "J" (.long xb)) (E_ob : Exa Z h0 ob "com/example/halyard/halyard/protocol/MessageId") (F_ledgerId_ob : Fld Z h0 ob "com/example/halyard/halyard/protocol/MessageId" "ledgerId" "J" (.long xc)) (F_entryId_ob : Fld Z h0 ob "com/example/halyard/halyard/protocol/MessageId" "entryId" "J" (.long xd)) :
    MetFree l (⟨"com/example/halyard/halyard/protocol/MessageId", "equals", "(Ljava/lang/Object;)Z"⟩ : MethodName) (head1 (Jvm.Cond.code (⟨"com/example/halyard/halyard/protocol/MessageId", "equals", "(Ljava/lang/Object;)Z"⟩ : MethodName) prog_170_method_4_code 2 (some .boolean) :: ws) own_room4) (fun a U => a = #[(.ref oa), (.ref ob)] ∧ Z.Warmed39 U.vm ∧ U.heap = h0) (fun _ _ _ _ _ => True) (fun _ U o U' => ∃ v L, o = .returned v ∧ own_Q4 Z oa ob xa xb xc xd h0 n0 v U'.heap L ∧ FrameEnd U o U' L own_room4.cells own_room4.slots) := by
  refine MetFree.of_bodySF (plainFor_of_name own_pn1) hisR ?_
  intro p e s m args below meth c s₁ Bd hml0 hP hK
  obtain ⟨rfl, hZ, hh⟩ := hP
  have hx := Bd.exec
  have hby := Bd.bytes
  have hml : c.maxLocals = 2 := hml0
  have hown : s.vm.findClass "com/example/halyard/halyard/protocol/MessageId" = some m.cls := findClass_of_methodNamed Bd.named
  have hnm := (name_of_methodNamed Bd.named Bd.method).1
  have X0 : Stand p l e own_room4 s m #[(.ref oa), (.ref ob)] below meth c s₁ [] 0 0 := Stand.of_body Bd
  have e0 : s₁.heap = h0 := by rw [← hh, Bd.state]; rfl
  have N0 := Fr.nil n0
  refine own_out (Q := fun o U' => ∃ v L, o = .returned v ∧ own_Q4 Z oa ob xa xb xc xd h0 n0 v U'.heap L ∧ FrameEnd s o U' L own_room4.cells own_room4.slots) ?_
  refine own_go (T' := s₁) (f' := (mkF m 0 #[.val (.ref oa), .val (.ref ob)] [])) ?_ (fun _ k => castTop (own_ef4 m oa ob) k)
  refine own_go (T' := s₁) (f' := (mkF m 1 #[.val (.ref oa), .val (.ref ob)] [(.ref ob)])) ?_ (fun _ k => XS.aloadN X0.here hx rfl (hb hby own_d4_0) rfl rfl k)
  obtain ⟨T1, X1, e1, st1⟩ := instY X0 hx hZ hown (hw _ (List.mem_of_getElem? (i := 23) rfl)) e0 (Ins.self E_ob) (g := (mkF m 1 #[.val (.ref oa), .val (.ref ob)] [(.ref ob)])) rfl rfl (hb hby own_d4_1)
  refine own_go (T' := T1) (f' := (mkF m 4 #[.val (.ref oa), .val (.ref ob)] [(.int (1 : Int32))])) ?_ (st1)
  refine own_go (T' := T1) (f' := (mkF m 7 #[.val (.ref oa), .val (.ref ob)] [])) ?_ (fun _ k => XS.ifNo X1.here hx rfl (hb hby own_d4_4) rfl ((if0 _ _).trans (feq (by decide : ¬ ((1 : Int32) = (0 : Int32)))).1) k)
  refine own_go (T' := T1) (f' := (mkF m 8 #[.val (.ref oa), .val (.ref ob)] [(.ref ob)])) ?_ (fun _ k => XS.aloadN X1.here hx rfl (hb hby own_d4_7) rfl rfl k)
  obtain ⟨T2, X2, e2, st2⟩ := castY X1 hx hZ hown (hw _ (List.mem_of_getElem? (i := 23) rfl)) e1 (Ins.self E_ob) (g := (mkF m 8 #[.val (.ref oa), .val (.ref ob)] [(.ref ob)])) rfl rfl (hb hby own_d4_8)
  refine own_go (T' := T2) (f' := (mkF m 11 #[.val (.ref oa), .val (.ref ob)] [(.ref ob)])) ?_ (st2)
  obtain ⟨T3, X3, e3, st3⟩ := getF X2 hx hZ hown (host := "") (Or.inl (hw _ (List.mem_of_getElem? (i := 14) rfl))) Via.refl e2 F_ledgerId_ob (g := (mkF m 11 #[.val (.ref oa), .val (.ref ob)] [(.ref ob)])) rfl rfl (hb hby own_d4_11)
  refine own_go (T' := T3) (f' := (mkF m 14 #[.val (.ref oa), .val (.ref ob)] [(.long xc)])) ?_ (st3)
  refine own_go (T' := T3) (f' := (mkF m 15 #[.val (.ref oa), .val (.ref ob)] [(.ref oa), (.long xc)])) ?_ (fun _ k => XS.aloadN X3.here hx rfl (hb hby own_d4_14) rfl rfl k)
  obtain ⟨T4, X4, e4, st4⟩ := getF X3 hx hZ hown (host := "") (Or.inl (hw _ (List.mem_of_getElem? (i := 14) rfl))) Via.refl e3 F_ledgerId_oa (g := (mkF m 15 #[.val (.ref oa), .val (.ref ob)] [(.ref oa), (.long xc)])) rfl rfl (hb hby own_d4_15)
  refine own_go (T' := T4) (f' := (mkF m 18 #[.val (.ref oa), .val (.ref ob)] [(.long xa), (.long xc)])) ?_ (st4)
  refine own_go (T' := T4) (f' := (mkF m 19 #[.val (.ref oa), .val (.ref ob)] [(.int (lcmpW xc xa))])) ?_ (fun _ k => XS.lcmp X4.here hx rfl (hb hby own_d4_18) rfl k)
  obtain ⟨_, ⟨T5, L5, rfl, X5, e5, N5⟩, mg5⟩ : own_Goes p.tables e below (fun uu => ∃ (T' : State) (L' : List Loc), uu = T'.setTop (mkF m 42 #[.val (.ref oa), .val (.ref ob)] [(.int (own_v4_19_s0 xa xb xc xd))]) ∧ Stand p l e own_room4 s m #[(.ref oa), (.ref ob)] below meth c T' L' 0 0 ∧ T'.heap = h0 ∧ Fr n0 L') T4 (mkF m 19 #[.val (.ref oa), .val (.ref ob)] [(.int (lcmpW xc xa))]) := by
    by_cases hc19_6 : (lcmpW xc xa) = (0 : Int32)
    · refine own_go (T' := T4) (f' := (mkF m 22 #[.val (.ref oa), .val (.ref ob)] [])) ?_ (fun _ k => XS.ifNo X4.here hx rfl (hb hby own_d4_19) rfl ((if0 _ _).trans (teq hc19_6).2) k)
      refine own_go (T' := T4) (f' := (mkF m 23 #[.val (.ref oa), .val (.ref ob)] [(.ref ob)])) ?_ (fun _ k => XS.aloadN X4.here hx rfl (hb hby own_d4_22) rfl rfl k)
      obtain ⟨T7, X7, e7, st7⟩ := castY X4 hx hZ hown (hw _ (List.mem_of_getElem? (i := 23) rfl)) e4 (Ins.self E_ob) (g := (mkF m 23 #[.val (.ref oa), .val (.ref ob)] [(.ref ob)])) rfl rfl (hb hby own_d4_23)
      refine own_go (T' := T7) (f' := (mkF m 26 #[.val (.ref oa), .val (.ref ob)] [(.ref ob)])) ?_ (st7)
      obtain ⟨T8, X8, e8, st8⟩ := getF X7 hx hZ hown (host := "") (Or.inl (hw _ (List.mem_of_getElem? (i := 16) rfl))) Via.refl e7 F_entryId_ob (g := (mkF m 26 #[.val (.ref oa), .val (.ref ob)] [(.ref ob)])) rfl rfl (hb hby own_d4_26)
      refine own_go (T' := T8) (f' := (mkF m 29 #[.val (.ref oa), .val (.ref ob)] [(.long xd)])) ?_ (st8)
      refine own_go (T' := T8) (f' := (mkF m 30 #[.val (.ref oa), .val (.ref ob)] [(.ref oa), (.long xd)])) ?_ (fun _ k => XS.aloadN X8.here hx rfl (hb hby own_d4_29) rfl rfl k)
      obtain ⟨T9, X9, e9, st9⟩ := getF X8 hx hZ hown (host := "") (Or.inl (hw _ (List.mem_of_getElem? (i := 16) rfl))) Via.refl e8 F_entryId_oa (g := (mkF m 30 #[.val (.ref oa), .val (.ref ob)] [(.ref oa), (.long xd)])) rfl rfl (hb hby own_d4_30)
      refine own_go (T' := T9) (f' := (mkF m 33 #[.val (.ref oa), .val (.ref ob)] [(.long xb), (.long xd)])) ?_ (st9)
      refine own_go (T' := T9) (f' := (mkF m 34 #[.val (.ref oa), .val (.ref ob)] [(.int (lcmpW xd xb))])) ?_ (fun _ k => XS.lcmp X9.here hx rfl (hb hby own_d4_33) rfl k)
      by_cases hc34_10 : (lcmpW xd xb) = (0 : Int32)
      · refine own_go (T' := T9) (f' := (mkF m 37 #[.val (.ref oa), .val (.ref ob)] [])) ?_ (fun _ k => XS.ifNo X9.here hx rfl (hb hby own_d4_34) rfl ((if0 _ _).trans (teq hc34_10).2) k)
        refine own_go (T' := T9) (f' := (mkF m 38 #[.val (.ref oa), .val (.ref ob)] [(.int (1 : Int32))])) ?_ (fun _ k => XS.iconst X9.here hx rfl (hb hby own_d4_37) k)
        refine own_go (T' := T9) (f' := (mkF m 42 #[.val (.ref oa), .val (.ref ob)] [(.int (1 : Int32))])) ?_ (fun _ k => XS.goto X9.here hx rfl (pc0 := 38) (pc' := 42) rfl (hb hby own_d4_38) (by decide) (by decide) k)
        have em11 : (own_v4_19_s0 xa xb xc xd) = (1 : Int32) := (Eq.trans (if_pos hc19_6) (if_pos hc34_10))
        exact ⟨_, ⟨T9, _, (by rw [em11]), X9, e9, N0⟩, fun _ k => k⟩
      · refine own_go (T' := T9) (f' := (mkF m 41 #[.val (.ref oa), .val (.ref ob)] [])) ?_ (fun _ k => XS.ifYes X9.here hx rfl (pc0 := 34) (pc' := 41) rfl (hb hby own_d4_34) rfl ((if0 _ _).trans (feq hc34_10).2) (by decide) (by decide) k)
        refine own_go (T' := T9) (f' := (mkF m 42 #[.val (.ref oa), .val (.ref ob)] [(.int (0 : Int32))])) ?_ (fun _ k => XS.iconst X9.here hx rfl (hb hby own_d4_41) k)
        have em12 : (own_v4_19_s0 xa xb xc xd) = (0 : Int32) := (Eq.trans (if_pos hc19_6) (if_neg hc34_10))
        exact ⟨_, ⟨T9, _, (by rw [em12]), X9, e9, N0⟩, fun _ k => k⟩
    · refine own_go (T' := T4) (f' := (mkF m 41 #[.val (.ref oa), .val (.ref ob)] [])) ?_ (fun _ k => XS.ifYes X4.here hx rfl (pc0 := 19) (pc' := 41) rfl (hb hby own_d4_19) rfl ((if0 _ _).trans (feq hc19_6).2) (by decide) (by decide) k)
      refine own_go (T' := T4) (f' := (mkF m 42 #[.val (.ref oa), .val (.ref ob)] [(.int (0 : Int32))])) ?_ (fun _ k => XS.iconst X4.here hx rfl (hb hby own_d4_41) k)
      have em13 : (own_v4_19_s0 xa xb xc xd) = (0 : Int32) := (if_neg hc19_6)
      exact ⟨_, ⟨T4, _, (by rw [em13]), X4, e4, N0⟩, fun _ k => k⟩
  refine own_go (T' := T5) (f' := (mkF m 42 #[.val (.ref oa), .val (.ref ob)] [(.int (own_v4_19_s0 xa xb xc xd))])) ?_ (mg5)
  obtain ⟨fs14, hr14, hrun14, hended14, hW14, hsame14⟩ := X5.leave (v := some (.int (own_v4_19_s0 xa xb xc xd))) (fun h => by rw [Bd.returns] at h; cases h)
  refine ⟨_, ⟨_, hrun14, hended14, _, _, rfl, ?_, ⟨_, rfl⟩, hW14, hsame14.mono (by decide) (by decide)⟩, fun _ k => (own_retZ X5 hx Bd.returns (own_b4_19_s0 xa xb xc xd) (hb hby own_d4_42) hr14).trans k⟩
  show own_Q4 Z oa ob xa xb xc xd h0 n0 _ T5.heap _
  rw [e5]
  exact ⟨rfl, N5, rfl⟩
theorem own_notlong {Z : State} {a0 : Array Value} (hw : ∀ d ∈ tables_1, d.before a0 Z = true) : ∃ c t, Z.vm.findClass "java/lang/Long" = some c ∧ Z.vm.findClass "com/example/halyard/halyard/protocol/MessageId" = some t ∧ Z.vm.assignable c t = false := by
  obtain ⟨t, kt, g1, g2, g3, g4, -, -⟩ := Cond.instantiable_spec (hw _ (List.mem_of_getElem? (i := 1) rfl))
  simp only [Bool.or_eq_false_iff] at g4
  have n1 : NS Z "java/lang/Object" "com/example/halyard/halyard/protocol/MessageId" := by
    obtain ⟨c, k, h1, h2, h3, -, -⟩ := Cond.noSuperclass_spec (hw _ (List.mem_of_getElem? (i := 48) rfl))
    have ne := ids_ne h1 g1 (by decide)
    refine ⟨c, t, h1, g1, fun fuel => ?_⟩
    cases fuel with
    | zero => rfl
    | succ f => simp [Vm.isSubclassAux, ne, h2, h3]
  have n2 := NS.step (hw _ (List.mem_of_getElem? (i := 47) rfl)) n1 (by decide)
  have n3 := NS.step (hw _ (List.mem_of_getElem? (i := 46) rfl)) n2 (by decide)
  obtain ⟨c, t', h0, g0, n3⟩ := n3
  cases g1.symm.trans g0
  obtain ⟨p, k, kp, h1, h2, h3, h4, h5, -, h7⟩ := Cond.superclass_spec h0 (hw _ (List.mem_of_getElem? (i := 46) rfl))
  have ne := ids_ne h0 g1 (by decide)
  refine ⟨c, t, h0, g1, ?_⟩
  show Z.vm.assignableAux (255 + 1) c t = false
  simp [Vm.assignableAux, ne, h2, g2, h5, g3, g4.1, Vm.isSubclass, n3]
theorem own_d5_0 : decode prog_170_method_4_code 0 = .ok (.aload_n 1, 1) := by decide +kernel
theorem own_d5_1 : decode prog_170_method_4_code 1 = .ok (.instanceof 8, 3) := by decide +kernel
theorem own_d5_4 : decode prog_170_method_4_code 4 = .ok (.ifCond .eq 37, 3) := by decide +kernel
theorem own_d5_41 : decode prog_170_method_4_code 41 = .ok (.iconst 0, 1) := by decide +kernel
theorem own_d5_42 : decode prog_170_method_4_code 42 = .ok (.ireturn, 1) := by decide +kernel
def own_f5 : Int32 := (0 : Int32)
theorem own_bf5 : own_f5 &&& 1 = own_f5 := (by decide)
theorem own_ef5 (m : MethodId) (oa : Addr) (ob : Addr) : entryFrame m #[(.ref oa), (.ref ob)] 2 = mkF m 0 #[.val (.ref oa), .val (.ref ob)] [] := by first | (simp [entryFrame, mkF, argsToLocals, Value.category]; done) | rfl
abbrev own_room5 : Room := { frames := 0, cells := 0, slots := 0, locals := 0 }
def own_Q5 (Z : State) (oa : Addr) (ob : Addr) (h0 : Heap) (n0 : Nat) (v : Option Value) (h : Heap) (L : List Loc) : Prop := v = some (.int own_f5) ∧ Fr n0 L ∧ h = h0
set_option maxRecDepth 65536 in
set_option maxHeartbeats 40000000 in
theorem own_rm5 (l : Launch) (Z : State) (a0 : Array Value) (hw : ∀ d ∈ tables_1, d.before a0 Z = true) (ws : List Jvm.Cond) (oa : Addr) (ob : Addr) (h0 : Heap) (n0 : Nat) (Z0 : n0 ≤ h0.size) (E_ob : Exa Z h0 ob "java/lang/Long") :
    MetFree l (⟨"com/example/halyard/halyard/protocol/MessageId", "equals", "(Ljava/lang/Object;)Z"⟩ : MethodName) (head1 (Jvm.Cond.code (⟨"com/example/halyard/halyard/protocol/MessageId", "equals", "(Ljava/lang/Object;)Z"⟩ : MethodName) prog_170_method_4_code 2 (some .boolean) :: ws) own_room5) (fun a U => a = #[(.ref oa), (.ref ob)] ∧ Z.Warmed39 U.vm ∧ U.heap = h0) (fun _ _ _ _ _ => True) (fun _ U o U' => ∃ v L, o = .returned v ∧ own_Q5 Z oa ob h0 n0 v U'.heap L ∧ FrameEnd U o U' L own_room5.cells own_room5.slots) := by
  refine MetFree.of_bodySF (plainFor_of_name own_pn1) hisR ?_
  intro p e s m args below meth c s₁ Bd hml0 hP hK
  obtain ⟨rfl, hZ, hh⟩ := hP
  have hx := Bd.exec
  have hby := Bd.bytes
  have hml : c.maxLocals = 2 := hml0
  have hown : s.vm.findClass "com/example/halyard/halyard/protocol/MessageId" = some m.cls := findClass_of_methodNamed Bd.named
  have hnm := (name_of_methodNamed Bd.named Bd.method).1
  have X0 : Stand p l e own_room5 s m #[(.ref oa), (.ref ob)] below meth c s₁ [] 0 0 := Stand.of_body Bd
  have e0 : s₁.heap = h0 := by rw [← hh, Bd.state]; rfl
  have N0 := Fr.nil n0
  refine own_out (Q := fun o U' => ∃ v L, o = .returned v ∧ own_Q5 Z oa ob h0 n0 v U'.heap L ∧ FrameEnd s o U' L own_room5.cells own_room5.slots) ?_
  refine own_go (T' := s₁) (f' := (mkF m 0 #[.val (.ref oa), .val (.ref ob)] [])) ?_ (fun _ k => castTop (own_ef5 m oa ob) k)
  refine own_go (T' := s₁) (f' := (mkF m 1 #[.val (.ref oa), .val (.ref ob)] [(.ref ob)])) ?_ (fun _ k => XS.aloadN X0.here hx rfl (hb hby own_d5_0) rfl rfl k)
  obtain ⟨T1, X1, e1, st1⟩ := instNo X0 hx hZ hown (hw _ (List.mem_of_getElem? (i := 23) rfl)) e0 E_ob (own_notlong hw) (g := (mkF m 1 #[.val (.ref oa), .val (.ref ob)] [(.ref ob)])) rfl rfl (hb hby own_d5_1)
  refine own_go (T' := T1) (f' := (mkF m 4 #[.val (.ref oa), .val (.ref ob)] [(.int (0 : Int32))])) ?_ (st1)
  refine own_go (T' := T1) (f' := (mkF m 41 #[.val (.ref oa), .val (.ref ob)] [])) ?_ (fun _ k => XS.ifYes X1.here hx rfl (pc0 := 4) (pc' := 41) rfl (hb hby own_d5_4) rfl ((if0 _ _).trans (teq (by decide : (0 : Int32) = (0 : Int32))).1) (by decide) (by decide) k)
  refine own_go (T' := T1) (f' := (mkF m 42 #[.val (.ref oa), .val (.ref ob)] [(.int (0 : Int32))])) ?_ (fun _ k => XS.iconst X1.here hx rfl (hb hby own_d5_41) k)
  obtain ⟨fs2, hr2, hrun2, hended2, hW2, hsame2⟩ := X1.leave (v := some (.int (0 : Int32))) (fun h => by rw [Bd.returns] at h; cases h)
  refine ⟨_, ⟨_, hrun2, hended2, _, _, rfl, ?_, ⟨_, rfl⟩, hW2, hsame2.mono (by decide) (by decide)⟩, fun _ k => (own_retZ X1 hx Bd.returns (by decide) (hb hby own_d5_42) hr2).trans k⟩
  show own_Q5 Z oa ob h0 n0 _ T1.heap _
  rw [e1]
  exact ⟨rfl, N0, rfl⟩
theorem own_pn2 : plainName "java/lang/Number" = true := by first | (simp [plainName, overriddenIn]; done) | decide +kernel
theorem own_d6_0 : decode jdk_18_method_1_code 0 = .ok (.aload_n 0, 1) := by decide +kernel
theorem own_d6_1 : decode jdk_18_method_1_code 1 = .ok (.invokespecial 1, 3) := by decide +kernel
theorem own_d6_4 : decode jdk_18_method_1_code 4 = .ok (.return_, 1) := by decide +kernel
theorem own_ef6 (m : MethodId) (oa : Addr) : entryFrame m #[(.ref oa)] 1 = mkF m 0 #[.val (.ref oa)] [] := by first | (simp [entryFrame, mkF, argsToLocals, Value.category]; done) | rfl
abbrev own_room6 : Room := { frames := 1, cells := 0, slots := 0, locals := 12 }
def own_Q6 (Z : State) (oa : Addr) (h0 : Heap) (n0 : Nat) (v : Option Value) (h : Heap) (L : List Loc) : Prop := v = none ∧ Fr n0 L ∧ h = h0
set_option maxRecDepth 65536 in
set_option maxHeartbeats 40000000 in
theorem own_rm6 (l : Launch) (Z : State) (a0 : Array Value) (hw : ∀ d ∈ tables_1, d.before a0 Z = true) (ws : List Jvm.Cond) (oa : Addr) (h0 : Heap) (n0 : Nat) (Z0 : n0 ≤ h0.size) :
    MetFree l (⟨"java/lang/Number", "<init>", "()V"⟩ : MethodName) (head1 (Jvm.Cond.code (⟨"java/lang/Number", "<init>", "()V"⟩ : MethodName) jdk_18_method_1_code 1 none :: ws) own_room6) (fun a U => a = #[(.ref oa)] ∧ Z.Warmed39 U.vm ∧ U.heap = h0) (fun _ _ _ _ _ => True) (fun _ U o U' => ∃ v L, o = .returned v ∧ own_Q6 Z oa h0 n0 v U'.heap L ∧ FrameEnd U o U' L own_room6.cells own_room6.slots) := by
  refine MetFree.of_bodySF (plainFor_of_name own_pn2) hisR ?_
  intro p e s m args below meth c s₁ Bd hml0 hP hK
  obtain ⟨rfl, hZ, hh⟩ := hP
  have hx := Bd.exec
  have hby := Bd.bytes
  have hml : c.maxLocals = 1 := hml0
  have hown : s.vm.findClass "java/lang/Number" = some m.cls := findClass_of_methodNamed Bd.named
  have hnm := (name_of_methodNamed Bd.named Bd.method).1
  have X0 : Stand p l e own_room6 s m #[(.ref oa)] below meth c s₁ [] 0 0 := Stand.of_body Bd
  have e0 : s₁.heap = h0 := by rw [← hh, Bd.state]; rfl
  have N0 := Fr.nil n0
  refine own_out (Q := fun o U' => ∃ v L, o = .returned v ∧ own_Q6 Z oa h0 n0 v U'.heap L ∧ FrameEnd s o U' L own_room6.cells own_room6.slots) ?_
  refine own_go (T' := s₁) (f' := (mkF m 0 #[.val (.ref oa)] [])) ?_ (fun _ k => castTop (own_ef6 m oa) k)
  refine own_go (T' := s₁) (f' := (mkF m 1 #[.val (.ref oa)] [(.ref oa)])) ?_ (fun _ k => XS.aloadN X0.here hx rfl (hb hby own_d6_0) rfl rfl k)
  obtain ⟨T1, X1, e1, st1⟩ := initO X0 hx hZ hown (hw _ (List.mem_of_getElem? (i := 43) rfl)) (hw _ (List.mem_of_getElem? (i := 12) rfl)) (hw _ (List.mem_of_getElem? (i := 13) rfl)) e0 (g := (mkF m 1 #[.val (.ref oa)] [(.ref oa)])) rfl (by rw [hml]; rfl) rfl (hb hby own_d6_1) (by decide) (W := 0) (by show 2 * 0 + _ ≤ _; exact Nat.le_of_eq rfl) (by decide)
  refine own_go (T' := T1) (f' := (mkF m 4 #[.val (.ref oa)] [])) ?_ (st1)
  obtain ⟨fs2, hr2, hrun2, hended2, hW2, hsame2⟩ := X1.leave (v := none) (fun _ => rfl)
  refine ⟨_, ⟨_, hrun2, hended2, _, _, rfl, ?_, ⟨_, rfl⟩, hW2, hsame2.mono (by decide) (by decide)⟩, fun _ k => (X1.returnOut hx Bd.returns (hb hby own_d6_4) hr2).trans k⟩
  show own_Q6 Z oa h0 n0 _ T1.heap _
  rw [e1]
  exact ⟨rfl, N0, rfl⟩
theorem own_pn3 : plainName "java/lang/Long" = true := by first | (simp [plainName, overriddenIn]; done) | decide +kernel
theorem own_d7_0 : decode jdk_35_method_26_code 0 = .ok (.aload_n 0, 1) := by decide +kernel
theorem own_d7_1 : decode jdk_35_method_26_code 1 = .ok (.invokespecial 270, 3) := by decide +kernel
theorem own_d7_4 : decode jdk_35_method_26_code 4 = .ok (.aload_n 0, 1) := by decide +kernel
theorem own_d7_5 : decode jdk_35_method_26_code 5 = .ok (.lload_n 1, 1) := by decide +kernel
theorem own_d7_6 : decode jdk_35_method_26_code 6 = .ok (.putfield 273, 3) := by decide +kernel
theorem own_d7_9 : decode jdk_35_method_26_code 9 = .ok (.return_, 1) := by decide +kernel
theorem own_ef7 (m : MethodId) (oa : Addr) (xa : Int64) : entryFrame m #[(.ref oa), (.long xa)] 3 = mkF m 0 #[.val (.ref oa), .val (.long xa), .second] [] := by first | (simp [entryFrame, mkF, argsToLocals, Value.category]; done) | rfl
abbrev own_room7 : Room := { frames := 2, cells := 0, slots := 0, locals := 24 }
def own_Q7 (Z : State) (oa : Addr) (xa : Int64) (h0 : Heap) (n0 : Nat) (v : Option Value) (h : Heap) (L : List Loc) : Prop := v = none ∧ Fr n0 L ∧ Keep h0 h [oa] ∧ Fld Z h oa "java/lang/Long" "value" "J" (.long xa)
set_option maxRecDepth 65536 in
set_option maxHeartbeats 40000000 in
theorem own_rm7 (l : Launch) (Z : State) (a0 : Array Value) (hw : ∀ d ∈ tables_1, d.before a0 Z = true) (ws : List Jvm.Cond) (oa : Addr) (xa : Int64) (h0 : Heap) (n0 : Nat) (Z0 : n0 ≤ h0.size) (E_oa : Exa Z h0 oa "java/lang/Long") (g_oa : n0 ≤ oa) (F_value_oa : Fld Z h0 oa "java/lang/Long" "value" "J" (.long (0 : Int64))) :
    MetFree l (⟨"java/lang/Long", "<init>", "(J)V"⟩ : MethodName) (head1 (Jvm.Cond.code (⟨"java/lang/Long", "<init>", "(J)V"⟩ : MethodName) jdk_35_method_26_code 3 none :: ws) own_room7) (fun a U => a = #[(.ref oa), (.long xa)] ∧ Z.Warmed39 U.vm ∧ U.heap = h0) (fun _ _ _ _ _ => True) (fun _ U o U' => ∃ v L, o = .returned v ∧ own_Q7 Z oa xa h0 n0 v U'.heap L ∧ FrameEnd U o U' L own_room7.cells own_room7.slots) := by
  refine MetFree.of_bodySF (plainFor_of_name own_pn3) hisR ?_
  intro p e s m args below meth c s₁ Bd hml0 hP hK
  obtain ⟨rfl, hZ, hh⟩ := hP
  have hx := Bd.exec
  have hby := Bd.bytes
  have hml : c.maxLocals = 3 := hml0
  have hown : s.vm.findClass "java/lang/Long" = some m.cls := findClass_of_methodNamed Bd.named
  have hnm := (name_of_methodNamed Bd.named Bd.method).1
  have X0 : Stand p l e own_room7 s m #[(.ref oa), (.long xa)] below meth c s₁ [] 0 0 := Stand.of_body Bd
  have e0 : s₁.heap = h0 := by rw [← hh, Bd.state]; rfl
  have N0 := Fr.nil n0
  refine own_out (Q := fun o U' => ∃ v L, o = .returned v ∧ own_Q7 Z oa xa h0 n0 v U'.heap L ∧ FrameEnd s o U' L own_room7.cells own_room7.slots) ?_
  refine own_go (T' := s₁) (f' := (mkF m 0 #[.val (.ref oa), .val (.long xa), .second] [])) ?_ (fun _ k => castTop (own_ef7 m oa xa) k)
  refine own_go (T' := s₁) (f' := (mkF m 1 #[.val (.ref oa), .val (.long xa), .second] [(.ref oa)])) ?_ (fun _ k => XS.aloadN X0.here hx rfl (hb hby own_d7_0) rfl rfl k)
  obtain ⟨_, _, ⟨T1, L1, k1, n1⟩, -, X1, ⟨Lc1, hQ1, l1, y1, z1⟩, st1⟩ := X0.specialBack hx (y := (⟨"java/lang/Number", "<init>", "()V"⟩ : MethodName)) rfl hown (mvT hZ (hw _ (List.mem_of_getElem? (i := 37) rfl))) (mvT hZ (hw _ (List.mem_of_getElem? (i := 38) rfl))) (mvT hZ (hw _ (List.mem_of_getElem? (i := 42) rfl))) (by decide) (backOf (W := 0) (own_rm6 l Z a0 hw [] oa h0 n0 Z0) hZ (hw _ (List.mem_of_getElem? (i := 42) rfl)) (hw _ (List.mem_of_getElem? (i := 41) rfl)) (by decide) (by decide)) (g := (mkF m 1 #[.val (.ref oa), .val (.long xa), .second] [(.ref oa)])) rfl (by rw [hml]; rfl) (Steps.refl _) (a := oa) (argsL := []) (rest := []) (lenOf own_pd0 rfl) rfl (by show 2 * 0 + _ ≤ _; exact Nat.le_of_eq rfl) (hb hby own_d7_1) (fun _ _ => ⟨rfl, e0, (by decide : 0 + 0 ≤ _), (by decide : 0 + 0 ≤ _)⟩)
  dsimp only [Pt.U, Pt.locs, Pt.cells, Pt.slots] at X1 l1 y1 z1 st1 hQ1
  subst y1 z1
  obtain ⟨rfl, N1q, e1⟩ := hQ1
  have N1 : Fr n0 L1 := l1 ▸ Fr.app N0 N1q
  refine own_go (T' := T1) (f' := (mkF m 4 #[.val (.ref oa), .val (.long xa), .second] [])) ?_ (fun _ k => st1.trans k)
  refine own_go (T' := T1) (f' := (mkF m 5 #[.val (.ref oa), .val (.long xa), .second] [(.ref oa)])) ?_ (fun _ k => XS.aloadN X1.here hx rfl (hb hby own_d7_4) rfl rfl k)
  refine own_go (T' := T1) (f' := (mkF m 6 #[.val (.ref oa), .val (.long xa), .second] [(.long xa), (.ref oa)])) ?_ (fun _ k => XS.lloadN X1.here hx rfl (hb hby own_d7_5) rfl  k)
  obtain ⟨T2, h2, X2, e2, W2, st2⟩ := putF X1 hx hZ hown (host := "") (Or.inl (hw _ (List.mem_of_getElem? (i := 44) rfl))) Via.refl e1 F_value_oa E_oa (Or.inr ⟨(hw _ (List.mem_of_getElem? (i := 45) rfl)), rfl, hnm⟩) (hw _ (List.mem_of_getElem? (i := 32) rfl)) (ty := .long) (by decide) rfl rfl (g := (mkF m 6 #[.val (.ref oa), .val (.long xa), .second] [(.long xa), (.ref oa)])) rfl rfl (hb hby own_d7_6)
  have fa3 := E_oa.wr W2
  have Fw2 := F_value_oa.same W2
  have N2 := Fr.snoc X2 N1 g_oa
  have KK2 : Keep h0 h2 [oa] := (Keep.refl h0 [oa]).wr W2 (Or.inl (List.mem_of_getElem? (i := 0) rfl))
  have ZZ2 : n0 ≤ h2.size := Nat.le_trans Z0 (Keep.of_wr W2).1
  refine own_go (T' := T2) (f' := (mkF m 9 #[.val (.ref oa), .val (.long xa), .second] [])) ?_ (st2)
  obtain ⟨fs5, hr5, hrun5, hended5, hW5, hsame5⟩ := X2.leave (v := none) (fun _ => rfl)
  refine ⟨_, ⟨_, hrun5, hended5, _, _, rfl, ?_, ⟨_, rfl⟩, hW5, hsame5.mono (by decide) (by decide)⟩, fun _ k => (X2.returnOut hx Bd.returns (hb hby own_d7_9) hr5).trans k⟩
  show own_Q7 Z oa xa h0 n0 _ T2.heap _
  rw [e2]
  exact ⟨rfl, N2, KK2, Fw2⟩
def own_AL (Z : State) (h : Heap) (a : Addr) : Prop := ∃ cl : Cell, Arr Z h a cl (.object "java/lang/Long") ∧ cl.slots.size = 256 ∧ ∀ i, i < 256 → ∃ b, cl.slots[i]? = some (.ref b) ∧ Exa Z h b "java/lang/Long"
theorem own_AL.ext {Z : State} {h h' : Heap} {a : Addr} (A : own_AL Z h a) (E : Ext h h') : own_AL Z h' a := by
  obtain ⟨cl, A, S, G⟩ := A
  exact ⟨cl, A.ext E, S, fun i hi => by obtain ⟨b, q, r⟩ := G i hi; exact ⟨b, q, r.ext E⟩⟩
theorem own_cache_in {xa : Int64} (h1 : ¬ lcmpW xa (-128 : Int64) < (0 : Int32)) (h2 : ¬ (0 : Int32) < lcmpW xa (127 : Int64)) : ¬ ((xa.toInt32) + (128 : Int32)) < 0 ∧ ((xa.toInt32) + (128 : Int32)).toNatClampNeg < 256 := by
  have a1 : ¬ xa < (-128 : Int64) := fun q => h1 ((lw_lt _ _).mpr q)
  have a2 : ¬ (127 : Int64) < xa := fun q => h2 ((lw_gt _ _).mpr q)
  rw [Int64.lt_iff_toInt_lt] at a1 a2
  have c1 : (-128 : Int64).toInt = -128 := rfl
  have c2 : (127 : Int64).toInt = 127 := rfl
  have c3 : (128 : Int32).toInt = 128 := rfl
  have b : xa.toInt32.toInt = xa.toInt := Jvm.Kit.i32_of_i64 (by omega) (by omega)
  have s := own_add_ok (x := xa.toInt32) (y := (128 : Int32)) (by omega) (by omega)
  have nn := own_nat32 (x := xa.toInt32 + (128 : Int32)) (by omega)
  refine ⟨?_, by omega⟩
  rw [own_lt32, s, show (0 : Int32).toInt = 0 from rfl]; omega
theorem own_pd1 : parseMethodDescriptor "(J)V" = some ⟨[.long], none⟩ := by decide +kernel
theorem own_d8_0 : decode jdk_35_method_24_code 0 = .ok (.sipush 128, 3) := by decide +kernel
theorem own_d8_3 : decode jdk_35_method_24_code 3 = .ok (.istore_n 2, 1) := by decide +kernel
theorem own_d8_4 : decode jdk_35_method_24_code 4 = .ok (.lload_n 0, 1) := by decide +kernel
theorem own_d8_5 : decode jdk_35_method_24_code 5 = .ok (.ldc2_w 230, 3) := by decide +kernel
theorem own_d8_8 : decode jdk_35_method_24_code 8 = .ok (.lcmp, 1) := by decide +kernel
theorem own_d8_9 : decode jdk_35_method_24_code 9 = .ok (.ifCond .lt 22, 3) := by decide +kernel
theorem own_d8_12 : decode jdk_35_method_24_code 12 = .ok (.lload_n 0, 1) := by decide +kernel
theorem own_d8_13 : decode jdk_35_method_24_code 13 = .ok (.ldc2_w 232, 3) := by decide +kernel
theorem own_d8_16 : decode jdk_35_method_24_code 16 = .ok (.lcmp, 1) := by decide +kernel
theorem own_d8_17 : decode jdk_35_method_24_code 17 = .ok (.ifCond .gt 14, 3) := by decide +kernel
theorem own_d8_20 : decode jdk_35_method_24_code 20 = .ok (.getstatic 234, 3) := by decide +kernel
theorem own_d8_23 : decode jdk_35_method_24_code 23 = .ok (.lload_n 0, 1) := by decide +kernel
theorem own_d8_24 : decode jdk_35_method_24_code 24 = .ok (.l2i, 1) := by decide +kernel
theorem own_d8_25 : decode jdk_35_method_24_code 25 = .ok (.sipush 128, 3) := by decide +kernel
theorem own_d8_28 : decode jdk_35_method_24_code 28 = .ok (.iadd, 1) := by decide +kernel
theorem own_d8_29 : decode jdk_35_method_24_code 29 = .ok (.aaload, 1) := by decide +kernel
theorem own_d8_30 : decode jdk_35_method_24_code 30 = .ok (.areturn, 1) := by decide +kernel
theorem own_d8_31 : decode jdk_35_method_24_code 31 = .ok (.new 1, 3) := by decide +kernel
theorem own_d8_34 : decode jdk_35_method_24_code 34 = .ok (.dup, 1) := by decide +kernel
theorem own_d8_35 : decode jdk_35_method_24_code 35 = .ok (.lload_n 0, 1) := by decide +kernel
theorem own_d8_36 : decode jdk_35_method_24_code 36 = .ok (.invokespecial 240, 3) := by decide +kernel
theorem own_d8_39 : decode jdk_35_method_24_code 39 = .ok (.areturn, 1) := by decide +kernel
theorem own_ef8 (m : MethodId) (xa : Int64) : entryFrame m #[(.long xa)] 3 = mkF m 0 #[.val (.long xa), .second, .unset] [] := by first | (simp [entryFrame, mkF, argsToLocals, Value.category]; done) | rfl
abbrev own_room8 : Room := { frames := 3, cells := 1, slots := 1, locals := 39 }
def own_Q8 (Z : State) (xa : Int64) (oc : Addr) (h0 : Heap) (n0 : Nat) (v : Option Value) (h : Heap) (L : List Loc) : Prop := ∃ ol : Addr, v = some (.ref ol) ∧ Fr n0 L ∧ Keep h0 h [] ∧ Exa Z h ol "java/lang/Long"
set_option maxRecDepth 65536 in
set_option maxHeartbeats 40000000 in
theorem own_rm8 (l : Launch) (Z : State) (a0 : Array Value) (hw : ∀ d ∈ tables_1, d.before a0 Z = true) (ws : List Jvm.Cond) (xa : Int64) (oc : Addr) (h0 : Heap) (n0 : Nat) (Z0 : n0 ≤ h0.size) (O_ : Old Z n0 h0) (Sc : Sta Z Z.heap "java/lang/Long$LongCache" "cache" "[Ljava/lang/Long;" (.ref oc)) (Ac : own_AL Z Z.heap oc) :
    MetFree l (⟨"java/lang/Long", "valueOf", "(J)Ljava/lang/Long;"⟩ : MethodName) (head1 (Jvm.Cond.code (⟨"java/lang/Long", "valueOf", "(J)Ljava/lang/Long;"⟩ : MethodName) jdk_35_method_24_code 3 (some (.object "java/lang/Long")) :: ws) own_room8) (fun a U => a = #[(.long xa)] ∧ Z.Warmed39 U.vm ∧ U.heap = h0) (fun _ _ _ _ _ => True) (fun _ U o U' => ∃ v L, o = .returned v ∧ own_Q8 Z xa oc h0 n0 v U'.heap L ∧ FrameEnd U o U' L own_room8.cells own_room8.slots) := by
  refine MetFree.of_bodySF (plainFor_of_name own_pn3) hisR ?_
  intro p e s m args below meth c s₁ Bd hml0 hP hK
  obtain ⟨rfl, hZ, hh⟩ := hP
  have hx := Bd.exec
  have hby := Bd.bytes
  have hml : c.maxLocals = 3 := hml0
  have hown : s.vm.findClass "java/lang/Long" = some m.cls := findClass_of_methodNamed Bd.named
  have hnm := (name_of_methodNamed Bd.named Bd.method).1
  have X0 : Stand p l e own_room8 s m #[(.long xa)] below meth c s₁ [] 0 0 := Stand.of_body Bd
  have e0 : s₁.heap = h0 := by rw [← hh, Bd.state]; rfl
  have N0 := Fr.nil n0
  refine own_out (Q := fun o U' => ∃ v L, o = .returned v ∧ own_Q8 Z xa oc h0 n0 v U'.heap L ∧ FrameEnd s o U' L own_room8.cells own_room8.slots) ?_
  refine own_go (T' := s₁) (f' := (mkF m 0 #[.val (.long xa), .second, .unset] [])) ?_ (fun _ k => castTop (own_ef8 m xa) k)
  refine own_go (T' := s₁) (f' := (mkF m 3 #[.val (.long xa), .second, .unset] [(.int (128 : Int32))])) ?_ (fun _ k => XS.sipush X0.here hx rfl (hb hby own_d8_0) k)
  refine own_go (T' := s₁) (f' := (mkF m 4 #[.val (.long xa), .second, .val (.int (128 : Int32))] [])) ?_ (fun _ k => XS.istoreN X0.here hx rfl (hb hby own_d8_3) rfl (l' := #[.val (.long xa), .second, .val (.int (128 : Int32))]) rfl k)
  refine own_go (T' := s₁) (f' := (mkF m 5 #[.val (.long xa), .second, .val (.int (128 : Int32))] [(.long xa)])) ?_ (fun _ k => XS.lloadN X0.here hx rfl (hb hby own_d8_4) rfl  k)
  refine own_go (T' := s₁) (f' := (mkF m 8 #[.val (.long xa), .second, .val (.int (128 : Int32))] [(.long (-128 : Int64)), (.long xa)])) ?_ (X0.ldc2Long hx hown (mvT hZ (hw _ (List.mem_of_getElem? (i := 29) rfl))) (g := (mkF m 5 #[.val (.long xa), .second, .val (.int (128 : Int32))] [(.long xa)])) rfl (hb hby own_d8_5))
  refine own_go (T' := s₁) (f' := (mkF m 9 #[.val (.long xa), .second, .val (.int (128 : Int32))] [(.int (lcmpW xa (-128 : Int64)))])) ?_ (fun _ k => XS.lcmp X0.here hx rfl (hb hby own_d8_8) rfl k)
  by_cases hc9_1 : (lcmpW xa (-128 : Int64)) < (0 : Int32)
  · refine own_go (T' := s₁) (f' := (mkF m 31 #[.val (.long xa), .second, .val (.int (128 : Int32))] [])) ?_ (fun _ k => XS.ifYes X0.here hx rfl (pc0 := 9) (pc' := 31) rfl (hb hby own_d8_9) rfl ((if0 _ _).trans (tlt hc9_1).1) (by decide) (by decide) k)
    obtain ⟨T2, h2, X2, e2, E2, A2, D2, -, st2⟩ := newO X0 hx hZ hown (hw _ (List.mem_of_getElem? (i := 31) rfl)) (hw _ (List.mem_of_getElem? (i := 32) rfl)) (hw _ (List.mem_of_getElem? (i := 27) rfl)) e0 (g := (mkF m 31 #[.val (.long xa), .second, .val (.int (128 : Int32))] [])) rfl (hb hby own_d8_31) (by decide) (by decide)
    obtain ⟨b2, g2⟩ : ∃ z, z = h0.size := ⟨_, rfl⟩
    rw [← g2] at A2 D2 st2
    have KK2 : Keep h0 h2 [] := (Keep.refl h0 []).ext E2
    have g_b2 : n0 ≤ b2 := Nat.le_trans Z0 (Nat.le_of_eq g2.symm)
    have sz_b2 : h0.size ≤ b2 := Nat.le_trans (Keep.refl h0 []).1 (Nat.le_of_eq g2.symm)
    have ZZ2 : n0 ≤ h2.size := Nat.le_trans Z0 E2.1
    have fa3 := O_.ext E2
    have fa4 := Sta.ext E2 (Sta.ext O_.2 Sc)
    have F2_value : Fld Z h2 b2 "java/lang/Long" "value" "J" (.long (0 : Int64)) := D2 (Or.inr (hw _ (List.mem_of_getElem? (i := 45) rfl))) (ty := .long) (by decide)
    refine own_go (T' := T2) (f' := (mkF m 34 #[.val (.long xa), .second, .val (.int (128 : Int32))] [(.ref b2)])) ?_ (st2)
    refine own_go (T' := T2) (f' := (mkF m 35 #[.val (.long xa), .second, .val (.int (128 : Int32))] [(.ref b2), (.ref b2)])) ?_ (fun _ k => XS.dup X2.here hx rfl (hb hby own_d8_34) rfl rfl k)
    refine own_go (T' := T2) (f' := (mkF m 36 #[.val (.long xa), .second, .val (.int (128 : Int32))] [(.long xa), (.ref b2), (.ref b2)])) ?_ (fun _ k => XS.lloadN X2.here hx rfl (hb hby own_d8_35) rfl  k)
    obtain ⟨_, _, ⟨T5, L5, k5, n5⟩, -, X5, ⟨Lc5, hQ5, l5, y5, z5⟩, st5⟩ := X2.specialBack hx (y := (⟨"java/lang/Long", "<init>", "(J)V"⟩ : MethodName)) rfl hown (mvT hZ (hw _ (List.mem_of_getElem? (i := 33) rfl))) (mvT hZ (hw _ (List.mem_of_getElem? (i := 34) rfl))) (mvT hZ (hw _ (List.mem_of_getElem? (i := 36) rfl))) (by decide) (backOf (W := 1) (own_rm7 l Z a0 hw [] b2 xa h2 n0 ZZ2 A2 g_b2 F2_value) hZ (hw _ (List.mem_of_getElem? (i := 36) rfl)) (hw _ (List.mem_of_getElem? (i := 27) rfl)) (by decide) (by decide)) (g := (mkF m 36 #[.val (.long xa), .second, .val (.int (128 : Int32))] [(.long xa), (.ref b2), (.ref b2)])) rfl (by rw [hml]; rfl) (Steps.refl _) (a := b2) (argsL := [(.long xa)]) (rest := [(.ref b2)]) (lenOf own_pd1 rfl) rfl (by show 2 * 0 + _ ≤ _; exact Nat.le_of_eq rfl) (hb hby own_d8_36) (fun _ _ => ⟨rfl, e2, (by decide : 1 + 0 ≤ _), (by decide : 1 + 0 ≤ _)⟩)
    dsimp only [Pt.U, Pt.locs, Pt.cells, Pt.slots] at X5 l5 y5 z5 st5 hQ5
    subst y5 z5
    obtain ⟨rfl, N5q, K5, P5_0⟩ := hQ5
    have fa6 := fa3.keep K5 (allS g_b2 all0)
    have fa8 := A2.keep K5
    have KK5 : Keep h0 T5.heap [] := KK2.trans K5 (allS (Or.inr sz_b2) all0)
    have ZZ5 : n0 ≤ T5.heap.size := Nat.le_trans ZZ2 K5.1
    have N5 : Fr n0 L5 := l5 ▸ Fr.app N0 N5q
    refine own_go (T' := T5) (f' := (mkF m 39 #[.val (.long xa), .second, .val (.int (128 : Int32))] [(.ref b2)])) ?_ (fun _ k => st5.trans k)
    obtain ⟨fs10, hr10, hrun10, hended10, hW10, hsame10⟩ := X5.leave (v := some (.ref b2)) (fun h => by rw [Bd.returns] at h; cases h)
    refine ⟨_, ⟨_, hrun10, hended10, _, _, rfl, ?_, ⟨_, rfl⟩, hW10, hsame10.mono (by decide) (by decide)⟩, fun _ k => (X5.areturnOut hx rfl Bd.returns rfl (hb hby own_d8_39) hr10).trans k⟩
    show own_Q8 Z xa oc h0 n0 _ T5.heap _
    exact ⟨b2, rfl, N5, KK5, fa8⟩
  · refine own_go (T' := s₁) (f' := (mkF m 12 #[.val (.long xa), .second, .val (.int (128 : Int32))] [])) ?_ (fun _ k => XS.ifNo X0.here hx rfl (hb hby own_d8_9) rfl ((if0 _ _).trans (flt hc9_1).1) k)
    refine own_go (T' := s₁) (f' := (mkF m 13 #[.val (.long xa), .second, .val (.int (128 : Int32))] [(.long xa)])) ?_ (fun _ k => XS.lloadN X0.here hx rfl (hb hby own_d8_12) rfl  k)
    refine own_go (T' := s₁) (f' := (mkF m 16 #[.val (.long xa), .second, .val (.int (128 : Int32))] [(.long (127 : Int64)), (.long xa)])) ?_ (X0.ldc2Long hx hown (mvT hZ (hw _ (List.mem_of_getElem? (i := 30) rfl))) (g := (mkF m 13 #[.val (.long xa), .second, .val (.int (128 : Int32))] [(.long xa)])) rfl (hb hby own_d8_13))
    refine own_go (T' := s₁) (f' := (mkF m 17 #[.val (.long xa), .second, .val (.int (128 : Int32))] [(.int (lcmpW xa (127 : Int64)))])) ?_ (fun _ k => XS.lcmp X0.here hx rfl (hb hby own_d8_16) rfl k)
    by_cases hc17_11 : (0 : Int32) < (lcmpW xa (127 : Int64))
    · refine own_go (T' := s₁) (f' := (mkF m 31 #[.val (.long xa), .second, .val (.int (128 : Int32))] [])) ?_ (fun _ k => XS.ifYes X0.here hx rfl (pc0 := 17) (pc' := 31) rfl (hb hby own_d8_17) rfl ((if0 _ _).trans (tlt hc17_11).2.2.1) (by decide) (by decide) k)
      obtain ⟨T12, h12, X12, e12, E12, A12, D12, -, st12⟩ := newO X0 hx hZ hown (hw _ (List.mem_of_getElem? (i := 31) rfl)) (hw _ (List.mem_of_getElem? (i := 32) rfl)) (hw _ (List.mem_of_getElem? (i := 27) rfl)) e0 (g := (mkF m 31 #[.val (.long xa), .second, .val (.int (128 : Int32))] [])) rfl (hb hby own_d8_31) (by decide) (by decide)
      obtain ⟨b12, g12⟩ : ∃ z, z = h0.size := ⟨_, rfl⟩
      rw [← g12] at A12 D12 st12
      have KK12 : Keep h0 h12 [] := (Keep.refl h0 []).ext E12
      have g_b12 : n0 ≤ b12 := Nat.le_trans Z0 (Nat.le_of_eq g12.symm)
      have sz_b12 : h0.size ≤ b12 := Nat.le_trans (Keep.refl h0 []).1 (Nat.le_of_eq g12.symm)
      have ZZ12 : n0 ≤ h12.size := Nat.le_trans Z0 E12.1
      have fa13 := O_.ext E12
      have fa14 := Sta.ext E12 (Sta.ext O_.2 Sc)
      have F12_value : Fld Z h12 b12 "java/lang/Long" "value" "J" (.long (0 : Int64)) := D12 (Or.inr (hw _ (List.mem_of_getElem? (i := 45) rfl))) (ty := .long) (by decide)
      refine own_go (T' := T12) (f' := (mkF m 34 #[.val (.long xa), .second, .val (.int (128 : Int32))] [(.ref b12)])) ?_ (st12)
      refine own_go (T' := T12) (f' := (mkF m 35 #[.val (.long xa), .second, .val (.int (128 : Int32))] [(.ref b12), (.ref b12)])) ?_ (fun _ k => XS.dup X12.here hx rfl (hb hby own_d8_34) rfl rfl k)
      refine own_go (T' := T12) (f' := (mkF m 36 #[.val (.long xa), .second, .val (.int (128 : Int32))] [(.long xa), (.ref b12), (.ref b12)])) ?_ (fun _ k => XS.lloadN X12.here hx rfl (hb hby own_d8_35) rfl  k)
      obtain ⟨_, _, ⟨T15, L15, k15, n15⟩, -, X15, ⟨Lc15, hQ15, l15, y15, z15⟩, st15⟩ := X12.specialBack hx (y := (⟨"java/lang/Long", "<init>", "(J)V"⟩ : MethodName)) rfl hown (mvT hZ (hw _ (List.mem_of_getElem? (i := 33) rfl))) (mvT hZ (hw _ (List.mem_of_getElem? (i := 34) rfl))) (mvT hZ (hw _ (List.mem_of_getElem? (i := 36) rfl))) (by decide) (backOf (W := 1) (own_rm7 l Z a0 hw [] b12 xa h12 n0 ZZ12 A12 g_b12 F12_value) hZ (hw _ (List.mem_of_getElem? (i := 36) rfl)) (hw _ (List.mem_of_getElem? (i := 27) rfl)) (by decide) (by decide)) (g := (mkF m 36 #[.val (.long xa), .second, .val (.int (128 : Int32))] [(.long xa), (.ref b12), (.ref b12)])) rfl (by rw [hml]; rfl) (Steps.refl _) (a := b12) (argsL := [(.long xa)]) (rest := [(.ref b12)]) (lenOf own_pd1 rfl) rfl (by show 2 * 0 + _ ≤ _; exact Nat.le_of_eq rfl) (hb hby own_d8_36) (fun _ _ => ⟨rfl, e12, (by decide : 1 + 0 ≤ _), (by decide : 1 + 0 ≤ _)⟩)
      dsimp only [Pt.U, Pt.locs, Pt.cells, Pt.slots] at X15 l15 y15 z15 st15 hQ15
      subst y15 z15
      obtain ⟨rfl, N15q, K15, P15_0⟩ := hQ15
      have fa16 := fa13.keep K15 (allS g_b12 all0)
      have fa18 := A12.keep K15
      have KK15 : Keep h0 T15.heap [] := KK12.trans K15 (allS (Or.inr sz_b12) all0)
      have ZZ15 : n0 ≤ T15.heap.size := Nat.le_trans ZZ12 K15.1
      have N15 : Fr n0 L15 := l15 ▸ Fr.app N0 N15q
      refine own_go (T' := T15) (f' := (mkF m 39 #[.val (.long xa), .second, .val (.int (128 : Int32))] [(.ref b12)])) ?_ (fun _ k => st15.trans k)
      obtain ⟨fs20, hr20, hrun20, hended20, hW20, hsame20⟩ := X15.leave (v := some (.ref b12)) (fun h => by rw [Bd.returns] at h; cases h)
      refine ⟨_, ⟨_, hrun20, hended20, _, _, rfl, ?_, ⟨_, rfl⟩, hW20, hsame20.mono (by decide) (by decide)⟩, fun _ k => (X15.areturnOut hx rfl Bd.returns rfl (hb hby own_d8_39) hr20).trans k⟩
      show own_Q8 Z xa oc h0 n0 _ T15.heap _
      exact ⟨b12, rfl, N15, KK15, fa18⟩
    · refine own_go (T' := s₁) (f' := (mkF m 20 #[.val (.long xa), .second, .val (.int (128 : Int32))] [])) ?_ (fun _ k => XS.ifNo X0.here hx rfl (hb hby own_d8_17) rfl ((if0 _ _).trans (flt hc17_11).2.2.1) k)
      obtain ⟨T21, X21, e21, st21⟩ := getS2 X0 hx hZ hown (host := "") (Or.inl (hw _ (List.mem_of_getElem? (i := 49) rfl))) Via.refl e0 (Sta.ext O_.2 Sc) (g := (mkF m 20 #[.val (.long xa), .second, .val (.int (128 : Int32))] [])) rfl (hb hby own_d8_20)
      refine own_go (T' := T21) (f' := (mkF m 23 #[.val (.long xa), .second, .val (.int (128 : Int32))] [(.ref oc)])) ?_ (st21)
      refine own_go (T' := T21) (f' := (mkF m 24 #[.val (.long xa), .second, .val (.int (128 : Int32))] [(.long xa), (.ref oc)])) ?_ (fun _ k => XS.lloadN X21.here hx rfl (hb hby own_d8_23) rfl  k)
      refine own_go (T' := T21) (f' := (mkF m 25 #[.val (.long xa), .second, .val (.int (128 : Int32))] [(.int (xa.toInt32)), (.ref oc)])) ?_ (fun _ k => XS.l2i X21.here hx rfl (hb hby own_d8_24) rfl k)
      refine own_go (T' := T21) (f' := (mkF m 28 #[.val (.long xa), .second, .val (.int (128 : Int32))] [(.int (128 : Int32)), (.int (xa.toInt32)), (.ref oc)])) ?_ (fun _ k => XS.sipush X21.here hx rfl (hb hby own_d8_25) k)
      refine own_go (T' := T21) (f' := (mkF m 29 #[.val (.long xa), .second, .val (.int (128 : Int32))] [(.int ((xa.toInt32) + (128 : Int32))), (.ref oc)])) ?_ (fun _ k => XS.iadd X21.here hx rfl (hb hby own_d8_28) rfl k)
      obtain ⟨cl22, Ar22, Sz22, G22⟩ := Ac.ext O_.2
      have hin22 := own_cache_in hc9_1 hc17_11
      obtain ⟨bl22, hat22, El22⟩ := G22 _ hin22.2
      refine own_go (T' := T21) (f' := (mkF m 30 #[.val (.long xa), .second, .val (.int (128 : Int32))] [(.ref bl22)])) ?_ (X21.aaload hx (j := ((xa.toInt32) + (128 : Int32))) (v := (.ref bl22)) (by rw [e21]; exact Ar22.1) (State.isArrayOf_alike hZ.alike Ar22.2.1) rfl Ar22.2.2 (fun q => q.elim hin22.1 (fun z => by rw [Sz22] at z; omega)) hat22 (g := (mkF m 29 #[.val (.long xa), .second, .val (.int (128 : Int32))] [(.int ((xa.toInt32) + (128 : Int32))), (.ref oc)])) rfl rfl (hb hby own_d8_29))
      obtain ⟨fs23, hr23, hrun23, hended23, hW23, hsame23⟩ := X21.leave (v := some (.ref bl22)) (fun h => by rw [Bd.returns] at h; cases h)
      refine ⟨_, ⟨_, hrun23, hended23, _, _, rfl, ?_, ⟨_, rfl⟩, hW23, hsame23.mono (by decide) (by decide)⟩, fun _ k => (X21.areturnOut hx rfl Bd.returns rfl (hb hby own_d8_30) hr23).trans k⟩
      show own_Q8 Z xa oc h0 n0 _ T21.heap _
      rw [e21]
      exact ⟨bl22, rfl, N0, (Keep.refl h0 []), El22⟩
theorem own_pd2 : parseMethodDescriptor "(JJ)V" = some ⟨[.long, .long], none⟩ := by decide +kernel
theorem own_pd3 : parseMethodDescriptor "(Ljava/lang/Object;)Z" = some ⟨[(.object "java/lang/Object")], some .boolean⟩ := by decide +kernel
theorem own_pd4 : parseMethodDescriptor "(J)Ljava/lang/Long;" = some ⟨[.long], some (.object "java/lang/Long")⟩ := by decide +kernel
theorem own_pn4 : plainName "com/example/halyard/halyard/protocol/MessageIdEqualsPinLaw" = true := by first | (simp [plainName, overriddenIn]; done) | decide +kernel
def own_v0_4_s0 (xa : Int64) (xc : Int64) (xe : Int32) : Int64 := (if (xe &&& (1 : Int32)) = (0 : Int32) then xc else xa)
def own_v0_19_s0 (xb : Int64) (xd : Int64) (xe : Int32) : Int64 := (if (xe &&& (2 : Int32)) = (0 : Int32) then xd else xb)
def own_v0_98_s0 (xa : Int64) (xb : Int64) (xc : Int64) (xd : Int64) (xe : Int32) : Int32 := (if (xe &&& (12 : Int32)) < (8 : Int32) then (if (lcmpW (own_v0_4_s0 xa xc xe) xa) = (0 : Int32) then (if (lcmpW (own_v0_19_s0 xb xd xe) xb) = (0 : Int32) then (1 : Int32) else (0 : Int32)) else (0 : Int32)) else (0 : Int32))
def own_v0_131_s0 (xa : Int64) (xb : Int64) (xc : Int64) (xd : Int64) (xe : Int32) : Int32 := (if own_f3 = (own_v0_98_s0 xa xb xc xd xe) then (1 : Int32) else (0 : Int32))
def own_v0_131_s0_2 (xa : Int64) (xb : Int64) (xc : Int64) (xd : Int64) (xe : Int32) : Int32 := (if own_f5 = (own_v0_98_s0 xa xb xc xd xe) then (1 : Int32) else (0 : Int32))
def own_v0_131_s0_3 (xa : Int64) (xb : Int64) (xc : Int64) (xd : Int64) (xe : Int32) : Int32 := (if (own_f4 xa xb (own_v0_4_s0 xa xc xe) (own_v0_19_s0 xb xd xe)) = (own_v0_98_s0 xa xb xc xd xe) then (1 : Int32) else (0 : Int32))
def own_f0 (xa : Int64) (xb : Int64) (xc : Int64) (xd : Int64) (xe : Int32) : Int32 := (if (xe &&& (12 : Int32)) = (8 : Int32) then (own_v0_131_s0 xa xb xc xd xe) else (if (xe &&& (12 : Int32)) = (12 : Int32) then (own_v0_131_s0_2 xa xb xc xd xe) else (own_v0_131_s0_3 xa xb xc xd xe)))
theorem own_b0_131_s0 (xa : Int64) (xb : Int64) (xc : Int64) (xd : Int64) (xe : Int32) : (own_v0_131_s0 xa xb xc xd xe) &&& 1 = (own_v0_131_s0 xa xb xc xd xe) := (own_ite_bool (by decide) (by decide))
theorem own_b0_131_s0_2 (xa : Int64) (xb : Int64) (xc : Int64) (xd : Int64) (xe : Int32) : (own_v0_131_s0_2 xa xb xc xd xe) &&& 1 = (own_v0_131_s0_2 xa xb xc xd xe) := (own_ite_bool (by decide) (by decide))
theorem own_b0_131_s0_3 (xa : Int64) (xb : Int64) (xc : Int64) (xd : Int64) (xe : Int32) : (own_v0_131_s0_3 xa xb xc xd xe) &&& 1 = (own_v0_131_s0_3 xa xb xc xd xe) := (own_ite_bool (by decide) (by decide))
theorem own_bf0 (xa : Int64) (xb : Int64) (xc : Int64) (xd : Int64) (xe : Int32) : (own_f0 xa xb xc xd xe) &&& 1 = (own_f0 xa xb xc xd xe) := (own_ite_bool (own_b0_131_s0 xa xb xc xd xe) (own_ite_bool (own_b0_131_s0_2 xa xb xc xd xe) (own_b0_131_s0_3 xa xb xc xd xe)))
theorem own_ef0 (m : MethodId) (xa : Int64) (xb : Int64) (xc : Int64) (xd : Int64) (xe : Int32) : entryFrame m #[(.long xa), (.long xb), (.long xc), (.long xd), (.int xe)] maxLocals = mkF m 0 #[.val (.long xa), .second, .val (.long xb), .second, .val (.long xc), .second, .val (.long xd), .second, .val (.int xe), .unset, .unset, .unset, .unset, .unset, .unset, .unset, .unset, .unset] [] := by first | (simp [entryFrame, mkF, argsToLocals, Value.category, maxLocals]; done) | rfl
def own_Q0 (Z : State) (xa : Int64) (xb : Int64) (xc : Int64) (xd : Int64) (xe : Int32) (oc : Addr) (h0 : Heap) (n0 : Nat) (v : Option Value) (h : Heap) (L : List Loc) : Prop := v = some (.int (own_f0 xa xb xc xd xe)) ∧ Fr n0 L
set_option maxRecDepth 65536 in
set_option maxHeartbeats 40000000 in
theorem own_rm0 (l : Launch) (Z : State) (a0 : Array Value) (hw : ∀ d ∈ tables_1, d.before a0 Z = true) (ws : List Jvm.Cond) (xa : Int64) (xb : Int64) (xc : Int64) (xd : Int64) (xe : Int32) (oc : Addr) (h0 : Heap) (n0 : Nat) (Z0 : n0 ≤ h0.size) (O_ : Old Z n0 h0) (Sc : Sta Z Z.heap "java/lang/Long$LongCache" "cache" "[Ljava/lang/Long;" (.ref oc)) (Ac : own_AL Z Z.heap oc) :
    MetFree l x (head1 (Jvm.Cond.code x code maxLocals ret :: ws) room_1) (fun a U => a = #[(.long xa), (.long xb), (.long xc), (.long xd), (.int xe)] ∧ Z.Warmed39 U.vm ∧ U.heap = h0) (fun _ _ _ _ _ => True) (fun _ U o U' => ∃ v L, o = .returned v ∧ own_Q0 Z xa xb xc xd xe oc h0 n0 v U'.heap L ∧ FrameEnd U o U' L 16 128) := by
  refine MetFree.of_bodySF (plainFor_of_name own_pn4) hisR ?_
  intro p e s m args below meth c s₁ Bd hml0 hP hK
  obtain ⟨rfl, hZ, hh⟩ := hP
  have hx := Bd.exec
  have hby := Bd.bytes
  have hml : c.maxLocals = 18 := hml0
  have hown : s.vm.findClass "com/example/halyard/halyard/protocol/MessageIdEqualsPinLaw" = some m.cls := findClass_of_methodNamed Bd.named
  have hnm := (name_of_methodNamed Bd.named Bd.method).1
  have X0 : Stand p l e room_1 s m #[(.long xa), (.long xb), (.long xc), (.long xd), (.int xe)] below meth c s₁ [] 0 0 := Stand.of_body Bd
  have e0 : s₁.heap = h0 := by rw [← hh, Bd.state]; rfl
  have N0 := Fr.nil n0
  refine own_out (Q := fun o U' => ∃ v L, o = .returned v ∧ own_Q0 Z xa xb xc xd xe oc h0 n0 v U'.heap L ∧ FrameEnd s o U' L 16 128) ?_
  refine own_go (T' := s₁) (f' := (mkF m 0 #[.val (.long xa), .second, .val (.long xb), .second, .val (.long xc), .second, .val (.long xd), .second, .val (.int xe), .unset, .unset, .unset, .unset, .unset, .unset, .unset, .unset, .unset] [])) ?_ (fun _ k => castTop (own_ef0 m xa xb xc xd xe) k)
  refine own_go (T' := s₁) (f' := (mkF m 2 #[.val (.long xa), .second, .val (.long xb), .second, .val (.long xc), .second, .val (.long xd), .second, .val (.int xe), .unset, .unset, .unset, .unset, .unset, .unset, .unset, .unset, .unset] [(.int xe)])) ?_ (fun _ k => XS.iload X0.here hx rfl (hb hby at_0) rfl  k)
  refine own_go (T' := s₁) (f' := (mkF m 3 #[.val (.long xa), .second, .val (.long xb), .second, .val (.long xc), .second, .val (.long xd), .second, .val (.int xe), .unset, .unset, .unset, .unset, .unset, .unset, .unset, .unset, .unset] [(.int (1 : Int32)), (.int xe)])) ?_ (fun _ k => XS.iconst X0.here hx rfl (hb hby at_2) k)
  refine own_go (T' := s₁) (f' := (mkF m 4 #[.val (.long xa), .second, .val (.long xb), .second, .val (.long xc), .second, .val (.long xd), .second, .val (.int xe), .unset, .unset, .unset, .unset, .unset, .unset, .unset, .unset, .unset] [(.int (xe &&& (1 : Int32)))])) ?_ (fun _ k => XS.iand X0.here hx rfl (hb hby at_3) rfl k)
  obtain ⟨_, ⟨T1, L1, rfl, X1, e1, N1⟩, mg1⟩ : own_Goes p.tables e below (fun uu => ∃ (T' : State) (L' : List Loc), uu = T'.setTop (mkF m 13 #[.val (.long xa), .second, .val (.long xb), .second, .val (.long xc), .second, .val (.long xd), .second, .val (.int xe), .unset, .unset, .unset, .unset, .unset, .unset, .unset, .unset, .unset] [(.long (own_v0_4_s0 xa xc xe))]) ∧ Stand p l e room_1 s m #[(.long xa), (.long xb), (.long xc), (.long xd), (.int xe)] below meth c T' L' 0 0 ∧ T'.heap = h0 ∧ Fr n0 L') s₁ (mkF m 4 #[.val (.long xa), .second, .val (.long xb), .second, .val (.long xc), .second, .val (.long xd), .second, .val (.int xe), .unset, .unset, .unset, .unset, .unset, .unset, .unset, .unset, .unset] [(.int (xe &&& (1 : Int32)))]) := by
    by_cases hc4_2 : (xe &&& (1 : Int32)) = (0 : Int32)
    · refine own_go (T' := s₁) (f' := (mkF m 11 #[.val (.long xa), .second, .val (.long xb), .second, .val (.long xc), .second, .val (.long xd), .second, .val (.int xe), .unset, .unset, .unset, .unset, .unset, .unset, .unset, .unset, .unset] [])) ?_ (fun _ k => XS.ifYes X0.here hx rfl (pc0 := 4) (pc' := 11) rfl (hb hby at_4) rfl ((if0 _ _).trans (teq hc4_2).1) (by decide) (by decide) k)
      refine own_go (T' := s₁) (f' := (mkF m 13 #[.val (.long xa), .second, .val (.long xb), .second, .val (.long xc), .second, .val (.long xd), .second, .val (.int xe), .unset, .unset, .unset, .unset, .unset, .unset, .unset, .unset, .unset] [(.long xc)])) ?_ (fun _ k => XS.lload X0.here hx rfl (hb hby at_11) rfl  k)
      have em3 : (own_v0_4_s0 xa xc xe) = xc := (if_pos hc4_2)
      exact ⟨_, ⟨s₁, _, (by rw [em3]), X0, e0, N0⟩, fun _ k => k⟩
    · refine own_go (T' := s₁) (f' := (mkF m 7 #[.val (.long xa), .second, .val (.long xb), .second, .val (.long xc), .second, .val (.long xd), .second, .val (.int xe), .unset, .unset, .unset, .unset, .unset, .unset, .unset, .unset, .unset] [])) ?_ (fun _ k => XS.ifNo X0.here hx rfl (hb hby at_4) rfl ((if0 _ _).trans (feq hc4_2).1) k)
      refine own_go (T' := s₁) (f' := (mkF m 8 #[.val (.long xa), .second, .val (.long xb), .second, .val (.long xc), .second, .val (.long xd), .second, .val (.int xe), .unset, .unset, .unset, .unset, .unset, .unset, .unset, .unset, .unset] [(.long xa)])) ?_ (fun _ k => XS.lloadN X0.here hx rfl (hb hby at_7) rfl  k)
      refine own_go (T' := s₁) (f' := (mkF m 13 #[.val (.long xa), .second, .val (.long xb), .second, .val (.long xc), .second, .val (.long xd), .second, .val (.int xe), .unset, .unset, .unset, .unset, .unset, .unset, .unset, .unset, .unset] [(.long xa)])) ?_ (fun _ k => XS.goto X0.here hx rfl (pc0 := 8) (pc' := 13) rfl (hb hby at_8) (by decide) (by decide) k)
      have em4 : (own_v0_4_s0 xa xc xe) = xa := (if_neg hc4_2)
      exact ⟨_, ⟨s₁, _, (by rw [em4]), X0, e0, N0⟩, fun _ k => k⟩
  refine own_go (T' := T1) (f' := (mkF m 13 #[.val (.long xa), .second, .val (.long xb), .second, .val (.long xc), .second, .val (.long xd), .second, .val (.int xe), .unset, .unset, .unset, .unset, .unset, .unset, .unset, .unset, .unset] [(.long (own_v0_4_s0 xa xc xe))])) ?_ (mg1)
  refine own_go (T' := T1) (f' := (mkF m 15 #[.val (.long xa), .second, .val (.long xb), .second, .val (.long xc), .second, .val (.long xd), .second, .val (.int xe), .val (.long (own_v0_4_s0 xa xc xe)), .second, .unset, .unset, .unset, .unset, .unset, .unset, .unset] [])) ?_ (fun _ k => XS.lstore X1.here hx rfl (hb hby at_13) rfl (l' := #[.val (.long xa), .second, .val (.long xb), .second, .val (.long xc), .second, .val (.long xd), .second, .val (.int xe), .val (.long (own_v0_4_s0 xa xc xe)), .second, .unset, .unset, .unset, .unset, .unset, .unset, .unset]) rfl k)
  refine own_go (T' := T1) (f' := (mkF m 17 #[.val (.long xa), .second, .val (.long xb), .second, .val (.long xc), .second, .val (.long xd), .second, .val (.int xe), .val (.long (own_v0_4_s0 xa xc xe)), .second, .unset, .unset, .unset, .unset, .unset, .unset, .unset] [(.int xe)])) ?_ (fun _ k => XS.iload X1.here hx rfl (hb hby at_15) rfl  k)
  refine own_go (T' := T1) (f' := (mkF m 18 #[.val (.long xa), .second, .val (.long xb), .second, .val (.long xc), .second, .val (.long xd), .second, .val (.int xe), .val (.long (own_v0_4_s0 xa xc xe)), .second, .unset, .unset, .unset, .unset, .unset, .unset, .unset] [(.int (2 : Int32)), (.int xe)])) ?_ (fun _ k => XS.iconst X1.here hx rfl (hb hby at_17) k)
  refine own_go (T' := T1) (f' := (mkF m 19 #[.val (.long xa), .second, .val (.long xb), .second, .val (.long xc), .second, .val (.long xd), .second, .val (.int xe), .val (.long (own_v0_4_s0 xa xc xe)), .second, .unset, .unset, .unset, .unset, .unset, .unset, .unset] [(.int (xe &&& (2 : Int32)))])) ?_ (fun _ k => XS.iand X1.here hx rfl (hb hby at_18) rfl k)
  obtain ⟨_, ⟨T5, L5, rfl, X5, e5, N5⟩, mg5⟩ : own_Goes p.tables e below (fun uu => ∃ (T' : State) (L' : List Loc), uu = T'.setTop (mkF m 28 #[.val (.long xa), .second, .val (.long xb), .second, .val (.long xc), .second, .val (.long xd), .second, .val (.int xe), .val (.long (own_v0_4_s0 xa xc xe)), .second, .unset, .unset, .unset, .unset, .unset, .unset, .unset] [(.long (own_v0_19_s0 xb xd xe))]) ∧ Stand p l e room_1 s m #[(.long xa), (.long xb), (.long xc), (.long xd), (.int xe)] below meth c T' L' 0 0 ∧ T'.heap = h0 ∧ Fr n0 L') T1 (mkF m 19 #[.val (.long xa), .second, .val (.long xb), .second, .val (.long xc), .second, .val (.long xd), .second, .val (.int xe), .val (.long (own_v0_4_s0 xa xc xe)), .second, .unset, .unset, .unset, .unset, .unset, .unset, .unset] [(.int (xe &&& (2 : Int32)))]) := by
    by_cases hc19_6 : (xe &&& (2 : Int32)) = (0 : Int32)
    · refine own_go (T' := T1) (f' := (mkF m 26 #[.val (.long xa), .second, .val (.long xb), .second, .val (.long xc), .second, .val (.long xd), .second, .val (.int xe), .val (.long (own_v0_4_s0 xa xc xe)), .second, .unset, .unset, .unset, .unset, .unset, .unset, .unset] [])) ?_ (fun _ k => XS.ifYes X1.here hx rfl (pc0 := 19) (pc' := 26) rfl (hb hby at_19) rfl ((if0 _ _).trans (teq hc19_6).1) (by decide) (by decide) k)
      refine own_go (T' := T1) (f' := (mkF m 28 #[.val (.long xa), .second, .val (.long xb), .second, .val (.long xc), .second, .val (.long xd), .second, .val (.int xe), .val (.long (own_v0_4_s0 xa xc xe)), .second, .unset, .unset, .unset, .unset, .unset, .unset, .unset] [(.long xd)])) ?_ (fun _ k => XS.lload X1.here hx rfl (hb hby at_26) rfl  k)
      have em7 : (own_v0_19_s0 xb xd xe) = xd := (if_pos hc19_6)
      exact ⟨_, ⟨T1, _, (by rw [em7]), X1, e1, N1⟩, fun _ k => k⟩
    · refine own_go (T' := T1) (f' := (mkF m 22 #[.val (.long xa), .second, .val (.long xb), .second, .val (.long xc), .second, .val (.long xd), .second, .val (.int xe), .val (.long (own_v0_4_s0 xa xc xe)), .second, .unset, .unset, .unset, .unset, .unset, .unset, .unset] [])) ?_ (fun _ k => XS.ifNo X1.here hx rfl (hb hby at_19) rfl ((if0 _ _).trans (feq hc19_6).1) k)
      refine own_go (T' := T1) (f' := (mkF m 23 #[.val (.long xa), .second, .val (.long xb), .second, .val (.long xc), .second, .val (.long xd), .second, .val (.int xe), .val (.long (own_v0_4_s0 xa xc xe)), .second, .unset, .unset, .unset, .unset, .unset, .unset, .unset] [(.long xb)])) ?_ (fun _ k => XS.lloadN X1.here hx rfl (hb hby at_22) rfl  k)
      refine own_go (T' := T1) (f' := (mkF m 28 #[.val (.long xa), .second, .val (.long xb), .second, .val (.long xc), .second, .val (.long xd), .second, .val (.int xe), .val (.long (own_v0_4_s0 xa xc xe)), .second, .unset, .unset, .unset, .unset, .unset, .unset, .unset] [(.long xb)])) ?_ (fun _ k => XS.goto X1.here hx rfl (pc0 := 23) (pc' := 28) rfl (hb hby at_23) (by decide) (by decide) k)
      have em8 : (own_v0_19_s0 xb xd xe) = xb := (if_neg hc19_6)
      exact ⟨_, ⟨T1, _, (by rw [em8]), X1, e1, N1⟩, fun _ k => k⟩
  refine own_go (T' := T5) (f' := (mkF m 28 #[.val (.long xa), .second, .val (.long xb), .second, .val (.long xc), .second, .val (.long xd), .second, .val (.int xe), .val (.long (own_v0_4_s0 xa xc xe)), .second, .unset, .unset, .unset, .unset, .unset, .unset, .unset] [(.long (own_v0_19_s0 xb xd xe))])) ?_ (mg5)
  refine own_go (T' := T5) (f' := (mkF m 30 #[.val (.long xa), .second, .val (.long xb), .second, .val (.long xc), .second, .val (.long xd), .second, .val (.int xe), .val (.long (own_v0_4_s0 xa xc xe)), .second, .val (.long (own_v0_19_s0 xb xd xe)), .second, .unset, .unset, .unset, .unset, .unset] [])) ?_ (fun _ k => XS.lstore X5.here hx rfl (hb hby at_28) rfl (l' := #[.val (.long xa), .second, .val (.long xb), .second, .val (.long xc), .second, .val (.long xd), .second, .val (.int xe), .val (.long (own_v0_4_s0 xa xc xe)), .second, .val (.long (own_v0_19_s0 xb xd xe)), .second, .unset, .unset, .unset, .unset, .unset]) rfl k)
  refine own_go (T' := T5) (f' := (mkF m 32 #[.val (.long xa), .second, .val (.long xb), .second, .val (.long xc), .second, .val (.long xd), .second, .val (.int xe), .val (.long (own_v0_4_s0 xa xc xe)), .second, .val (.long (own_v0_19_s0 xb xd xe)), .second, .unset, .unset, .unset, .unset, .unset] [(.int xe)])) ?_ (fun _ k => XS.iload X5.here hx rfl (hb hby at_30) rfl  k)
  refine own_go (T' := T5) (f' := (mkF m 34 #[.val (.long xa), .second, .val (.long xb), .second, .val (.long xc), .second, .val (.long xd), .second, .val (.int xe), .val (.long (own_v0_4_s0 xa xc xe)), .second, .val (.long (own_v0_19_s0 xb xd xe)), .second, .unset, .unset, .unset, .unset, .unset] [(.int (12 : Int32)), (.int xe)])) ?_ (fun _ k => XS.bipush X5.here hx rfl (hb hby at_32) k)
  refine own_go (T' := T5) (f' := (mkF m 35 #[.val (.long xa), .second, .val (.long xb), .second, .val (.long xc), .second, .val (.long xd), .second, .val (.int xe), .val (.long (own_v0_4_s0 xa xc xe)), .second, .val (.long (own_v0_19_s0 xb xd xe)), .second, .unset, .unset, .unset, .unset, .unset] [(.int (xe &&& (12 : Int32)))])) ?_ (fun _ k => XS.iand X5.here hx rfl (hb hby at_34) rfl k)
  refine own_go (T' := T5) (f' := (mkF m 37 #[.val (.long xa), .second, .val (.long xb), .second, .val (.long xc), .second, .val (.long xd), .second, .val (.int xe), .val (.long (own_v0_4_s0 xa xc xe)), .second, .val (.long (own_v0_19_s0 xb xd xe)), .second, .val (.int (xe &&& (12 : Int32))), .unset, .unset, .unset, .unset] [])) ?_ (fun _ k => XS.istore X5.here hx rfl (hb hby at_35) rfl (l' := #[.val (.long xa), .second, .val (.long xb), .second, .val (.long xc), .second, .val (.long xd), .second, .val (.int xe), .val (.long (own_v0_4_s0 xa xc xe)), .second, .val (.long (own_v0_19_s0 xb xd xe)), .second, .val (.int (xe &&& (12 : Int32))), .unset, .unset, .unset, .unset]) rfl k)
  obtain ⟨T9, h9, X9, e9, E9, A9, D9, -, st9⟩ := newO X5 hx hZ hown (hw _ (List.mem_of_getElem? (i := 0) rfl)) (hw _ (List.mem_of_getElem? (i := 1) rfl)) (hw _ (List.mem_of_getElem? (i := 2) rfl)) e5 (g := (mkF m 37 #[.val (.long xa), .second, .val (.long xb), .second, .val (.long xc), .second, .val (.long xd), .second, .val (.int xe), .val (.long (own_v0_4_s0 xa xc xe)), .second, .val (.long (own_v0_19_s0 xb xd xe)), .second, .val (.int (xe &&& (12 : Int32))), .unset, .unset, .unset, .unset] [])) rfl (hb hby at_37) (by decide) (by decide)
  obtain ⟨b9, g9⟩ : ∃ z, z = h0.size := ⟨_, rfl⟩
  rw [← g9] at A9 D9 st9
  have KK9 : Keep h0 h9 [] := (Keep.refl h0 []).ext E9
  have g_b9 : n0 ≤ b9 := Nat.le_trans Z0 (Nat.le_of_eq g9.symm)
  have sz_b9 : h0.size ≤ b9 := Nat.le_trans (Keep.refl h0 []).1 (Nat.le_of_eq g9.symm)
  have ZZ9 : n0 ≤ h9.size := Nat.le_trans Z0 E9.1
  have fa10 := O_.ext E9
  have F9_ledgerId : Fld Z h9 b9 "com/example/halyard/halyard/protocol/MessageId" "ledgerId" "J" (.long (0 : Int64)) := D9 (Or.inr (hw _ (List.mem_of_getElem? (i := 15) rfl))) (ty := .long) (by decide)
  have F9_entryId : Fld Z h9 b9 "com/example/halyard/halyard/protocol/MessageId" "entryId" "J" (.long (0 : Int64)) := D9 (Or.inr (hw _ (List.mem_of_getElem? (i := 17) rfl))) (ty := .long) (by decide)
  refine own_go (T' := T9) (f' := (mkF m 40 #[.val (.long xa), .second, .val (.long xb), .second, .val (.long xc), .second, .val (.long xd), .second, .val (.int xe), .val (.long (own_v0_4_s0 xa xc xe)), .second, .val (.long (own_v0_19_s0 xb xd xe)), .second, .val (.int (xe &&& (12 : Int32))), .unset, .unset, .unset, .unset] [(.ref b9)])) ?_ (st9)
  refine own_go (T' := T9) (f' := (mkF m 41 #[.val (.long xa), .second, .val (.long xb), .second, .val (.long xc), .second, .val (.long xd), .second, .val (.int xe), .val (.long (own_v0_4_s0 xa xc xe)), .second, .val (.long (own_v0_19_s0 xb xd xe)), .second, .val (.int (xe &&& (12 : Int32))), .unset, .unset, .unset, .unset] [(.ref b9), (.ref b9)])) ?_ (fun _ k => XS.dup X9.here hx rfl (hb hby at_40) rfl rfl k)
  refine own_go (T' := T9) (f' := (mkF m 42 #[.val (.long xa), .second, .val (.long xb), .second, .val (.long xc), .second, .val (.long xd), .second, .val (.int xe), .val (.long (own_v0_4_s0 xa xc xe)), .second, .val (.long (own_v0_19_s0 xb xd xe)), .second, .val (.int (xe &&& (12 : Int32))), .unset, .unset, .unset, .unset] [(.long xa), (.ref b9), (.ref b9)])) ?_ (fun _ k => XS.lloadN X9.here hx rfl (hb hby at_41) rfl  k)
  refine own_go (T' := T9) (f' := (mkF m 43 #[.val (.long xa), .second, .val (.long xb), .second, .val (.long xc), .second, .val (.long xd), .second, .val (.int xe), .val (.long (own_v0_4_s0 xa xc xe)), .second, .val (.long (own_v0_19_s0 xb xd xe)), .second, .val (.int (xe &&& (12 : Int32))), .unset, .unset, .unset, .unset] [(.long xb), (.long xa), (.ref b9), (.ref b9)])) ?_ (fun _ k => XS.lloadN X9.here hx rfl (hb hby at_42) rfl  k)
  obtain ⟨_, _, ⟨T11, L11, k11, n11⟩, -, X11, ⟨Lc11, hQ11, l11, y11, z11⟩, st11⟩ := X9.specialBack hx (y := (⟨"com/example/halyard/halyard/protocol/MessageId", "<init>", "(JJ)V"⟩ : MethodName)) rfl hown (mvT hZ (hw _ (List.mem_of_getElem? (i := 3) rfl))) (mvT hZ (hw _ (List.mem_of_getElem? (i := 4) rfl))) (mvT hZ (hw _ (List.mem_of_getElem? (i := 5) rfl))) (by decide) (backOf (W := 1) (own_rm2 l Z a0 hw [] b9 xa xb h9 n0 ZZ9 A9 g_b9 F9_ledgerId F9_entryId) hZ (hw _ (List.mem_of_getElem? (i := 5) rfl)) (hw _ (List.mem_of_getElem? (i := 2) rfl)) (by decide) (by decide)) (g := (mkF m 43 #[.val (.long xa), .second, .val (.long xb), .second, .val (.long xc), .second, .val (.long xd), .second, .val (.int xe), .val (.long (own_v0_4_s0 xa xc xe)), .second, .val (.long (own_v0_19_s0 xb xd xe)), .second, .val (.int (xe &&& (12 : Int32))), .unset, .unset, .unset, .unset] [(.long xb), (.long xa), (.ref b9), (.ref b9)])) rfl (by rw [hml]; rfl) (Steps.refl _) (a := b9) (argsL := [(.long xa), (.long xb)]) (rest := [(.ref b9)]) (lenOf own_pd2 rfl) rfl (by show 2 * 0 + _ ≤ _; exact Nat.le_of_eq rfl) (hb hby at_43) (fun _ _ => ⟨rfl, e9, (by decide : 1 + 0 ≤ _), (by decide : 2 + 0 ≤ _)⟩)
  dsimp only [Pt.U, Pt.locs, Pt.cells, Pt.slots] at X11 l11 y11 z11 st11 hQ11
  subst y11 z11
  obtain ⟨rfl, N11q, K11, P11_0, P11_1⟩ := hQ11
  have fa12 := fa10.keep K11 (allS g_b9 all0)
  have fa13 := A9.keep K11
  have KK11 : Keep h0 T11.heap [] := KK9.trans K11 (allS (Or.inr sz_b9) all0)
  have ZZ11 : n0 ≤ T11.heap.size := Nat.le_trans ZZ9 K11.1
  have N11 : Fr n0 L11 := l11 ▸ Fr.app N5 N11q
  refine own_go (T' := T11) (f' := (mkF m 46 #[.val (.long xa), .second, .val (.long xb), .second, .val (.long xc), .second, .val (.long xd), .second, .val (.int xe), .val (.long (own_v0_4_s0 xa xc xe)), .second, .val (.long (own_v0_19_s0 xb xd xe)), .second, .val (.int (xe &&& (12 : Int32))), .unset, .unset, .unset, .unset] [(.ref b9)])) ?_ (fun _ k => st11.trans k)
  refine own_go (T' := T11) (f' := (mkF m 48 #[.val (.long xa), .second, .val (.long xb), .second, .val (.long xc), .second, .val (.long xd), .second, .val (.int xe), .val (.long (own_v0_4_s0 xa xc xe)), .second, .val (.long (own_v0_19_s0 xb xd xe)), .second, .val (.int (xe &&& (12 : Int32))), .val (.ref b9), .unset, .unset, .unset] [])) ?_ (fun _ k => XS.astore X11.here hx rfl (hb hby at_46) rfl rfl (l' := #[.val (.long xa), .second, .val (.long xb), .second, .val (.long xc), .second, .val (.long xd), .second, .val (.int xe), .val (.long (own_v0_4_s0 xa xc xe)), .second, .val (.long (own_v0_19_s0 xb xd xe)), .second, .val (.int (xe &&& (12 : Int32))), .val (.ref b9), .unset, .unset, .unset]) rfl k)
  obtain ⟨T16, h16, X16, e16, E16, A16, D16, -, st16⟩ := newO X11 hx hZ hown (hw _ (List.mem_of_getElem? (i := 0) rfl)) (hw _ (List.mem_of_getElem? (i := 1) rfl)) (hw _ (List.mem_of_getElem? (i := 2) rfl)) rfl (g := (mkF m 48 #[.val (.long xa), .second, .val (.long xb), .second, .val (.long xc), .second, .val (.long xd), .second, .val (.int xe), .val (.long (own_v0_4_s0 xa xc xe)), .second, .val (.long (own_v0_19_s0 xb xd xe)), .second, .val (.int (xe &&& (12 : Int32))), .val (.ref b9), .unset, .unset, .unset] [])) rfl (hb hby at_48) (by decide) (by decide)
  obtain ⟨b16, g16⟩ : ∃ z, z = T11.heap.size := ⟨_, rfl⟩
  rw [← g16] at A16 D16 st16
  have KK16 : Keep h0 h16 [] := KK11.ext E16
  have g_b16 : n0 ≤ b16 := Nat.le_trans ZZ11 (Nat.le_of_eq g16.symm)
  have sz_b16 : h0.size ≤ b16 := Nat.le_trans KK11.1 (Nat.le_of_eq g16.symm)
  have ZZ16 : n0 ≤ h16.size := Nat.le_trans ZZ11 E16.1
  have ne_b9_b16 : b9 ≠ b16 := Nat.ne_of_lt (Nat.lt_of_lt_of_le fa13.lt (Nat.le_of_eq g16.symm))
  have fa17 := fa12.ext E16
  have fa18 := fa13.ext E16
  have fa19 := P11_0.ext E16
  have fa20 := P11_1.ext E16
  have F16_ledgerId : Fld Z h16 b16 "com/example/halyard/halyard/protocol/MessageId" "ledgerId" "J" (.long (0 : Int64)) := D16 (Or.inr (hw _ (List.mem_of_getElem? (i := 15) rfl))) (ty := .long) (by decide)
  have F16_entryId : Fld Z h16 b16 "com/example/halyard/halyard/protocol/MessageId" "entryId" "J" (.long (0 : Int64)) := D16 (Or.inr (hw _ (List.mem_of_getElem? (i := 17) rfl))) (ty := .long) (by decide)
  refine own_go (T' := T16) (f' := (mkF m 51 #[.val (.long xa), .second, .val (.long xb), .second, .val (.long xc), .second, .val (.long xd), .second, .val (.int xe), .val (.long (own_v0_4_s0 xa xc xe)), .second, .val (.long (own_v0_19_s0 xb xd xe)), .second, .val (.int (xe &&& (12 : Int32))), .val (.ref b9), .unset, .unset, .unset] [(.ref b16)])) ?_ (st16)
  refine own_go (T' := T16) (f' := (mkF m 52 #[.val (.long xa), .second, .val (.long xb), .second, .val (.long xc), .second, .val (.long xd), .second, .val (.int xe), .val (.long (own_v0_4_s0 xa xc xe)), .second, .val (.long (own_v0_19_s0 xb xd xe)), .second, .val (.int (xe &&& (12 : Int32))), .val (.ref b9), .unset, .unset, .unset] [(.ref b16), (.ref b16)])) ?_ (fun _ k => XS.dup X16.here hx rfl (hb hby at_51) rfl rfl k)
  refine own_go (T' := T16) (f' := (mkF m 54 #[.val (.long xa), .second, .val (.long xb), .second, .val (.long xc), .second, .val (.long xd), .second, .val (.int xe), .val (.long (own_v0_4_s0 xa xc xe)), .second, .val (.long (own_v0_19_s0 xb xd xe)), .second, .val (.int (xe &&& (12 : Int32))), .val (.ref b9), .unset, .unset, .unset] [(.long (own_v0_4_s0 xa xc xe)), (.ref b16), (.ref b16)])) ?_ (fun _ k => XS.lload X16.here hx rfl (hb hby at_52) rfl  k)
  refine own_go (T' := T16) (f' := (mkF m 56 #[.val (.long xa), .second, .val (.long xb), .second, .val (.long xc), .second, .val (.long xd), .second, .val (.int xe), .val (.long (own_v0_4_s0 xa xc xe)), .second, .val (.long (own_v0_19_s0 xb xd xe)), .second, .val (.int (xe &&& (12 : Int32))), .val (.ref b9), .unset, .unset, .unset] [(.long (own_v0_19_s0 xb xd xe)), (.long (own_v0_4_s0 xa xc xe)), (.ref b16), (.ref b16)])) ?_ (fun _ k => XS.lload X16.here hx rfl (hb hby at_54) rfl  k)
  obtain ⟨_, _, ⟨T21, L21, k21, n21⟩, -, X21, ⟨Lc21, hQ21, l21, y21, z21⟩, st21⟩ := X16.specialBack hx (y := (⟨"com/example/halyard/halyard/protocol/MessageId", "<init>", "(JJ)V"⟩ : MethodName)) rfl hown (mvT hZ (hw _ (List.mem_of_getElem? (i := 3) rfl))) (mvT hZ (hw _ (List.mem_of_getElem? (i := 4) rfl))) (mvT hZ (hw _ (List.mem_of_getElem? (i := 5) rfl))) (by decide) (backOf (W := 1) (own_rm2 l Z a0 hw [] b16 (own_v0_4_s0 xa xc xe) (own_v0_19_s0 xb xd xe) h16 n0 ZZ16 A16 g_b16 F16_ledgerId F16_entryId) hZ (hw _ (List.mem_of_getElem? (i := 5) rfl)) (hw _ (List.mem_of_getElem? (i := 2) rfl)) (by decide) (by decide)) (g := (mkF m 56 #[.val (.long xa), .second, .val (.long xb), .second, .val (.long xc), .second, .val (.long xd), .second, .val (.int xe), .val (.long (own_v0_4_s0 xa xc xe)), .second, .val (.long (own_v0_19_s0 xb xd xe)), .second, .val (.int (xe &&& (12 : Int32))), .val (.ref b9), .unset, .unset, .unset] [(.long (own_v0_19_s0 xb xd xe)), (.long (own_v0_4_s0 xa xc xe)), (.ref b16), (.ref b16)])) rfl (by rw [hml]; rfl) (Steps.refl _) (a := b16) (argsL := [(.long (own_v0_4_s0 xa xc xe)), (.long (own_v0_19_s0 xb xd xe))]) (rest := [(.ref b16)]) (lenOf own_pd2 rfl) rfl (by show 2 * 0 + _ ≤ _; exact Nat.le_of_eq rfl) (hb hby at_56) (fun _ _ => ⟨rfl, e16, (by decide : 2 + 0 ≤ _), (by decide : 4 + 0 ≤ _)⟩)
  dsimp only [Pt.U, Pt.locs, Pt.cells, Pt.slots] at X21 l21 y21 z21 st21 hQ21
  subst y21 z21
  obtain ⟨rfl, N21q, K21, P21_0, P21_1⟩ := hQ21
  have fa22 := fa17.keep K21 (allS g_b16 all0)
  have fa23 := fa18.keep K21
  have fa24 := fa19.keep K21 (ninS ne_b9_b16 nin0)
  have fa25 := fa20.keep K21 (ninS ne_b9_b16 nin0)
  have fa26 := A16.keep K21
  have KK21 : Keep h0 T21.heap [] := KK16.trans K21 (allS (Or.inr sz_b16) all0)
  have ZZ21 : n0 ≤ T21.heap.size := Nat.le_trans ZZ16 K21.1
  have N21 : Fr n0 L21 := l21 ▸ Fr.app N11 N21q
  refine own_go (T' := T21) (f' := (mkF m 59 #[.val (.long xa), .second, .val (.long xb), .second, .val (.long xc), .second, .val (.long xd), .second, .val (.int xe), .val (.long (own_v0_4_s0 xa xc xe)), .second, .val (.long (own_v0_19_s0 xb xd xe)), .second, .val (.int (xe &&& (12 : Int32))), .val (.ref b9), .unset, .unset, .unset] [(.ref b16)])) ?_ (fun _ k => st21.trans k)
  refine own_go (T' := T21) (f' := (mkF m 61 #[.val (.long xa), .second, .val (.long xb), .second, .val (.long xc), .second, .val (.long xd), .second, .val (.int xe), .val (.long (own_v0_4_s0 xa xc xe)), .second, .val (.long (own_v0_19_s0 xb xd xe)), .second, .val (.int (xe &&& (12 : Int32))), .val (.ref b9), .val (.ref b16), .unset, .unset] [])) ?_ (fun _ k => XS.astore X21.here hx rfl (hb hby at_59) rfl rfl (l' := #[.val (.long xa), .second, .val (.long xb), .second, .val (.long xc), .second, .val (.long xd), .second, .val (.int xe), .val (.long (own_v0_4_s0 xa xc xe)), .second, .val (.long (own_v0_19_s0 xb xd xe)), .second, .val (.int (xe &&& (12 : Int32))), .val (.ref b9), .val (.ref b16), .unset, .unset]) rfl k)
  refine own_go (T' := T21) (f' := (mkF m 63 #[.val (.long xa), .second, .val (.long xb), .second, .val (.long xc), .second, .val (.long xd), .second, .val (.int xe), .val (.long (own_v0_4_s0 xa xc xe)), .second, .val (.long (own_v0_19_s0 xb xd xe)), .second, .val (.int (xe &&& (12 : Int32))), .val (.ref b9), .val (.ref b16), .unset, .unset] [(.int (xe &&& (12 : Int32)))])) ?_ (fun _ k => XS.iload X21.here hx rfl (hb hby at_61) rfl  k)
  refine own_go (T' := T21) (f' := (mkF m 65 #[.val (.long xa), .second, .val (.long xb), .second, .val (.long xc), .second, .val (.long xd), .second, .val (.int xe), .val (.long (own_v0_4_s0 xa xc xe)), .second, .val (.long (own_v0_19_s0 xb xd xe)), .second, .val (.int (xe &&& (12 : Int32))), .val (.ref b9), .val (.ref b16), .unset, .unset] [(.int (8 : Int32)), (.int (xe &&& (12 : Int32)))])) ?_ (fun _ k => XS.bipush X21.here hx rfl (hb hby at_63) k)
  by_cases hc65_29 : (xe &&& (12 : Int32)) = (8 : Int32)
  · refine own_go (T' := T21) (f' := (mkF m 68 #[.val (.long xa), .second, .val (.long xb), .second, .val (.long xc), .second, .val (.long xd), .second, .val (.int xe), .val (.long (own_v0_4_s0 xa xc xe)), .second, .val (.long (own_v0_19_s0 xb xd xe)), .second, .val (.int (xe &&& (12 : Int32))), .val (.ref b9), .val (.ref b16), .unset, .unset] [])) ?_ (fun _ k => XS.icmpNo X21.here hx rfl (hb hby at_65) rfl (teq hc65_29).2 k)
    refine own_go (T' := T21) (f' := (mkF m 69 #[.val (.long xa), .second, .val (.long xb), .second, .val (.long xc), .second, .val (.long xd), .second, .val (.int xe), .val (.long (own_v0_4_s0 xa xc xe)), .second, .val (.long (own_v0_19_s0 xb xd xe)), .second, .val (.int (xe &&& (12 : Int32))), .val (.ref b9), .val (.ref b16), .unset, .unset] [.null])) ?_ (fun _ k => XS.aconstNull X21.here hx rfl (hb hby at_68) k)
    refine own_go (T' := T21) (f' := (mkF m 71 #[.val (.long xa), .second, .val (.long xb), .second, .val (.long xc), .second, .val (.long xd), .second, .val (.int xe), .val (.long (own_v0_4_s0 xa xc xe)), .second, .val (.long (own_v0_19_s0 xb xd xe)), .second, .val (.int (xe &&& (12 : Int32))), .val (.ref b9), .val (.ref b16), .val .null, .unset] [])) ?_ (fun _ k => XS.astore X21.here hx rfl (hb hby at_69) rfl rfl (l' := #[.val (.long xa), .second, .val (.long xb), .second, .val (.long xc), .second, .val (.long xd), .second, .val (.int xe), .val (.long (own_v0_4_s0 xa xc xe)), .second, .val (.long (own_v0_19_s0 xb xd xe)), .second, .val (.int (xe &&& (12 : Int32))), .val (.ref b9), .val (.ref b16), .val .null, .unset]) rfl k)
    refine own_go (T' := T21) (f' := (mkF m 94 #[.val (.long xa), .second, .val (.long xb), .second, .val (.long xc), .second, .val (.long xd), .second, .val (.int xe), .val (.long (own_v0_4_s0 xa xc xe)), .second, .val (.long (own_v0_19_s0 xb xd xe)), .second, .val (.int (xe &&& (12 : Int32))), .val (.ref b9), .val (.ref b16), .val .null, .unset] [])) ?_ (fun _ k => XS.goto X21.here hx rfl (pc0 := 71) (pc' := 94) rfl (hb hby at_71) (by decide) (by decide) k)
    refine own_go (T' := T21) (f' := (mkF m 96 #[.val (.long xa), .second, .val (.long xb), .second, .val (.long xc), .second, .val (.long xd), .second, .val (.int xe), .val (.long (own_v0_4_s0 xa xc xe)), .second, .val (.long (own_v0_19_s0 xb xd xe)), .second, .val (.int (xe &&& (12 : Int32))), .val (.ref b9), .val (.ref b16), .val .null, .unset] [(.int (xe &&& (12 : Int32)))])) ?_ (fun _ k => XS.iload X21.here hx rfl (hb hby at_94) rfl  k)
    refine own_go (T' := T21) (f' := (mkF m 98 #[.val (.long xa), .second, .val (.long xb), .second, .val (.long xc), .second, .val (.long xd), .second, .val (.int xe), .val (.long (own_v0_4_s0 xa xc xe)), .second, .val (.long (own_v0_19_s0 xb xd xe)), .second, .val (.int (xe &&& (12 : Int32))), .val (.ref b9), .val (.ref b16), .val .null, .unset] [(.int (8 : Int32)), (.int (xe &&& (12 : Int32)))])) ?_ (fun _ k => XS.bipush X21.here hx rfl (hb hby at_96) k)
    obtain ⟨_, ⟨T30, L30, rfl, X30, e30, N30⟩, mg30⟩ : own_Goes p.tables e below (fun uu => ∃ (T' : State) (L' : List Loc), uu = T'.setTop (mkF m 120 #[.val (.long xa), .second, .val (.long xb), .second, .val (.long xc), .second, .val (.long xd), .second, .val (.int xe), .val (.long (own_v0_4_s0 xa xc xe)), .second, .val (.long (own_v0_19_s0 xb xd xe)), .second, .val (.int (xe &&& (12 : Int32))), .val (.ref b9), .val (.ref b16), .val .null, .unset] [(.int (own_v0_98_s0 xa xb xc xd xe))]) ∧ Stand p l e room_1 s m #[(.long xa), (.long xb), (.long xc), (.long xd), (.int xe)] below meth c T' L' 2 4 ∧ T'.heap = T21.heap ∧ Fr n0 L') T21 (mkF m 98 #[.val (.long xa), .second, .val (.long xb), .second, .val (.long xc), .second, .val (.long xd), .second, .val (.int xe), .val (.long (own_v0_4_s0 xa xc xe)), .second, .val (.long (own_v0_19_s0 xb xd xe)), .second, .val (.int (xe &&& (12 : Int32))), .val (.ref b9), .val (.ref b16), .val .null, .unset] [(.int (8 : Int32)), (.int (xe &&& (12 : Int32)))]) := by
      by_cases hc98_31 : (xe &&& (12 : Int32)) < (8 : Int32)
      · refine own_go (T' := T21) (f' := (mkF m 101 #[.val (.long xa), .second, .val (.long xb), .second, .val (.long xc), .second, .val (.long xd), .second, .val (.int xe), .val (.long (own_v0_4_s0 xa xc xe)), .second, .val (.long (own_v0_19_s0 xb xd xe)), .second, .val (.int (xe &&& (12 : Int32))), .val (.ref b9), .val (.ref b16), .val .null, .unset] [])) ?_ (fun _ k => XS.icmpNo X21.here hx rfl (hb hby at_98) rfl (tlt hc98_31).2.1 k)
        refine own_go (T' := T21) (f' := (mkF m 103 #[.val (.long xa), .second, .val (.long xb), .second, .val (.long xc), .second, .val (.long xd), .second, .val (.int xe), .val (.long (own_v0_4_s0 xa xc xe)), .second, .val (.long (own_v0_19_s0 xb xd xe)), .second, .val (.int (xe &&& (12 : Int32))), .val (.ref b9), .val (.ref b16), .val .null, .unset] [(.long (own_v0_4_s0 xa xc xe))])) ?_ (fun _ k => XS.lload X21.here hx rfl (hb hby at_101) rfl  k)
        refine own_go (T' := T21) (f' := (mkF m 104 #[.val (.long xa), .second, .val (.long xb), .second, .val (.long xc), .second, .val (.long xd), .second, .val (.int xe), .val (.long (own_v0_4_s0 xa xc xe)), .second, .val (.long (own_v0_19_s0 xb xd xe)), .second, .val (.int (xe &&& (12 : Int32))), .val (.ref b9), .val (.ref b16), .val .null, .unset] [(.long xa), (.long (own_v0_4_s0 xa xc xe))])) ?_ (fun _ k => XS.lloadN X21.here hx rfl (hb hby at_103) rfl  k)
        refine own_go (T' := T21) (f' := (mkF m 105 #[.val (.long xa), .second, .val (.long xb), .second, .val (.long xc), .second, .val (.long xd), .second, .val (.int xe), .val (.long (own_v0_4_s0 xa xc xe)), .second, .val (.long (own_v0_19_s0 xb xd xe)), .second, .val (.int (xe &&& (12 : Int32))), .val (.ref b9), .val (.ref b16), .val .null, .unset] [(.int (lcmpW (own_v0_4_s0 xa xc xe) xa))])) ?_ (fun _ k => XS.lcmp X21.here hx rfl (hb hby at_104) rfl k)
        by_cases hc105_32 : (lcmpW (own_v0_4_s0 xa xc xe) xa) = (0 : Int32)
        · refine own_go (T' := T21) (f' := (mkF m 108 #[.val (.long xa), .second, .val (.long xb), .second, .val (.long xc), .second, .val (.long xd), .second, .val (.int xe), .val (.long (own_v0_4_s0 xa xc xe)), .second, .val (.long (own_v0_19_s0 xb xd xe)), .second, .val (.int (xe &&& (12 : Int32))), .val (.ref b9), .val (.ref b16), .val .null, .unset] [])) ?_ (fun _ k => XS.ifNo X21.here hx rfl (hb hby at_105) rfl ((if0 _ _).trans (teq hc105_32).2) k)
          refine own_go (T' := T21) (f' := (mkF m 110 #[.val (.long xa), .second, .val (.long xb), .second, .val (.long xc), .second, .val (.long xd), .second, .val (.int xe), .val (.long (own_v0_4_s0 xa xc xe)), .second, .val (.long (own_v0_19_s0 xb xd xe)), .second, .val (.int (xe &&& (12 : Int32))), .val (.ref b9), .val (.ref b16), .val .null, .unset] [(.long (own_v0_19_s0 xb xd xe))])) ?_ (fun _ k => XS.lload X21.here hx rfl (hb hby at_108) rfl  k)
          refine own_go (T' := T21) (f' := (mkF m 111 #[.val (.long xa), .second, .val (.long xb), .second, .val (.long xc), .second, .val (.long xd), .second, .val (.int xe), .val (.long (own_v0_4_s0 xa xc xe)), .second, .val (.long (own_v0_19_s0 xb xd xe)), .second, .val (.int (xe &&& (12 : Int32))), .val (.ref b9), .val (.ref b16), .val .null, .unset] [(.long xb), (.long (own_v0_19_s0 xb xd xe))])) ?_ (fun _ k => XS.lloadN X21.here hx rfl (hb hby at_110) rfl  k)
          refine own_go (T' := T21) (f' := (mkF m 112 #[.val (.long xa), .second, .val (.long xb), .second, .val (.long xc), .second, .val (.long xd), .second, .val (.int xe), .val (.long (own_v0_4_s0 xa xc xe)), .second, .val (.long (own_v0_19_s0 xb xd xe)), .second, .val (.int (xe &&& (12 : Int32))), .val (.ref b9), .val (.ref b16), .val .null, .unset] [(.int (lcmpW (own_v0_19_s0 xb xd xe) xb))])) ?_ (fun _ k => XS.lcmp X21.here hx rfl (hb hby at_111) rfl k)
          by_cases hc112_33 : (lcmpW (own_v0_19_s0 xb xd xe) xb) = (0 : Int32)
          · refine own_go (T' := T21) (f' := (mkF m 115 #[.val (.long xa), .second, .val (.long xb), .second, .val (.long xc), .second, .val (.long xd), .second, .val (.int xe), .val (.long (own_v0_4_s0 xa xc xe)), .second, .val (.long (own_v0_19_s0 xb xd xe)), .second, .val (.int (xe &&& (12 : Int32))), .val (.ref b9), .val (.ref b16), .val .null, .unset] [])) ?_ (fun _ k => XS.ifNo X21.here hx rfl (hb hby at_112) rfl ((if0 _ _).trans (teq hc112_33).2) k)
            refine own_go (T' := T21) (f' := (mkF m 116 #[.val (.long xa), .second, .val (.long xb), .second, .val (.long xc), .second, .val (.long xd), .second, .val (.int xe), .val (.long (own_v0_4_s0 xa xc xe)), .second, .val (.long (own_v0_19_s0 xb xd xe)), .second, .val (.int (xe &&& (12 : Int32))), .val (.ref b9), .val (.ref b16), .val .null, .unset] [(.int (1 : Int32))])) ?_ (fun _ k => XS.iconst X21.here hx rfl (hb hby at_115) k)
            refine own_go (T' := T21) (f' := (mkF m 120 #[.val (.long xa), .second, .val (.long xb), .second, .val (.long xc), .second, .val (.long xd), .second, .val (.int xe), .val (.long (own_v0_4_s0 xa xc xe)), .second, .val (.long (own_v0_19_s0 xb xd xe)), .second, .val (.int (xe &&& (12 : Int32))), .val (.ref b9), .val (.ref b16), .val .null, .unset] [(.int (1 : Int32))])) ?_ (fun _ k => XS.goto X21.here hx rfl (pc0 := 116) (pc' := 120) rfl (hb hby at_116) (by decide) (by decide) k)
            have em34 : (own_v0_98_s0 xa xb xc xd xe) = (1 : Int32) := (Eq.trans (if_pos hc98_31) (Eq.trans (if_pos hc105_32) (if_pos hc112_33)))
            exact ⟨_, ⟨T21, _, (by rw [em34]), X21, rfl, N21⟩, fun _ k => k⟩
          · refine own_go (T' := T21) (f' := (mkF m 119 #[.val (.long xa), .second, .val (.long xb), .second, .val (.long xc), .second, .val (.long xd), .second, .val (.int xe), .val (.long (own_v0_4_s0 xa xc xe)), .second, .val (.long (own_v0_19_s0 xb xd xe)), .second, .val (.int (xe &&& (12 : Int32))), .val (.ref b9), .val (.ref b16), .val .null, .unset] [])) ?_ (fun _ k => XS.ifYes X21.here hx rfl (pc0 := 112) (pc' := 119) rfl (hb hby at_112) rfl ((if0 _ _).trans (feq hc112_33).2) (by decide) (by decide) k)
            refine own_go (T' := T21) (f' := (mkF m 120 #[.val (.long xa), .second, .val (.long xb), .second, .val (.long xc), .second, .val (.long xd), .second, .val (.int xe), .val (.long (own_v0_4_s0 xa xc xe)), .second, .val (.long (own_v0_19_s0 xb xd xe)), .second, .val (.int (xe &&& (12 : Int32))), .val (.ref b9), .val (.ref b16), .val .null, .unset] [(.int (0 : Int32))])) ?_ (fun _ k => XS.iconst X21.here hx rfl (hb hby at_119) k)
            have em35 : (own_v0_98_s0 xa xb xc xd xe) = (0 : Int32) := (Eq.trans (if_pos hc98_31) (Eq.trans (if_pos hc105_32) (if_neg hc112_33)))
            exact ⟨_, ⟨T21, _, (by rw [em35]), X21, rfl, N21⟩, fun _ k => k⟩
        · refine own_go (T' := T21) (f' := (mkF m 119 #[.val (.long xa), .second, .val (.long xb), .second, .val (.long xc), .second, .val (.long xd), .second, .val (.int xe), .val (.long (own_v0_4_s0 xa xc xe)), .second, .val (.long (own_v0_19_s0 xb xd xe)), .second, .val (.int (xe &&& (12 : Int32))), .val (.ref b9), .val (.ref b16), .val .null, .unset] [])) ?_ (fun _ k => XS.ifYes X21.here hx rfl (pc0 := 105) (pc' := 119) rfl (hb hby at_105) rfl ((if0 _ _).trans (feq hc105_32).2) (by decide) (by decide) k)
          refine own_go (T' := T21) (f' := (mkF m 120 #[.val (.long xa), .second, .val (.long xb), .second, .val (.long xc), .second, .val (.long xd), .second, .val (.int xe), .val (.long (own_v0_4_s0 xa xc xe)), .second, .val (.long (own_v0_19_s0 xb xd xe)), .second, .val (.int (xe &&& (12 : Int32))), .val (.ref b9), .val (.ref b16), .val .null, .unset] [(.int (0 : Int32))])) ?_ (fun _ k => XS.iconst X21.here hx rfl (hb hby at_119) k)
          have em36 : (own_v0_98_s0 xa xb xc xd xe) = (0 : Int32) := (Eq.trans (if_pos hc98_31) (if_neg hc105_32))
          exact ⟨_, ⟨T21, _, (by rw [em36]), X21, rfl, N21⟩, fun _ k => k⟩
      · refine own_go (T' := T21) (f' := (mkF m 119 #[.val (.long xa), .second, .val (.long xb), .second, .val (.long xc), .second, .val (.long xd), .second, .val (.int xe), .val (.long (own_v0_4_s0 xa xc xe)), .second, .val (.long (own_v0_19_s0 xb xd xe)), .second, .val (.int (xe &&& (12 : Int32))), .val (.ref b9), .val (.ref b16), .val .null, .unset] [])) ?_ (fun _ k => XS.icmpYes X21.here hx rfl (pc0 := 98) (pc' := 119) rfl (hb hby at_98) rfl (flt hc98_31).2.1 (by decide) (by decide) k)
        refine own_go (T' := T21) (f' := (mkF m 120 #[.val (.long xa), .second, .val (.long xb), .second, .val (.long xc), .second, .val (.long xd), .second, .val (.int xe), .val (.long (own_v0_4_s0 xa xc xe)), .second, .val (.long (own_v0_19_s0 xb xd xe)), .second, .val (.int (xe &&& (12 : Int32))), .val (.ref b9), .val (.ref b16), .val .null, .unset] [(.int (0 : Int32))])) ?_ (fun _ k => XS.iconst X21.here hx rfl (hb hby at_119) k)
        have em37 : (own_v0_98_s0 xa xb xc xd xe) = (0 : Int32) := (if_neg hc98_31)
        exact ⟨_, ⟨T21, _, (by rw [em37]), X21, rfl, N21⟩, fun _ k => k⟩
    refine own_go (T' := T30) (f' := (mkF m 120 #[.val (.long xa), .second, .val (.long xb), .second, .val (.long xc), .second, .val (.long xd), .second, .val (.int xe), .val (.long (own_v0_4_s0 xa xc xe)), .second, .val (.long (own_v0_19_s0 xb xd xe)), .second, .val (.int (xe &&& (12 : Int32))), .val (.ref b9), .val (.ref b16), .val .null, .unset] [(.int (own_v0_98_s0 xa xb xc xd xe))])) ?_ (mg30)
    refine own_go (T' := T30) (f' := (mkF m 122 #[.val (.long xa), .second, .val (.long xb), .second, .val (.long xc), .second, .val (.long xd), .second, .val (.int xe), .val (.long (own_v0_4_s0 xa xc xe)), .second, .val (.long (own_v0_19_s0 xb xd xe)), .second, .val (.int (xe &&& (12 : Int32))), .val (.ref b9), .val (.ref b16), .val .null, .val (.int (own_v0_98_s0 xa xb xc xd xe))] [])) ?_ (fun _ k => XS.istore X30.here hx rfl (hb hby at_120) rfl (l' := #[.val (.long xa), .second, .val (.long xb), .second, .val (.long xc), .second, .val (.long xd), .second, .val (.int xe), .val (.long (own_v0_4_s0 xa xc xe)), .second, .val (.long (own_v0_19_s0 xb xd xe)), .second, .val (.int (xe &&& (12 : Int32))), .val (.ref b9), .val (.ref b16), .val .null, .val (.int (own_v0_98_s0 xa xb xc xd xe))]) rfl k)
    refine own_go (T' := T30) (f' := (mkF m 124 #[.val (.long xa), .second, .val (.long xb), .second, .val (.long xc), .second, .val (.long xd), .second, .val (.int xe), .val (.long (own_v0_4_s0 xa xc xe)), .second, .val (.long (own_v0_19_s0 xb xd xe)), .second, .val (.int (xe &&& (12 : Int32))), .val (.ref b9), .val (.ref b16), .val .null, .val (.int (own_v0_98_s0 xa xb xc xd xe))] [(.ref b9)])) ?_ (fun _ k => XS.aload X30.here hx rfl (hb hby at_122) rfl rfl k)
    refine own_go (T' := T30) (f' := (mkF m 126 #[.val (.long xa), .second, .val (.long xb), .second, .val (.long xc), .second, .val (.long xd), .second, .val (.int xe), .val (.long (own_v0_4_s0 xa xc xe)), .second, .val (.long (own_v0_19_s0 xb xd xe)), .second, .val (.int (xe &&& (12 : Int32))), .val (.ref b9), .val (.ref b16), .val .null, .val (.int (own_v0_98_s0 xa xb xc xd xe))] [.null, (.ref b9)])) ?_ (fun _ k => XS.aload X30.here hx rfl (hb hby at_124) rfl rfl k)
    obtain ⟨cq38, kq38, qa38, qb38, qc38⟩ := isOf hZ e30 fa23
    obtain ⟨_, _, ⟨T38, L38, k38, n38⟩, -, X38, ⟨Lc38, hQ38, l38, y38, z38⟩, st38⟩ := X30.virtualBack hx (y := (⟨"com/example/halyard/halyard/protocol/MessageId", "equals", "(Ljava/lang/Object;)Z"⟩ : MethodName)) (z := (⟨"com/example/halyard/halyard/protocol/MessageId", "equals", "(Ljava/lang/Object;)Z"⟩ : MethodName)) hown (mvT hZ (hw _ (List.mem_of_getElem? (i := 18) rfl))) (mvT hZ (hw _ (List.mem_of_getElem? (i := 19) rfl))) (notFace_of_selects (args := #[]) (mvT hZ (hw _ (List.mem_of_getElem? (i := 21) rfl)))) (mvT hZ (hw _ (List.mem_of_getElem? (i := 21) rfl))) (mvT hZ (hw _ (List.mem_of_getElem? (i := 20) rfl))) (by decide) (backOf (W := 0) (own_rm3 l Z a0 hw [] b9 T21.heap n0 ZZ21) hZ (hw _ (List.mem_of_getElem? (i := 22) rfl)) (hw _ (List.mem_of_getElem? (i := 2) rfl)) (by decide) (by decide)) qa38 qc38 (g := (mkF m 126 #[.val (.long xa), .second, .val (.long xb), .second, .val (.long xc), .second, .val (.long xd), .second, .val (.int xe), .val (.long (own_v0_4_s0 xa xc xe)), .second, .val (.long (own_v0_19_s0 xb xd xe)), .second, .val (.int (xe &&& (12 : Int32))), .val (.ref b9), .val (.ref b16), .val .null, .val (.int (own_v0_98_s0 xa xb xc xd xe))] [.null, (.ref b9)])) rfl (by rw [hml]; rfl) (Steps.refl _) (argsL := [.null]) (rest := []) (lenOf own_pd3 rfl) rfl (by show 2 * 0 + _ ≤ _; exact Nat.le_of_eq rfl) (hb hby at_126) (fun _ _ => ⟨rfl, e30, (by decide : 2 + 0 ≤ _), (by decide : 4 + 0 ≤ _)⟩)
    dsimp only [Pt.U, Pt.locs, Pt.cells, Pt.slots] at X38 l38 y38 z38 st38 hQ38
    subst y38 z38
    obtain ⟨rfl, N38q, e38⟩ := hQ38
    have N38 : Fr n0 L38 := l38 ▸ Fr.app N30 N38q
    refine own_go (T' := T38) (f' := (mkF m 129 #[.val (.long xa), .second, .val (.long xb), .second, .val (.long xc), .second, .val (.long xd), .second, .val (.int xe), .val (.long (own_v0_4_s0 xa xc xe)), .second, .val (.long (own_v0_19_s0 xb xd xe)), .second, .val (.int (xe &&& (12 : Int32))), .val (.ref b9), .val (.ref b16), .val .null, .val (.int (own_v0_98_s0 xa xb xc xd xe))] [(.int own_f3)])) ?_ (fun _ k => st38.trans k)
    refine own_go (T' := T38) (f' := (mkF m 131 #[.val (.long xa), .second, .val (.long xb), .second, .val (.long xc), .second, .val (.long xd), .second, .val (.int xe), .val (.long (own_v0_4_s0 xa xc xe)), .second, .val (.long (own_v0_19_s0 xb xd xe)), .second, .val (.int (xe &&& (12 : Int32))), .val (.ref b9), .val (.ref b16), .val .null, .val (.int (own_v0_98_s0 xa xb xc xd xe))] [(.int (own_v0_98_s0 xa xb xc xd xe)), (.int own_f3)])) ?_ (fun _ k => XS.iload X38.here hx rfl (hb hby at_129) rfl  k)
    obtain ⟨_, ⟨T39, L39, rfl, X39, e39, N39⟩, mg39⟩ : own_Goes p.tables e below (fun uu => ∃ (T' : State) (L' : List Loc), uu = T'.setTop (mkF m 139 #[.val (.long xa), .second, .val (.long xb), .second, .val (.long xc), .second, .val (.long xd), .second, .val (.int xe), .val (.long (own_v0_4_s0 xa xc xe)), .second, .val (.long (own_v0_19_s0 xb xd xe)), .second, .val (.int (xe &&& (12 : Int32))), .val (.ref b9), .val (.ref b16), .val .null, .val (.int (own_v0_98_s0 xa xb xc xd xe))] [(.int (own_v0_131_s0 xa xb xc xd xe))]) ∧ Stand p l e room_1 s m #[(.long xa), (.long xb), (.long xc), (.long xd), (.int xe)] below meth c T' L' 2 4 ∧ T'.heap = T21.heap ∧ Fr n0 L') T38 (mkF m 131 #[.val (.long xa), .second, .val (.long xb), .second, .val (.long xc), .second, .val (.long xd), .second, .val (.int xe), .val (.long (own_v0_4_s0 xa xc xe)), .second, .val (.long (own_v0_19_s0 xb xd xe)), .second, .val (.int (xe &&& (12 : Int32))), .val (.ref b9), .val (.ref b16), .val .null, .val (.int (own_v0_98_s0 xa xb xc xd xe))] [(.int (own_v0_98_s0 xa xb xc xd xe)), (.int own_f3)]) := by
      by_cases hc131_40 : own_f3 = (own_v0_98_s0 xa xb xc xd xe)
      · refine own_go (T' := T38) (f' := (mkF m 134 #[.val (.long xa), .second, .val (.long xb), .second, .val (.long xc), .second, .val (.long xd), .second, .val (.int xe), .val (.long (own_v0_4_s0 xa xc xe)), .second, .val (.long (own_v0_19_s0 xb xd xe)), .second, .val (.int (xe &&& (12 : Int32))), .val (.ref b9), .val (.ref b16), .val .null, .val (.int (own_v0_98_s0 xa xb xc xd xe))] [])) ?_ (fun _ k => XS.icmpNo X38.here hx rfl (hb hby at_131) rfl (teq hc131_40).2 k)
        refine own_go (T' := T38) (f' := (mkF m 135 #[.val (.long xa), .second, .val (.long xb), .second, .val (.long xc), .second, .val (.long xd), .second, .val (.int xe), .val (.long (own_v0_4_s0 xa xc xe)), .second, .val (.long (own_v0_19_s0 xb xd xe)), .second, .val (.int (xe &&& (12 : Int32))), .val (.ref b9), .val (.ref b16), .val .null, .val (.int (own_v0_98_s0 xa xb xc xd xe))] [(.int (1 : Int32))])) ?_ (fun _ k => XS.iconst X38.here hx rfl (hb hby at_134) k)
        refine own_go (T' := T38) (f' := (mkF m 139 #[.val (.long xa), .second, .val (.long xb), .second, .val (.long xc), .second, .val (.long xd), .second, .val (.int xe), .val (.long (own_v0_4_s0 xa xc xe)), .second, .val (.long (own_v0_19_s0 xb xd xe)), .second, .val (.int (xe &&& (12 : Int32))), .val (.ref b9), .val (.ref b16), .val .null, .val (.int (own_v0_98_s0 xa xb xc xd xe))] [(.int (1 : Int32))])) ?_ (fun _ k => XS.goto X38.here hx rfl (pc0 := 135) (pc' := 139) rfl (hb hby at_135) (by decide) (by decide) k)
        have em41 : (own_v0_131_s0 xa xb xc xd xe) = (1 : Int32) := (if_pos hc131_40)
        exact ⟨_, ⟨T38, _, (by rw [em41]), X38, e38, N38⟩, fun _ k => k⟩
      · refine own_go (T' := T38) (f' := (mkF m 138 #[.val (.long xa), .second, .val (.long xb), .second, .val (.long xc), .second, .val (.long xd), .second, .val (.int xe), .val (.long (own_v0_4_s0 xa xc xe)), .second, .val (.long (own_v0_19_s0 xb xd xe)), .second, .val (.int (xe &&& (12 : Int32))), .val (.ref b9), .val (.ref b16), .val .null, .val (.int (own_v0_98_s0 xa xb xc xd xe))] [])) ?_ (fun _ k => XS.icmpYes X38.here hx rfl (pc0 := 131) (pc' := 138) rfl (hb hby at_131) rfl (feq hc131_40).2 (by decide) (by decide) k)
        refine own_go (T' := T38) (f' := (mkF m 139 #[.val (.long xa), .second, .val (.long xb), .second, .val (.long xc), .second, .val (.long xd), .second, .val (.int xe), .val (.long (own_v0_4_s0 xa xc xe)), .second, .val (.long (own_v0_19_s0 xb xd xe)), .second, .val (.int (xe &&& (12 : Int32))), .val (.ref b9), .val (.ref b16), .val .null, .val (.int (own_v0_98_s0 xa xb xc xd xe))] [(.int (0 : Int32))])) ?_ (fun _ k => XS.iconst X38.here hx rfl (hb hby at_138) k)
        have em42 : (own_v0_131_s0 xa xb xc xd xe) = (0 : Int32) := (if_neg hc131_40)
        exact ⟨_, ⟨T38, _, (by rw [em42]), X38, e38, N38⟩, fun _ k => k⟩
    refine own_go (T' := T39) (f' := (mkF m 139 #[.val (.long xa), .second, .val (.long xb), .second, .val (.long xc), .second, .val (.long xd), .second, .val (.int xe), .val (.long (own_v0_4_s0 xa xc xe)), .second, .val (.long (own_v0_19_s0 xb xd xe)), .second, .val (.int (xe &&& (12 : Int32))), .val (.ref b9), .val (.ref b16), .val .null, .val (.int (own_v0_98_s0 xa xb xc xd xe))] [(.int (own_v0_131_s0 xa xb xc xd xe))])) ?_ (mg39)
    obtain ⟨fs43, hr43, hrun43, hended43, hW43, hsame43⟩ := X39.leave (v := some (.int (own_v0_131_s0 xa xb xc xd xe))) (fun h => by rw [Bd.returns] at h; cases h)
    refine ⟨_, ⟨_, hrun43, hended43, _, _, rfl, ?_, ⟨_, rfl⟩, hW43, hsame43.mono (by decide) (by decide)⟩, fun _ k => (own_retZ X39 hx Bd.returns (own_b0_131_s0 xa xb xc xd xe) (hb hby at_139) hr43).trans k⟩
    show own_Q0 Z xa xb xc xd xe oc h0 n0 _ T39.heap _
    rw [e39]
    exact ⟨(congrArg (fun z => some (Value.int z)) (show (own_v0_131_s0 xa xb xc xd xe) = (own_f0 xa xb xc xd xe) from ((if_pos hc65_29)).symm)), N39⟩
  · refine own_go (T' := T21) (f' := (mkF m 74 #[.val (.long xa), .second, .val (.long xb), .second, .val (.long xc), .second, .val (.long xd), .second, .val (.int xe), .val (.long (own_v0_4_s0 xa xc xe)), .second, .val (.long (own_v0_19_s0 xb xd xe)), .second, .val (.int (xe &&& (12 : Int32))), .val (.ref b9), .val (.ref b16), .unset, .unset] [])) ?_ (fun _ k => XS.icmpYes X21.here hx rfl (pc0 := 65) (pc' := 74) rfl (hb hby at_65) rfl (feq hc65_29).2 (by decide) (by decide) k)
    refine own_go (T' := T21) (f' := (mkF m 76 #[.val (.long xa), .second, .val (.long xb), .second, .val (.long xc), .second, .val (.long xd), .second, .val (.int xe), .val (.long (own_v0_4_s0 xa xc xe)), .second, .val (.long (own_v0_19_s0 xb xd xe)), .second, .val (.int (xe &&& (12 : Int32))), .val (.ref b9), .val (.ref b16), .unset, .unset] [(.int (xe &&& (12 : Int32)))])) ?_ (fun _ k => XS.iload X21.here hx rfl (hb hby at_74) rfl  k)
    refine own_go (T' := T21) (f' := (mkF m 78 #[.val (.long xa), .second, .val (.long xb), .second, .val (.long xc), .second, .val (.long xd), .second, .val (.int xe), .val (.long (own_v0_4_s0 xa xc xe)), .second, .val (.long (own_v0_19_s0 xb xd xe)), .second, .val (.int (xe &&& (12 : Int32))), .val (.ref b9), .val (.ref b16), .unset, .unset] [(.int (12 : Int32)), (.int (xe &&& (12 : Int32)))])) ?_ (fun _ k => XS.bipush X21.here hx rfl (hb hby at_76) k)
    by_cases hc78_44 : (xe &&& (12 : Int32)) = (12 : Int32)
    · refine own_go (T' := T21) (f' := (mkF m 81 #[.val (.long xa), .second, .val (.long xb), .second, .val (.long xc), .second, .val (.long xd), .second, .val (.int xe), .val (.long (own_v0_4_s0 xa xc xe)), .second, .val (.long (own_v0_19_s0 xb xd xe)), .second, .val (.int (xe &&& (12 : Int32))), .val (.ref b9), .val (.ref b16), .unset, .unset] [])) ?_ (fun _ k => XS.icmpNo X21.here hx rfl (hb hby at_78) rfl (teq hc78_44).2 k)
      refine own_go (T' := T21) (f' := (mkF m 82 #[.val (.long xa), .second, .val (.long xb), .second, .val (.long xc), .second, .val (.long xd), .second, .val (.int xe), .val (.long (own_v0_4_s0 xa xc xe)), .second, .val (.long (own_v0_19_s0 xb xd xe)), .second, .val (.int (xe &&& (12 : Int32))), .val (.ref b9), .val (.ref b16), .unset, .unset] [(.long xa)])) ?_ (fun _ k => XS.lloadN X21.here hx rfl (hb hby at_81) rfl  k)
      obtain ⟨_, _, ⟨T45, L45, k45, n45⟩, -, X45, ⟨Lc45, hQ45, l45, y45, z45⟩, st45⟩ := Jvm.LawKit.callS X21 hx (y := (⟨"java/lang/Long", "valueOf", "(J)Ljava/lang/Long;"⟩ : MethodName)) hown (mvT hZ (hw _ (List.mem_of_getElem? (i := 25) rfl))) (mvT hZ (hw _ (List.mem_of_getElem? (i := 26) rfl))) (mvT hZ (hw _ (List.mem_of_getElem? (i := 27) rfl))) (mvT hZ (hw _ (List.mem_of_getElem? (i := 28) rfl))) (by decide) (backOf (W := 0) (own_rm8 l Z a0 hw [] xa oc T21.heap n0 ZZ21 fa22 (Sc) (Ac)) hZ (hw _ (List.mem_of_getElem? (i := 28) rfl)) (hw _ (List.mem_of_getElem? (i := 27) rfl)) (by decide) (by decide)) (g := (mkF m 82 #[.val (.long xa), .second, .val (.long xb), .second, .val (.long xc), .second, .val (.long xd), .second, .val (.int xe), .val (.long (own_v0_4_s0 xa xc xe)), .second, .val (.long (own_v0_19_s0 xb xd xe)), .second, .val (.int (xe &&& (12 : Int32))), .val (.ref b9), .val (.ref b16), .unset, .unset] [(.long xa)])) rfl (by rw [hml]; rfl) (argsL := [(.long xa)]) (rest := []) (lenOf own_pd4 rfl) rfl (by show 2 * 0 + _ ≤ _; exact Nat.le_of_eq rfl) (hb hby at_82) (fun _ _ => ⟨rfl, rfl, (by decide : 2 + 1 ≤ _), (by decide : 4 + 1 ≤ _)⟩)
      dsimp only [Pt.U, Pt.locs, Pt.cells, Pt.slots] at X45 l45 y45 z45 st45 hQ45
      subst y45 z45
      obtain ⟨ol_45, rfl, N45q, K45, P45_0⟩ := hQ45
      have fa46 := fa22.keep K45 all0
      have fa47 := fa23.keep K45
      have fa48 := fa24.keep K45 nin0
      have fa49 := fa25.keep K45 nin0
      have fa50 := fa26.keep K45
      have fa51 := P21_0.keep K45 nin0
      have fa52 := P21_1.keep K45 nin0
      have KK45 : Keep h0 T45.heap [] := KK21.trans K45 all0
      have ZZ45 : n0 ≤ T45.heap.size := Nat.le_trans ZZ21 K45.1
      have N45 : Fr n0 L45 := l45 ▸ Fr.app N21 N45q
      refine own_go (T' := T45) (f' := (mkF m 85 #[.val (.long xa), .second, .val (.long xb), .second, .val (.long xc), .second, .val (.long xd), .second, .val (.int xe), .val (.long (own_v0_4_s0 xa xc xe)), .second, .val (.long (own_v0_19_s0 xb xd xe)), .second, .val (.int (xe &&& (12 : Int32))), .val (.ref b9), .val (.ref b16), .unset, .unset] [(.ref ol_45)])) ?_ (st45)
      refine own_go (T' := T45) (f' := (mkF m 87 #[.val (.long xa), .second, .val (.long xb), .second, .val (.long xc), .second, .val (.long xd), .second, .val (.int xe), .val (.long (own_v0_4_s0 xa xc xe)), .second, .val (.long (own_v0_19_s0 xb xd xe)), .second, .val (.int (xe &&& (12 : Int32))), .val (.ref b9), .val (.ref b16), .val (.ref ol_45), .unset] [])) ?_ (fun _ k => XS.astore X45.here hx rfl (hb hby at_85) rfl rfl (l' := #[.val (.long xa), .second, .val (.long xb), .second, .val (.long xc), .second, .val (.long xd), .second, .val (.int xe), .val (.long (own_v0_4_s0 xa xc xe)), .second, .val (.long (own_v0_19_s0 xb xd xe)), .second, .val (.int (xe &&& (12 : Int32))), .val (.ref b9), .val (.ref b16), .val (.ref ol_45), .unset]) rfl k)
      refine own_go (T' := T45) (f' := (mkF m 94 #[.val (.long xa), .second, .val (.long xb), .second, .val (.long xc), .second, .val (.long xd), .second, .val (.int xe), .val (.long (own_v0_4_s0 xa xc xe)), .second, .val (.long (own_v0_19_s0 xb xd xe)), .second, .val (.int (xe &&& (12 : Int32))), .val (.ref b9), .val (.ref b16), .val (.ref ol_45), .unset] [])) ?_ (fun _ k => XS.goto X45.here hx rfl (pc0 := 87) (pc' := 94) rfl (hb hby at_87) (by decide) (by decide) k)
      refine own_go (T' := T45) (f' := (mkF m 96 #[.val (.long xa), .second, .val (.long xb), .second, .val (.long xc), .second, .val (.long xd), .second, .val (.int xe), .val (.long (own_v0_4_s0 xa xc xe)), .second, .val (.long (own_v0_19_s0 xb xd xe)), .second, .val (.int (xe &&& (12 : Int32))), .val (.ref b9), .val (.ref b16), .val (.ref ol_45), .unset] [(.int (xe &&& (12 : Int32)))])) ?_ (fun _ k => XS.iload X45.here hx rfl (hb hby at_94) rfl  k)
      refine own_go (T' := T45) (f' := (mkF m 98 #[.val (.long xa), .second, .val (.long xb), .second, .val (.long xc), .second, .val (.long xd), .second, .val (.int xe), .val (.long (own_v0_4_s0 xa xc xe)), .second, .val (.long (own_v0_19_s0 xb xd xe)), .second, .val (.int (xe &&& (12 : Int32))), .val (.ref b9), .val (.ref b16), .val (.ref ol_45), .unset] [(.int (8 : Int32)), (.int (xe &&& (12 : Int32)))])) ?_ (fun _ k => XS.bipush X45.here hx rfl (hb hby at_96) k)
      obtain ⟨_, ⟨T53, L53, rfl, X53, e53, N53⟩, mg53⟩ : own_Goes p.tables e below (fun uu => ∃ (T' : State) (L' : List Loc), uu = T'.setTop (mkF m 120 #[.val (.long xa), .second, .val (.long xb), .second, .val (.long xc), .second, .val (.long xd), .second, .val (.int xe), .val (.long (own_v0_4_s0 xa xc xe)), .second, .val (.long (own_v0_19_s0 xb xd xe)), .second, .val (.int (xe &&& (12 : Int32))), .val (.ref b9), .val (.ref b16), .val (.ref ol_45), .unset] [(.int (own_v0_98_s0 xa xb xc xd xe))]) ∧ Stand p l e room_1 s m #[(.long xa), (.long xb), (.long xc), (.long xd), (.int xe)] below meth c T' L' 3 5 ∧ T'.heap = T45.heap ∧ Fr n0 L') T45 (mkF m 98 #[.val (.long xa), .second, .val (.long xb), .second, .val (.long xc), .second, .val (.long xd), .second, .val (.int xe), .val (.long (own_v0_4_s0 xa xc xe)), .second, .val (.long (own_v0_19_s0 xb xd xe)), .second, .val (.int (xe &&& (12 : Int32))), .val (.ref b9), .val (.ref b16), .val (.ref ol_45), .unset] [(.int (8 : Int32)), (.int (xe &&& (12 : Int32)))]) := by
        by_cases hc98_54 : (xe &&& (12 : Int32)) < (8 : Int32)
        · refine own_go (T' := T45) (f' := (mkF m 101 #[.val (.long xa), .second, .val (.long xb), .second, .val (.long xc), .second, .val (.long xd), .second, .val (.int xe), .val (.long (own_v0_4_s0 xa xc xe)), .second, .val (.long (own_v0_19_s0 xb xd xe)), .second, .val (.int (xe &&& (12 : Int32))), .val (.ref b9), .val (.ref b16), .val (.ref ol_45), .unset] [])) ?_ (fun _ k => XS.icmpNo X45.here hx rfl (hb hby at_98) rfl (tlt hc98_54).2.1 k)
          refine own_go (T' := T45) (f' := (mkF m 103 #[.val (.long xa), .second, .val (.long xb), .second, .val (.long xc), .second, .val (.long xd), .second, .val (.int xe), .val (.long (own_v0_4_s0 xa xc xe)), .second, .val (.long (own_v0_19_s0 xb xd xe)), .second, .val (.int (xe &&& (12 : Int32))), .val (.ref b9), .val (.ref b16), .val (.ref ol_45), .unset] [(.long (own_v0_4_s0 xa xc xe))])) ?_ (fun _ k => XS.lload X45.here hx rfl (hb hby at_101) rfl  k)
          refine own_go (T' := T45) (f' := (mkF m 104 #[.val (.long xa), .second, .val (.long xb), .second, .val (.long xc), .second, .val (.long xd), .second, .val (.int xe), .val (.long (own_v0_4_s0 xa xc xe)), .second, .val (.long (own_v0_19_s0 xb xd xe)), .second, .val (.int (xe &&& (12 : Int32))), .val (.ref b9), .val (.ref b16), .val (.ref ol_45), .unset] [(.long xa), (.long (own_v0_4_s0 xa xc xe))])) ?_ (fun _ k => XS.lloadN X45.here hx rfl (hb hby at_103) rfl  k)
          refine own_go (T' := T45) (f' := (mkF m 105 #[.val (.long xa), .second, .val (.long xb), .second, .val (.long xc), .second, .val (.long xd), .second, .val (.int xe), .val (.long (own_v0_4_s0 xa xc xe)), .second, .val (.long (own_v0_19_s0 xb xd xe)), .second, .val (.int (xe &&& (12 : Int32))), .val (.ref b9), .val (.ref b16), .val (.ref ol_45), .unset] [(.int (lcmpW (own_v0_4_s0 xa xc xe) xa))])) ?_ (fun _ k => XS.lcmp X45.here hx rfl (hb hby at_104) rfl k)
          by_cases hc105_55 : (lcmpW (own_v0_4_s0 xa xc xe) xa) = (0 : Int32)
          · refine own_go (T' := T45) (f' := (mkF m 108 #[.val (.long xa), .second, .val (.long xb), .second, .val (.long xc), .second, .val (.long xd), .second, .val (.int xe), .val (.long (own_v0_4_s0 xa xc xe)), .second, .val (.long (own_v0_19_s0 xb xd xe)), .second, .val (.int (xe &&& (12 : Int32))), .val (.ref b9), .val (.ref b16), .val (.ref ol_45), .unset] [])) ?_ (fun _ k => XS.ifNo X45.here hx rfl (hb hby at_105) rfl ((if0 _ _).trans (teq hc105_55).2) k)
            refine own_go (T' := T45) (f' := (mkF m 110 #[.val (.long xa), .second, .val (.long xb), .second, .val (.long xc), .second, .val (.long xd), .second, .val (.int xe), .val (.long (own_v0_4_s0 xa xc xe)), .second, .val (.long (own_v0_19_s0 xb xd xe)), .second, .val (.int (xe &&& (12 : Int32))), .val (.ref b9), .val (.ref b16), .val (.ref ol_45), .unset] [(.long (own_v0_19_s0 xb xd xe))])) ?_ (fun _ k => XS.lload X45.here hx rfl (hb hby at_108) rfl  k)
            refine own_go (T' := T45) (f' := (mkF m 111 #[.val (.long xa), .second, .val (.long xb), .second, .val (.long xc), .second, .val (.long xd), .second, .val (.int xe), .val (.long (own_v0_4_s0 xa xc xe)), .second, .val (.long (own_v0_19_s0 xb xd xe)), .second, .val (.int (xe &&& (12 : Int32))), .val (.ref b9), .val (.ref b16), .val (.ref ol_45), .unset] [(.long xb), (.long (own_v0_19_s0 xb xd xe))])) ?_ (fun _ k => XS.lloadN X45.here hx rfl (hb hby at_110) rfl  k)
            refine own_go (T' := T45) (f' := (mkF m 112 #[.val (.long xa), .second, .val (.long xb), .second, .val (.long xc), .second, .val (.long xd), .second, .val (.int xe), .val (.long (own_v0_4_s0 xa xc xe)), .second, .val (.long (own_v0_19_s0 xb xd xe)), .second, .val (.int (xe &&& (12 : Int32))), .val (.ref b9), .val (.ref b16), .val (.ref ol_45), .unset] [(.int (lcmpW (own_v0_19_s0 xb xd xe) xb))])) ?_ (fun _ k => XS.lcmp X45.here hx rfl (hb hby at_111) rfl k)
            by_cases hc112_56 : (lcmpW (own_v0_19_s0 xb xd xe) xb) = (0 : Int32)
            · refine own_go (T' := T45) (f' := (mkF m 115 #[.val (.long xa), .second, .val (.long xb), .second, .val (.long xc), .second, .val (.long xd), .second, .val (.int xe), .val (.long (own_v0_4_s0 xa xc xe)), .second, .val (.long (own_v0_19_s0 xb xd xe)), .second, .val (.int (xe &&& (12 : Int32))), .val (.ref b9), .val (.ref b16), .val (.ref ol_45), .unset] [])) ?_ (fun _ k => XS.ifNo X45.here hx rfl (hb hby at_112) rfl ((if0 _ _).trans (teq hc112_56).2) k)
              refine own_go (T' := T45) (f' := (mkF m 116 #[.val (.long xa), .second, .val (.long xb), .second, .val (.long xc), .second, .val (.long xd), .second, .val (.int xe), .val (.long (own_v0_4_s0 xa xc xe)), .second, .val (.long (own_v0_19_s0 xb xd xe)), .second, .val (.int (xe &&& (12 : Int32))), .val (.ref b9), .val (.ref b16), .val (.ref ol_45), .unset] [(.int (1 : Int32))])) ?_ (fun _ k => XS.iconst X45.here hx rfl (hb hby at_115) k)
              refine own_go (T' := T45) (f' := (mkF m 120 #[.val (.long xa), .second, .val (.long xb), .second, .val (.long xc), .second, .val (.long xd), .second, .val (.int xe), .val (.long (own_v0_4_s0 xa xc xe)), .second, .val (.long (own_v0_19_s0 xb xd xe)), .second, .val (.int (xe &&& (12 : Int32))), .val (.ref b9), .val (.ref b16), .val (.ref ol_45), .unset] [(.int (1 : Int32))])) ?_ (fun _ k => XS.goto X45.here hx rfl (pc0 := 116) (pc' := 120) rfl (hb hby at_116) (by decide) (by decide) k)
              have em57 : (own_v0_98_s0 xa xb xc xd xe) = (1 : Int32) := (Eq.trans (if_pos hc98_54) (Eq.trans (if_pos hc105_55) (if_pos hc112_56)))
              exact ⟨_, ⟨T45, _, (by rw [em57]), X45, rfl, N45⟩, fun _ k => k⟩
            · refine own_go (T' := T45) (f' := (mkF m 119 #[.val (.long xa), .second, .val (.long xb), .second, .val (.long xc), .second, .val (.long xd), .second, .val (.int xe), .val (.long (own_v0_4_s0 xa xc xe)), .second, .val (.long (own_v0_19_s0 xb xd xe)), .second, .val (.int (xe &&& (12 : Int32))), .val (.ref b9), .val (.ref b16), .val (.ref ol_45), .unset] [])) ?_ (fun _ k => XS.ifYes X45.here hx rfl (pc0 := 112) (pc' := 119) rfl (hb hby at_112) rfl ((if0 _ _).trans (feq hc112_56).2) (by decide) (by decide) k)
              refine own_go (T' := T45) (f' := (mkF m 120 #[.val (.long xa), .second, .val (.long xb), .second, .val (.long xc), .second, .val (.long xd), .second, .val (.int xe), .val (.long (own_v0_4_s0 xa xc xe)), .second, .val (.long (own_v0_19_s0 xb xd xe)), .second, .val (.int (xe &&& (12 : Int32))), .val (.ref b9), .val (.ref b16), .val (.ref ol_45), .unset] [(.int (0 : Int32))])) ?_ (fun _ k => XS.iconst X45.here hx rfl (hb hby at_119) k)
              have em58 : (own_v0_98_s0 xa xb xc xd xe) = (0 : Int32) := (Eq.trans (if_pos hc98_54) (Eq.trans (if_pos hc105_55) (if_neg hc112_56)))
              exact ⟨_, ⟨T45, _, (by rw [em58]), X45, rfl, N45⟩, fun _ k => k⟩
          · refine own_go (T' := T45) (f' := (mkF m 119 #[.val (.long xa), .second, .val (.long xb), .second, .val (.long xc), .second, .val (.long xd), .second, .val (.int xe), .val (.long (own_v0_4_s0 xa xc xe)), .second, .val (.long (own_v0_19_s0 xb xd xe)), .second, .val (.int (xe &&& (12 : Int32))), .val (.ref b9), .val (.ref b16), .val (.ref ol_45), .unset] [])) ?_ (fun _ k => XS.ifYes X45.here hx rfl (pc0 := 105) (pc' := 119) rfl (hb hby at_105) rfl ((if0 _ _).trans (feq hc105_55).2) (by decide) (by decide) k)
            refine own_go (T' := T45) (f' := (mkF m 120 #[.val (.long xa), .second, .val (.long xb), .second, .val (.long xc), .second, .val (.long xd), .second, .val (.int xe), .val (.long (own_v0_4_s0 xa xc xe)), .second, .val (.long (own_v0_19_s0 xb xd xe)), .second, .val (.int (xe &&& (12 : Int32))), .val (.ref b9), .val (.ref b16), .val (.ref ol_45), .unset] [(.int (0 : Int32))])) ?_ (fun _ k => XS.iconst X45.here hx rfl (hb hby at_119) k)
            have em59 : (own_v0_98_s0 xa xb xc xd xe) = (0 : Int32) := (Eq.trans (if_pos hc98_54) (if_neg hc105_55))
            exact ⟨_, ⟨T45, _, (by rw [em59]), X45, rfl, N45⟩, fun _ k => k⟩
        · refine own_go (T' := T45) (f' := (mkF m 119 #[.val (.long xa), .second, .val (.long xb), .second, .val (.long xc), .second, .val (.long xd), .second, .val (.int xe), .val (.long (own_v0_4_s0 xa xc xe)), .second, .val (.long (own_v0_19_s0 xb xd xe)), .second, .val (.int (xe &&& (12 : Int32))), .val (.ref b9), .val (.ref b16), .val (.ref ol_45), .unset] [])) ?_ (fun _ k => XS.icmpYes X45.here hx rfl (pc0 := 98) (pc' := 119) rfl (hb hby at_98) rfl (flt hc98_54).2.1 (by decide) (by decide) k)
          refine own_go (T' := T45) (f' := (mkF m 120 #[.val (.long xa), .second, .val (.long xb), .second, .val (.long xc), .second, .val (.long xd), .second, .val (.int xe), .val (.long (own_v0_4_s0 xa xc xe)), .second, .val (.long (own_v0_19_s0 xb xd xe)), .second, .val (.int (xe &&& (12 : Int32))), .val (.ref b9), .val (.ref b16), .val (.ref ol_45), .unset] [(.int (0 : Int32))])) ?_ (fun _ k => XS.iconst X45.here hx rfl (hb hby at_119) k)
          have em60 : (own_v0_98_s0 xa xb xc xd xe) = (0 : Int32) := (if_neg hc98_54)
          exact ⟨_, ⟨T45, _, (by rw [em60]), X45, rfl, N45⟩, fun _ k => k⟩
      refine own_go (T' := T53) (f' := (mkF m 120 #[.val (.long xa), .second, .val (.long xb), .second, .val (.long xc), .second, .val (.long xd), .second, .val (.int xe), .val (.long (own_v0_4_s0 xa xc xe)), .second, .val (.long (own_v0_19_s0 xb xd xe)), .second, .val (.int (xe &&& (12 : Int32))), .val (.ref b9), .val (.ref b16), .val (.ref ol_45), .unset] [(.int (own_v0_98_s0 xa xb xc xd xe))])) ?_ (mg53)
      refine own_go (T' := T53) (f' := (mkF m 122 #[.val (.long xa), .second, .val (.long xb), .second, .val (.long xc), .second, .val (.long xd), .second, .val (.int xe), .val (.long (own_v0_4_s0 xa xc xe)), .second, .val (.long (own_v0_19_s0 xb xd xe)), .second, .val (.int (xe &&& (12 : Int32))), .val (.ref b9), .val (.ref b16), .val (.ref ol_45), .val (.int (own_v0_98_s0 xa xb xc xd xe))] [])) ?_ (fun _ k => XS.istore X53.here hx rfl (hb hby at_120) rfl (l' := #[.val (.long xa), .second, .val (.long xb), .second, .val (.long xc), .second, .val (.long xd), .second, .val (.int xe), .val (.long (own_v0_4_s0 xa xc xe)), .second, .val (.long (own_v0_19_s0 xb xd xe)), .second, .val (.int (xe &&& (12 : Int32))), .val (.ref b9), .val (.ref b16), .val (.ref ol_45), .val (.int (own_v0_98_s0 xa xb xc xd xe))]) rfl k)
      refine own_go (T' := T53) (f' := (mkF m 124 #[.val (.long xa), .second, .val (.long xb), .second, .val (.long xc), .second, .val (.long xd), .second, .val (.int xe), .val (.long (own_v0_4_s0 xa xc xe)), .second, .val (.long (own_v0_19_s0 xb xd xe)), .second, .val (.int (xe &&& (12 : Int32))), .val (.ref b9), .val (.ref b16), .val (.ref ol_45), .val (.int (own_v0_98_s0 xa xb xc xd xe))] [(.ref b9)])) ?_ (fun _ k => XS.aload X53.here hx rfl (hb hby at_122) rfl rfl k)
      refine own_go (T' := T53) (f' := (mkF m 126 #[.val (.long xa), .second, .val (.long xb), .second, .val (.long xc), .second, .val (.long xd), .second, .val (.int xe), .val (.long (own_v0_4_s0 xa xc xe)), .second, .val (.long (own_v0_19_s0 xb xd xe)), .second, .val (.int (xe &&& (12 : Int32))), .val (.ref b9), .val (.ref b16), .val (.ref ol_45), .val (.int (own_v0_98_s0 xa xb xc xd xe))] [(.ref ol_45), (.ref b9)])) ?_ (fun _ k => XS.aload X53.here hx rfl (hb hby at_124) rfl rfl k)
      obtain ⟨cq61, kq61, qa61, qb61, qc61⟩ := isOf hZ e53 fa47
      obtain ⟨_, _, ⟨T61, L61, k61, n61⟩, -, X61, ⟨Lc61, hQ61, l61, y61, z61⟩, st61⟩ := X53.virtualBack hx (y := (⟨"com/example/halyard/halyard/protocol/MessageId", "equals", "(Ljava/lang/Object;)Z"⟩ : MethodName)) (z := (⟨"com/example/halyard/halyard/protocol/MessageId", "equals", "(Ljava/lang/Object;)Z"⟩ : MethodName)) hown (mvT hZ (hw _ (List.mem_of_getElem? (i := 18) rfl))) (mvT hZ (hw _ (List.mem_of_getElem? (i := 19) rfl))) (notFace_of_selects (args := #[]) (mvT hZ (hw _ (List.mem_of_getElem? (i := 21) rfl)))) (mvT hZ (hw _ (List.mem_of_getElem? (i := 21) rfl))) (mvT hZ (hw _ (List.mem_of_getElem? (i := 20) rfl))) (by decide) (backOf (W := 0) (own_rm5 l Z a0 hw [] b9 ol_45 T45.heap n0 ZZ45 P45_0) hZ (hw _ (List.mem_of_getElem? (i := 22) rfl)) (hw _ (List.mem_of_getElem? (i := 2) rfl)) (by decide) (by decide)) qa61 qc61 (g := (mkF m 126 #[.val (.long xa), .second, .val (.long xb), .second, .val (.long xc), .second, .val (.long xd), .second, .val (.int xe), .val (.long (own_v0_4_s0 xa xc xe)), .second, .val (.long (own_v0_19_s0 xb xd xe)), .second, .val (.int (xe &&& (12 : Int32))), .val (.ref b9), .val (.ref b16), .val (.ref ol_45), .val (.int (own_v0_98_s0 xa xb xc xd xe))] [(.ref ol_45), (.ref b9)])) rfl (by rw [hml]; rfl) (Steps.refl _) (argsL := [(.ref ol_45)]) (rest := []) (lenOf own_pd3 rfl) rfl (by show 2 * 0 + _ ≤ _; exact Nat.le_of_eq rfl) (hb hby at_126) (fun _ _ => ⟨rfl, e53, (by decide : 3 + 0 ≤ _), (by decide : 5 + 0 ≤ _)⟩)
      dsimp only [Pt.U, Pt.locs, Pt.cells, Pt.slots] at X61 l61 y61 z61 st61 hQ61
      subst y61 z61
      obtain ⟨rfl, N61q, e61⟩ := hQ61
      have N61 : Fr n0 L61 := l61 ▸ Fr.app N53 N61q
      refine own_go (T' := T61) (f' := (mkF m 129 #[.val (.long xa), .second, .val (.long xb), .second, .val (.long xc), .second, .val (.long xd), .second, .val (.int xe), .val (.long (own_v0_4_s0 xa xc xe)), .second, .val (.long (own_v0_19_s0 xb xd xe)), .second, .val (.int (xe &&& (12 : Int32))), .val (.ref b9), .val (.ref b16), .val (.ref ol_45), .val (.int (own_v0_98_s0 xa xb xc xd xe))] [(.int own_f5)])) ?_ (fun _ k => st61.trans k)
      refine own_go (T' := T61) (f' := (mkF m 131 #[.val (.long xa), .second, .val (.long xb), .second, .val (.long xc), .second, .val (.long xd), .second, .val (.int xe), .val (.long (own_v0_4_s0 xa xc xe)), .second, .val (.long (own_v0_19_s0 xb xd xe)), .second, .val (.int (xe &&& (12 : Int32))), .val (.ref b9), .val (.ref b16), .val (.ref ol_45), .val (.int (own_v0_98_s0 xa xb xc xd xe))] [(.int (own_v0_98_s0 xa xb xc xd xe)), (.int own_f5)])) ?_ (fun _ k => XS.iload X61.here hx rfl (hb hby at_129) rfl  k)
      obtain ⟨_, ⟨T62, L62, rfl, X62, e62, N62⟩, mg62⟩ : own_Goes p.tables e below (fun uu => ∃ (T' : State) (L' : List Loc), uu = T'.setTop (mkF m 139 #[.val (.long xa), .second, .val (.long xb), .second, .val (.long xc), .second, .val (.long xd), .second, .val (.int xe), .val (.long (own_v0_4_s0 xa xc xe)), .second, .val (.long (own_v0_19_s0 xb xd xe)), .second, .val (.int (xe &&& (12 : Int32))), .val (.ref b9), .val (.ref b16), .val (.ref ol_45), .val (.int (own_v0_98_s0 xa xb xc xd xe))] [(.int (own_v0_131_s0_2 xa xb xc xd xe))]) ∧ Stand p l e room_1 s m #[(.long xa), (.long xb), (.long xc), (.long xd), (.int xe)] below meth c T' L' 3 5 ∧ T'.heap = T45.heap ∧ Fr n0 L') T61 (mkF m 131 #[.val (.long xa), .second, .val (.long xb), .second, .val (.long xc), .second, .val (.long xd), .second, .val (.int xe), .val (.long (own_v0_4_s0 xa xc xe)), .second, .val (.long (own_v0_19_s0 xb xd xe)), .second, .val (.int (xe &&& (12 : Int32))), .val (.ref b9), .val (.ref b16), .val (.ref ol_45), .val (.int (own_v0_98_s0 xa xb xc xd xe))] [(.int (own_v0_98_s0 xa xb xc xd xe)), (.int own_f5)]) := by
        by_cases hc131_63 : own_f5 = (own_v0_98_s0 xa xb xc xd xe)
        · refine own_go (T' := T61) (f' := (mkF m 134 #[.val (.long xa), .second, .val (.long xb), .second, .val (.long xc), .second, .val (.long xd), .second, .val (.int xe), .val (.long (own_v0_4_s0 xa xc xe)), .second, .val (.long (own_v0_19_s0 xb xd xe)), .second, .val (.int (xe &&& (12 : Int32))), .val (.ref b9), .val (.ref b16), .val (.ref ol_45), .val (.int (own_v0_98_s0 xa xb xc xd xe))] [])) ?_ (fun _ k => XS.icmpNo X61.here hx rfl (hb hby at_131) rfl (teq hc131_63).2 k)
          refine own_go (T' := T61) (f' := (mkF m 135 #[.val (.long xa), .second, .val (.long xb), .second, .val (.long xc), .second, .val (.long xd), .second, .val (.int xe), .val (.long (own_v0_4_s0 xa xc xe)), .second, .val (.long (own_v0_19_s0 xb xd xe)), .second, .val (.int (xe &&& (12 : Int32))), .val (.ref b9), .val (.ref b16), .val (.ref ol_45), .val (.int (own_v0_98_s0 xa xb xc xd xe))] [(.int (1 : Int32))])) ?_ (fun _ k => XS.iconst X61.here hx rfl (hb hby at_134) k)
          refine own_go (T' := T61) (f' := (mkF m 139 #[.val (.long xa), .second, .val (.long xb), .second, .val (.long xc), .second, .val (.long xd), .second, .val (.int xe), .val (.long (own_v0_4_s0 xa xc xe)), .second, .val (.long (own_v0_19_s0 xb xd xe)), .second, .val (.int (xe &&& (12 : Int32))), .val (.ref b9), .val (.ref b16), .val (.ref ol_45), .val (.int (own_v0_98_s0 xa xb xc xd xe))] [(.int (1 : Int32))])) ?_ (fun _ k => XS.goto X61.here hx rfl (pc0 := 135) (pc' := 139) rfl (hb hby at_135) (by decide) (by decide) k)
          have em64 : (own_v0_131_s0_2 xa xb xc xd xe) = (1 : Int32) := (if_pos hc131_63)
          exact ⟨_, ⟨T61, _, (by rw [em64]), X61, e61, N61⟩, fun _ k => k⟩
        · refine own_go (T' := T61) (f' := (mkF m 138 #[.val (.long xa), .second, .val (.long xb), .second, .val (.long xc), .second, .val (.long xd), .second, .val (.int xe), .val (.long (own_v0_4_s0 xa xc xe)), .second, .val (.long (own_v0_19_s0 xb xd xe)), .second, .val (.int (xe &&& (12 : Int32))), .val (.ref b9), .val (.ref b16), .val (.ref ol_45), .val (.int (own_v0_98_s0 xa xb xc xd xe))] [])) ?_ (fun _ k => XS.icmpYes X61.here hx rfl (pc0 := 131) (pc' := 138) rfl (hb hby at_131) rfl (feq hc131_63).2 (by decide) (by decide) k)
          refine own_go (T' := T61) (f' := (mkF m 139 #[.val (.long xa), .second, .val (.long xb), .second, .val (.long xc), .second, .val (.long xd), .second, .val (.int xe), .val (.long (own_v0_4_s0 xa xc xe)), .second, .val (.long (own_v0_19_s0 xb xd xe)), .second, .val (.int (xe &&& (12 : Int32))), .val (.ref b9), .val (.ref b16), .val (.ref ol_45), .val (.int (own_v0_98_s0 xa xb xc xd xe))] [(.int (0 : Int32))])) ?_ (fun _ k => XS.iconst X61.here hx rfl (hb hby at_138) k)
          have em65 : (own_v0_131_s0_2 xa xb xc xd xe) = (0 : Int32) := (if_neg hc131_63)
          exact ⟨_, ⟨T61, _, (by rw [em65]), X61, e61, N61⟩, fun _ k => k⟩
      refine own_go (T' := T62) (f' := (mkF m 139 #[.val (.long xa), .second, .val (.long xb), .second, .val (.long xc), .second, .val (.long xd), .second, .val (.int xe), .val (.long (own_v0_4_s0 xa xc xe)), .second, .val (.long (own_v0_19_s0 xb xd xe)), .second, .val (.int (xe &&& (12 : Int32))), .val (.ref b9), .val (.ref b16), .val (.ref ol_45), .val (.int (own_v0_98_s0 xa xb xc xd xe))] [(.int (own_v0_131_s0_2 xa xb xc xd xe))])) ?_ (mg62)
      obtain ⟨fs66, hr66, hrun66, hended66, hW66, hsame66⟩ := X62.leave (v := some (.int (own_v0_131_s0_2 xa xb xc xd xe))) (fun h => by rw [Bd.returns] at h; cases h)
      refine ⟨_, ⟨_, hrun66, hended66, _, _, rfl, ?_, ⟨_, rfl⟩, hW66, hsame66.mono (by decide) (by decide)⟩, fun _ k => (own_retZ X62 hx Bd.returns (own_b0_131_s0_2 xa xb xc xd xe) (hb hby at_139) hr66).trans k⟩
      show own_Q0 Z xa xb xc xd xe oc h0 n0 _ T62.heap _
      rw [e62]
      exact ⟨(congrArg (fun z => some (Value.int z)) (show (own_v0_131_s0_2 xa xb xc xd xe) = (own_f0 xa xb xc xd xe) from ((Eq.trans (if_neg hc65_29) (if_pos hc78_44))).symm)), N62⟩
    · refine own_go (T' := T21) (f' := (mkF m 90 #[.val (.long xa), .second, .val (.long xb), .second, .val (.long xc), .second, .val (.long xd), .second, .val (.int xe), .val (.long (own_v0_4_s0 xa xc xe)), .second, .val (.long (own_v0_19_s0 xb xd xe)), .second, .val (.int (xe &&& (12 : Int32))), .val (.ref b9), .val (.ref b16), .unset, .unset] [])) ?_ (fun _ k => XS.icmpYes X21.here hx rfl (pc0 := 78) (pc' := 90) rfl (hb hby at_78) rfl (feq hc78_44).2 (by decide) (by decide) k)
      refine own_go (T' := T21) (f' := (mkF m 92 #[.val (.long xa), .second, .val (.long xb), .second, .val (.long xc), .second, .val (.long xd), .second, .val (.int xe), .val (.long (own_v0_4_s0 xa xc xe)), .second, .val (.long (own_v0_19_s0 xb xd xe)), .second, .val (.int (xe &&& (12 : Int32))), .val (.ref b9), .val (.ref b16), .unset, .unset] [(.ref b16)])) ?_ (fun _ k => XS.aload X21.here hx rfl (hb hby at_90) rfl rfl k)
      refine own_go (T' := T21) (f' := (mkF m 94 #[.val (.long xa), .second, .val (.long xb), .second, .val (.long xc), .second, .val (.long xd), .second, .val (.int xe), .val (.long (own_v0_4_s0 xa xc xe)), .second, .val (.long (own_v0_19_s0 xb xd xe)), .second, .val (.int (xe &&& (12 : Int32))), .val (.ref b9), .val (.ref b16), .val (.ref b16), .unset] [])) ?_ (fun _ k => XS.astore X21.here hx rfl (hb hby at_92) rfl rfl (l' := #[.val (.long xa), .second, .val (.long xb), .second, .val (.long xc), .second, .val (.long xd), .second, .val (.int xe), .val (.long (own_v0_4_s0 xa xc xe)), .second, .val (.long (own_v0_19_s0 xb xd xe)), .second, .val (.int (xe &&& (12 : Int32))), .val (.ref b9), .val (.ref b16), .val (.ref b16), .unset]) rfl k)
      refine own_go (T' := T21) (f' := (mkF m 96 #[.val (.long xa), .second, .val (.long xb), .second, .val (.long xc), .second, .val (.long xd), .second, .val (.int xe), .val (.long (own_v0_4_s0 xa xc xe)), .second, .val (.long (own_v0_19_s0 xb xd xe)), .second, .val (.int (xe &&& (12 : Int32))), .val (.ref b9), .val (.ref b16), .val (.ref b16), .unset] [(.int (xe &&& (12 : Int32)))])) ?_ (fun _ k => XS.iload X21.here hx rfl (hb hby at_94) rfl  k)
      refine own_go (T' := T21) (f' := (mkF m 98 #[.val (.long xa), .second, .val (.long xb), .second, .val (.long xc), .second, .val (.long xd), .second, .val (.int xe), .val (.long (own_v0_4_s0 xa xc xe)), .second, .val (.long (own_v0_19_s0 xb xd xe)), .second, .val (.int (xe &&& (12 : Int32))), .val (.ref b9), .val (.ref b16), .val (.ref b16), .unset] [(.int (8 : Int32)), (.int (xe &&& (12 : Int32)))])) ?_ (fun _ k => XS.bipush X21.here hx rfl (hb hby at_96) k)
      obtain ⟨_, ⟨T67, L67, rfl, X67, e67, N67⟩, mg67⟩ : own_Goes p.tables e below (fun uu => ∃ (T' : State) (L' : List Loc), uu = T'.setTop (mkF m 120 #[.val (.long xa), .second, .val (.long xb), .second, .val (.long xc), .second, .val (.long xd), .second, .val (.int xe), .val (.long (own_v0_4_s0 xa xc xe)), .second, .val (.long (own_v0_19_s0 xb xd xe)), .second, .val (.int (xe &&& (12 : Int32))), .val (.ref b9), .val (.ref b16), .val (.ref b16), .unset] [(.int (own_v0_98_s0 xa xb xc xd xe))]) ∧ Stand p l e room_1 s m #[(.long xa), (.long xb), (.long xc), (.long xd), (.int xe)] below meth c T' L' 2 4 ∧ T'.heap = T21.heap ∧ Fr n0 L') T21 (mkF m 98 #[.val (.long xa), .second, .val (.long xb), .second, .val (.long xc), .second, .val (.long xd), .second, .val (.int xe), .val (.long (own_v0_4_s0 xa xc xe)), .second, .val (.long (own_v0_19_s0 xb xd xe)), .second, .val (.int (xe &&& (12 : Int32))), .val (.ref b9), .val (.ref b16), .val (.ref b16), .unset] [(.int (8 : Int32)), (.int (xe &&& (12 : Int32)))]) := by
        by_cases hc98_68 : (xe &&& (12 : Int32)) < (8 : Int32)
        · refine own_go (T' := T21) (f' := (mkF m 101 #[.val (.long xa), .second, .val (.long xb), .second, .val (.long xc), .second, .val (.long xd), .second, .val (.int xe), .val (.long (own_v0_4_s0 xa xc xe)), .second, .val (.long (own_v0_19_s0 xb xd xe)), .second, .val (.int (xe &&& (12 : Int32))), .val (.ref b9), .val (.ref b16), .val (.ref b16), .unset] [])) ?_ (fun _ k => XS.icmpNo X21.here hx rfl (hb hby at_98) rfl (tlt hc98_68).2.1 k)
          refine own_go (T' := T21) (f' := (mkF m 103 #[.val (.long xa), .second, .val (.long xb), .second, .val (.long xc), .second, .val (.long xd), .second, .val (.int xe), .val (.long (own_v0_4_s0 xa xc xe)), .second, .val (.long (own_v0_19_s0 xb xd xe)), .second, .val (.int (xe &&& (12 : Int32))), .val (.ref b9), .val (.ref b16), .val (.ref b16), .unset] [(.long (own_v0_4_s0 xa xc xe))])) ?_ (fun _ k => XS.lload X21.here hx rfl (hb hby at_101) rfl  k)
          refine own_go (T' := T21) (f' := (mkF m 104 #[.val (.long xa), .second, .val (.long xb), .second, .val (.long xc), .second, .val (.long xd), .second, .val (.int xe), .val (.long (own_v0_4_s0 xa xc xe)), .second, .val (.long (own_v0_19_s0 xb xd xe)), .second, .val (.int (xe &&& (12 : Int32))), .val (.ref b9), .val (.ref b16), .val (.ref b16), .unset] [(.long xa), (.long (own_v0_4_s0 xa xc xe))])) ?_ (fun _ k => XS.lloadN X21.here hx rfl (hb hby at_103) rfl  k)
          refine own_go (T' := T21) (f' := (mkF m 105 #[.val (.long xa), .second, .val (.long xb), .second, .val (.long xc), .second, .val (.long xd), .second, .val (.int xe), .val (.long (own_v0_4_s0 xa xc xe)), .second, .val (.long (own_v0_19_s0 xb xd xe)), .second, .val (.int (xe &&& (12 : Int32))), .val (.ref b9), .val (.ref b16), .val (.ref b16), .unset] [(.int (lcmpW (own_v0_4_s0 xa xc xe) xa))])) ?_ (fun _ k => XS.lcmp X21.here hx rfl (hb hby at_104) rfl k)
          by_cases hc105_69 : (lcmpW (own_v0_4_s0 xa xc xe) xa) = (0 : Int32)
          · refine own_go (T' := T21) (f' := (mkF m 108 #[.val (.long xa), .second, .val (.long xb), .second, .val (.long xc), .second, .val (.long xd), .second, .val (.int xe), .val (.long (own_v0_4_s0 xa xc xe)), .second, .val (.long (own_v0_19_s0 xb xd xe)), .second, .val (.int (xe &&& (12 : Int32))), .val (.ref b9), .val (.ref b16), .val (.ref b16), .unset] [])) ?_ (fun _ k => XS.ifNo X21.here hx rfl (hb hby at_105) rfl ((if0 _ _).trans (teq hc105_69).2) k)
            refine own_go (T' := T21) (f' := (mkF m 110 #[.val (.long xa), .second, .val (.long xb), .second, .val (.long xc), .second, .val (.long xd), .second, .val (.int xe), .val (.long (own_v0_4_s0 xa xc xe)), .second, .val (.long (own_v0_19_s0 xb xd xe)), .second, .val (.int (xe &&& (12 : Int32))), .val (.ref b9), .val (.ref b16), .val (.ref b16), .unset] [(.long (own_v0_19_s0 xb xd xe))])) ?_ (fun _ k => XS.lload X21.here hx rfl (hb hby at_108) rfl  k)
            refine own_go (T' := T21) (f' := (mkF m 111 #[.val (.long xa), .second, .val (.long xb), .second, .val (.long xc), .second, .val (.long xd), .second, .val (.int xe), .val (.long (own_v0_4_s0 xa xc xe)), .second, .val (.long (own_v0_19_s0 xb xd xe)), .second, .val (.int (xe &&& (12 : Int32))), .val (.ref b9), .val (.ref b16), .val (.ref b16), .unset] [(.long xb), (.long (own_v0_19_s0 xb xd xe))])) ?_ (fun _ k => XS.lloadN X21.here hx rfl (hb hby at_110) rfl  k)
            refine own_go (T' := T21) (f' := (mkF m 112 #[.val (.long xa), .second, .val (.long xb), .second, .val (.long xc), .second, .val (.long xd), .second, .val (.int xe), .val (.long (own_v0_4_s0 xa xc xe)), .second, .val (.long (own_v0_19_s0 xb xd xe)), .second, .val (.int (xe &&& (12 : Int32))), .val (.ref b9), .val (.ref b16), .val (.ref b16), .unset] [(.int (lcmpW (own_v0_19_s0 xb xd xe) xb))])) ?_ (fun _ k => XS.lcmp X21.here hx rfl (hb hby at_111) rfl k)
            by_cases hc112_70 : (lcmpW (own_v0_19_s0 xb xd xe) xb) = (0 : Int32)
            · refine own_go (T' := T21) (f' := (mkF m 115 #[.val (.long xa), .second, .val (.long xb), .second, .val (.long xc), .second, .val (.long xd), .second, .val (.int xe), .val (.long (own_v0_4_s0 xa xc xe)), .second, .val (.long (own_v0_19_s0 xb xd xe)), .second, .val (.int (xe &&& (12 : Int32))), .val (.ref b9), .val (.ref b16), .val (.ref b16), .unset] [])) ?_ (fun _ k => XS.ifNo X21.here hx rfl (hb hby at_112) rfl ((if0 _ _).trans (teq hc112_70).2) k)
              refine own_go (T' := T21) (f' := (mkF m 116 #[.val (.long xa), .second, .val (.long xb), .second, .val (.long xc), .second, .val (.long xd), .second, .val (.int xe), .val (.long (own_v0_4_s0 xa xc xe)), .second, .val (.long (own_v0_19_s0 xb xd xe)), .second, .val (.int (xe &&& (12 : Int32))), .val (.ref b9), .val (.ref b16), .val (.ref b16), .unset] [(.int (1 : Int32))])) ?_ (fun _ k => XS.iconst X21.here hx rfl (hb hby at_115) k)
              refine own_go (T' := T21) (f' := (mkF m 120 #[.val (.long xa), .second, .val (.long xb), .second, .val (.long xc), .second, .val (.long xd), .second, .val (.int xe), .val (.long (own_v0_4_s0 xa xc xe)), .second, .val (.long (own_v0_19_s0 xb xd xe)), .second, .val (.int (xe &&& (12 : Int32))), .val (.ref b9), .val (.ref b16), .val (.ref b16), .unset] [(.int (1 : Int32))])) ?_ (fun _ k => XS.goto X21.here hx rfl (pc0 := 116) (pc' := 120) rfl (hb hby at_116) (by decide) (by decide) k)
              have em71 : (own_v0_98_s0 xa xb xc xd xe) = (1 : Int32) := (Eq.trans (if_pos hc98_68) (Eq.trans (if_pos hc105_69) (if_pos hc112_70)))
              exact ⟨_, ⟨T21, _, (by rw [em71]), X21, rfl, N21⟩, fun _ k => k⟩
            · refine own_go (T' := T21) (f' := (mkF m 119 #[.val (.long xa), .second, .val (.long xb), .second, .val (.long xc), .second, .val (.long xd), .second, .val (.int xe), .val (.long (own_v0_4_s0 xa xc xe)), .second, .val (.long (own_v0_19_s0 xb xd xe)), .second, .val (.int (xe &&& (12 : Int32))), .val (.ref b9), .val (.ref b16), .val (.ref b16), .unset] [])) ?_ (fun _ k => XS.ifYes X21.here hx rfl (pc0 := 112) (pc' := 119) rfl (hb hby at_112) rfl ((if0 _ _).trans (feq hc112_70).2) (by decide) (by decide) k)
              refine own_go (T' := T21) (f' := (mkF m 120 #[.val (.long xa), .second, .val (.long xb), .second, .val (.long xc), .second, .val (.long xd), .second, .val (.int xe), .val (.long (own_v0_4_s0 xa xc xe)), .second, .val (.long (own_v0_19_s0 xb xd xe)), .second, .val (.int (xe &&& (12 : Int32))), .val (.ref b9), .val (.ref b16), .val (.ref b16), .unset] [(.int (0 : Int32))])) ?_ (fun _ k => XS.iconst X21.here hx rfl (hb hby at_119) k)
              have em72 : (own_v0_98_s0 xa xb xc xd xe) = (0 : Int32) := (Eq.trans (if_pos hc98_68) (Eq.trans (if_pos hc105_69) (if_neg hc112_70)))
              exact ⟨_, ⟨T21, _, (by rw [em72]), X21, rfl, N21⟩, fun _ k => k⟩
          · refine own_go (T' := T21) (f' := (mkF m 119 #[.val (.long xa), .second, .val (.long xb), .second, .val (.long xc), .second, .val (.long xd), .second, .val (.int xe), .val (.long (own_v0_4_s0 xa xc xe)), .second, .val (.long (own_v0_19_s0 xb xd xe)), .second, .val (.int (xe &&& (12 : Int32))), .val (.ref b9), .val (.ref b16), .val (.ref b16), .unset] [])) ?_ (fun _ k => XS.ifYes X21.here hx rfl (pc0 := 105) (pc' := 119) rfl (hb hby at_105) rfl ((if0 _ _).trans (feq hc105_69).2) (by decide) (by decide) k)
            refine own_go (T' := T21) (f' := (mkF m 120 #[.val (.long xa), .second, .val (.long xb), .second, .val (.long xc), .second, .val (.long xd), .second, .val (.int xe), .val (.long (own_v0_4_s0 xa xc xe)), .second, .val (.long (own_v0_19_s0 xb xd xe)), .second, .val (.int (xe &&& (12 : Int32))), .val (.ref b9), .val (.ref b16), .val (.ref b16), .unset] [(.int (0 : Int32))])) ?_ (fun _ k => XS.iconst X21.here hx rfl (hb hby at_119) k)
            have em73 : (own_v0_98_s0 xa xb xc xd xe) = (0 : Int32) := (Eq.trans (if_pos hc98_68) (if_neg hc105_69))
            exact ⟨_, ⟨T21, _, (by rw [em73]), X21, rfl, N21⟩, fun _ k => k⟩
        · refine own_go (T' := T21) (f' := (mkF m 119 #[.val (.long xa), .second, .val (.long xb), .second, .val (.long xc), .second, .val (.long xd), .second, .val (.int xe), .val (.long (own_v0_4_s0 xa xc xe)), .second, .val (.long (own_v0_19_s0 xb xd xe)), .second, .val (.int (xe &&& (12 : Int32))), .val (.ref b9), .val (.ref b16), .val (.ref b16), .unset] [])) ?_ (fun _ k => XS.icmpYes X21.here hx rfl (pc0 := 98) (pc' := 119) rfl (hb hby at_98) rfl (flt hc98_68).2.1 (by decide) (by decide) k)
          refine own_go (T' := T21) (f' := (mkF m 120 #[.val (.long xa), .second, .val (.long xb), .second, .val (.long xc), .second, .val (.long xd), .second, .val (.int xe), .val (.long (own_v0_4_s0 xa xc xe)), .second, .val (.long (own_v0_19_s0 xb xd xe)), .second, .val (.int (xe &&& (12 : Int32))), .val (.ref b9), .val (.ref b16), .val (.ref b16), .unset] [(.int (0 : Int32))])) ?_ (fun _ k => XS.iconst X21.here hx rfl (hb hby at_119) k)
          have em74 : (own_v0_98_s0 xa xb xc xd xe) = (0 : Int32) := (if_neg hc98_68)
          exact ⟨_, ⟨T21, _, (by rw [em74]), X21, rfl, N21⟩, fun _ k => k⟩
      refine own_go (T' := T67) (f' := (mkF m 120 #[.val (.long xa), .second, .val (.long xb), .second, .val (.long xc), .second, .val (.long xd), .second, .val (.int xe), .val (.long (own_v0_4_s0 xa xc xe)), .second, .val (.long (own_v0_19_s0 xb xd xe)), .second, .val (.int (xe &&& (12 : Int32))), .val (.ref b9), .val (.ref b16), .val (.ref b16), .unset] [(.int (own_v0_98_s0 xa xb xc xd xe))])) ?_ (mg67)
      refine own_go (T' := T67) (f' := (mkF m 122 #[.val (.long xa), .second, .val (.long xb), .second, .val (.long xc), .second, .val (.long xd), .second, .val (.int xe), .val (.long (own_v0_4_s0 xa xc xe)), .second, .val (.long (own_v0_19_s0 xb xd xe)), .second, .val (.int (xe &&& (12 : Int32))), .val (.ref b9), .val (.ref b16), .val (.ref b16), .val (.int (own_v0_98_s0 xa xb xc xd xe))] [])) ?_ (fun _ k => XS.istore X67.here hx rfl (hb hby at_120) rfl (l' := #[.val (.long xa), .second, .val (.long xb), .second, .val (.long xc), .second, .val (.long xd), .second, .val (.int xe), .val (.long (own_v0_4_s0 xa xc xe)), .second, .val (.long (own_v0_19_s0 xb xd xe)), .second, .val (.int (xe &&& (12 : Int32))), .val (.ref b9), .val (.ref b16), .val (.ref b16), .val (.int (own_v0_98_s0 xa xb xc xd xe))]) rfl k)
      refine own_go (T' := T67) (f' := (mkF m 124 #[.val (.long xa), .second, .val (.long xb), .second, .val (.long xc), .second, .val (.long xd), .second, .val (.int xe), .val (.long (own_v0_4_s0 xa xc xe)), .second, .val (.long (own_v0_19_s0 xb xd xe)), .second, .val (.int (xe &&& (12 : Int32))), .val (.ref b9), .val (.ref b16), .val (.ref b16), .val (.int (own_v0_98_s0 xa xb xc xd xe))] [(.ref b9)])) ?_ (fun _ k => XS.aload X67.here hx rfl (hb hby at_122) rfl rfl k)
      refine own_go (T' := T67) (f' := (mkF m 126 #[.val (.long xa), .second, .val (.long xb), .second, .val (.long xc), .second, .val (.long xd), .second, .val (.int xe), .val (.long (own_v0_4_s0 xa xc xe)), .second, .val (.long (own_v0_19_s0 xb xd xe)), .second, .val (.int (xe &&& (12 : Int32))), .val (.ref b9), .val (.ref b16), .val (.ref b16), .val (.int (own_v0_98_s0 xa xb xc xd xe))] [(.ref b16), (.ref b9)])) ?_ (fun _ k => XS.aload X67.here hx rfl (hb hby at_124) rfl rfl k)
      obtain ⟨cq75, kq75, qa75, qb75, qc75⟩ := isOf hZ e67 fa23
      obtain ⟨_, _, ⟨T75, L75, k75, n75⟩, -, X75, ⟨Lc75, hQ75, l75, y75, z75⟩, st75⟩ := X67.virtualBack hx (y := (⟨"com/example/halyard/halyard/protocol/MessageId", "equals", "(Ljava/lang/Object;)Z"⟩ : MethodName)) (z := (⟨"com/example/halyard/halyard/protocol/MessageId", "equals", "(Ljava/lang/Object;)Z"⟩ : MethodName)) hown (mvT hZ (hw _ (List.mem_of_getElem? (i := 18) rfl))) (mvT hZ (hw _ (List.mem_of_getElem? (i := 19) rfl))) (notFace_of_selects (args := #[]) (mvT hZ (hw _ (List.mem_of_getElem? (i := 21) rfl)))) (mvT hZ (hw _ (List.mem_of_getElem? (i := 21) rfl))) (mvT hZ (hw _ (List.mem_of_getElem? (i := 20) rfl))) (by decide) (backOf (W := 0) (own_rm4 l Z a0 hw [] b9 b16 xa xb (own_v0_4_s0 xa xc xe) (own_v0_19_s0 xb xd xe) T21.heap n0 ZZ21 fa24 fa25 fa26 P21_0 P21_1) hZ (hw _ (List.mem_of_getElem? (i := 22) rfl)) (hw _ (List.mem_of_getElem? (i := 2) rfl)) (by decide) (by decide)) qa75 qc75 (g := (mkF m 126 #[.val (.long xa), .second, .val (.long xb), .second, .val (.long xc), .second, .val (.long xd), .second, .val (.int xe), .val (.long (own_v0_4_s0 xa xc xe)), .second, .val (.long (own_v0_19_s0 xb xd xe)), .second, .val (.int (xe &&& (12 : Int32))), .val (.ref b9), .val (.ref b16), .val (.ref b16), .val (.int (own_v0_98_s0 xa xb xc xd xe))] [(.ref b16), (.ref b9)])) rfl (by rw [hml]; rfl) (Steps.refl _) (argsL := [(.ref b16)]) (rest := []) (lenOf own_pd3 rfl) rfl (by show 2 * 0 + _ ≤ _; exact Nat.le_of_eq rfl) (hb hby at_126) (fun _ _ => ⟨rfl, e67, (by decide : 2 + 0 ≤ _), (by decide : 4 + 0 ≤ _)⟩)
      dsimp only [Pt.U, Pt.locs, Pt.cells, Pt.slots] at X75 l75 y75 z75 st75 hQ75
      subst y75 z75
      obtain ⟨rfl, N75q, e75⟩ := hQ75
      have N75 : Fr n0 L75 := l75 ▸ Fr.app N67 N75q
      refine own_go (T' := T75) (f' := (mkF m 129 #[.val (.long xa), .second, .val (.long xb), .second, .val (.long xc), .second, .val (.long xd), .second, .val (.int xe), .val (.long (own_v0_4_s0 xa xc xe)), .second, .val (.long (own_v0_19_s0 xb xd xe)), .second, .val (.int (xe &&& (12 : Int32))), .val (.ref b9), .val (.ref b16), .val (.ref b16), .val (.int (own_v0_98_s0 xa xb xc xd xe))] [(.int (own_f4 xa xb (own_v0_4_s0 xa xc xe) (own_v0_19_s0 xb xd xe)))])) ?_ (fun _ k => st75.trans k)
      refine own_go (T' := T75) (f' := (mkF m 131 #[.val (.long xa), .second, .val (.long xb), .second, .val (.long xc), .second, .val (.long xd), .second, .val (.int xe), .val (.long (own_v0_4_s0 xa xc xe)), .second, .val (.long (own_v0_19_s0 xb xd xe)), .second, .val (.int (xe &&& (12 : Int32))), .val (.ref b9), .val (.ref b16), .val (.ref b16), .val (.int (own_v0_98_s0 xa xb xc xd xe))] [(.int (own_v0_98_s0 xa xb xc xd xe)), (.int (own_f4 xa xb (own_v0_4_s0 xa xc xe) (own_v0_19_s0 xb xd xe)))])) ?_ (fun _ k => XS.iload X75.here hx rfl (hb hby at_129) rfl  k)
      obtain ⟨_, ⟨T76, L76, rfl, X76, e76, N76⟩, mg76⟩ : own_Goes p.tables e below (fun uu => ∃ (T' : State) (L' : List Loc), uu = T'.setTop (mkF m 139 #[.val (.long xa), .second, .val (.long xb), .second, .val (.long xc), .second, .val (.long xd), .second, .val (.int xe), .val (.long (own_v0_4_s0 xa xc xe)), .second, .val (.long (own_v0_19_s0 xb xd xe)), .second, .val (.int (xe &&& (12 : Int32))), .val (.ref b9), .val (.ref b16), .val (.ref b16), .val (.int (own_v0_98_s0 xa xb xc xd xe))] [(.int (own_v0_131_s0_3 xa xb xc xd xe))]) ∧ Stand p l e room_1 s m #[(.long xa), (.long xb), (.long xc), (.long xd), (.int xe)] below meth c T' L' 2 4 ∧ T'.heap = T21.heap ∧ Fr n0 L') T75 (mkF m 131 #[.val (.long xa), .second, .val (.long xb), .second, .val (.long xc), .second, .val (.long xd), .second, .val (.int xe), .val (.long (own_v0_4_s0 xa xc xe)), .second, .val (.long (own_v0_19_s0 xb xd xe)), .second, .val (.int (xe &&& (12 : Int32))), .val (.ref b9), .val (.ref b16), .val (.ref b16), .val (.int (own_v0_98_s0 xa xb xc xd xe))] [(.int (own_v0_98_s0 xa xb xc xd xe)), (.int (own_f4 xa xb (own_v0_4_s0 xa xc xe) (own_v0_19_s0 xb xd xe)))]) := by
        by_cases hc131_77 : (own_f4 xa xb (own_v0_4_s0 xa xc xe) (own_v0_19_s0 xb xd xe)) = (own_v0_98_s0 xa xb xc xd xe)
        · refine own_go (T' := T75) (f' := (mkF m 134 #[.val (.long xa), .second, .val (.long xb), .second, .val (.long xc), .second, .val (.long xd), .second, .val (.int xe), .val (.long (own_v0_4_s0 xa xc xe)), .second, .val (.long (own_v0_19_s0 xb xd xe)), .second, .val (.int (xe &&& (12 : Int32))), .val (.ref b9), .val (.ref b16), .val (.ref b16), .val (.int (own_v0_98_s0 xa xb xc xd xe))] [])) ?_ (fun _ k => XS.icmpNo X75.here hx rfl (hb hby at_131) rfl (teq hc131_77).2 k)
          refine own_go (T' := T75) (f' := (mkF m 135 #[.val (.long xa), .second, .val (.long xb), .second, .val (.long xc), .second, .val (.long xd), .second, .val (.int xe), .val (.long (own_v0_4_s0 xa xc xe)), .second, .val (.long (own_v0_19_s0 xb xd xe)), .second, .val (.int (xe &&& (12 : Int32))), .val (.ref b9), .val (.ref b16), .val (.ref b16), .val (.int (own_v0_98_s0 xa xb xc xd xe))] [(.int (1 : Int32))])) ?_ (fun _ k => XS.iconst X75.here hx rfl (hb hby at_134) k)
          refine own_go (T' := T75) (f' := (mkF m 139 #[.val (.long xa), .second, .val (.long xb), .second, .val (.long xc), .second, .val (.long xd), .second, .val (.int xe), .val (.long (own_v0_4_s0 xa xc xe)), .second, .val (.long (own_v0_19_s0 xb xd xe)), .second, .val (.int (xe &&& (12 : Int32))), .val (.ref b9), .val (.ref b16), .val (.ref b16), .val (.int (own_v0_98_s0 xa xb xc xd xe))] [(.int (1 : Int32))])) ?_ (fun _ k => XS.goto X75.here hx rfl (pc0 := 135) (pc' := 139) rfl (hb hby at_135) (by decide) (by decide) k)
          have em78 : (own_v0_131_s0_3 xa xb xc xd xe) = (1 : Int32) := (if_pos hc131_77)
          exact ⟨_, ⟨T75, _, (by rw [em78]), X75, e75, N75⟩, fun _ k => k⟩
        · refine own_go (T' := T75) (f' := (mkF m 138 #[.val (.long xa), .second, .val (.long xb), .second, .val (.long xc), .second, .val (.long xd), .second, .val (.int xe), .val (.long (own_v0_4_s0 xa xc xe)), .second, .val (.long (own_v0_19_s0 xb xd xe)), .second, .val (.int (xe &&& (12 : Int32))), .val (.ref b9), .val (.ref b16), .val (.ref b16), .val (.int (own_v0_98_s0 xa xb xc xd xe))] [])) ?_ (fun _ k => XS.icmpYes X75.here hx rfl (pc0 := 131) (pc' := 138) rfl (hb hby at_131) rfl (feq hc131_77).2 (by decide) (by decide) k)
          refine own_go (T' := T75) (f' := (mkF m 139 #[.val (.long xa), .second, .val (.long xb), .second, .val (.long xc), .second, .val (.long xd), .second, .val (.int xe), .val (.long (own_v0_4_s0 xa xc xe)), .second, .val (.long (own_v0_19_s0 xb xd xe)), .second, .val (.int (xe &&& (12 : Int32))), .val (.ref b9), .val (.ref b16), .val (.ref b16), .val (.int (own_v0_98_s0 xa xb xc xd xe))] [(.int (0 : Int32))])) ?_ (fun _ k => XS.iconst X75.here hx rfl (hb hby at_138) k)
          have em79 : (own_v0_131_s0_3 xa xb xc xd xe) = (0 : Int32) := (if_neg hc131_77)
          exact ⟨_, ⟨T75, _, (by rw [em79]), X75, e75, N75⟩, fun _ k => k⟩
      refine own_go (T' := T76) (f' := (mkF m 139 #[.val (.long xa), .second, .val (.long xb), .second, .val (.long xc), .second, .val (.long xd), .second, .val (.int xe), .val (.long (own_v0_4_s0 xa xc xe)), .second, .val (.long (own_v0_19_s0 xb xd xe)), .second, .val (.int (xe &&& (12 : Int32))), .val (.ref b9), .val (.ref b16), .val (.ref b16), .val (.int (own_v0_98_s0 xa xb xc xd xe))] [(.int (own_v0_131_s0_3 xa xb xc xd xe))])) ?_ (mg76)
      obtain ⟨fs80, hr80, hrun80, hended80, hW80, hsame80⟩ := X76.leave (v := some (.int (own_v0_131_s0_3 xa xb xc xd xe))) (fun h => by rw [Bd.returns] at h; cases h)
      refine ⟨_, ⟨_, hrun80, hended80, _, _, rfl, ?_, ⟨_, rfl⟩, hW80, hsame80.mono (by decide) (by decide)⟩, fun _ k => (own_retZ X76 hx Bd.returns (own_b0_131_s0_3 xa xb xc xd xe) (hb hby at_139) hr80).trans k⟩
      show own_Q0 Z xa xb xc xd xe oc h0 n0 _ T76.heap _
      rw [e76]
      exact ⟨(congrArg (fun z => some (Value.int z)) (show (own_v0_131_s0_3 xa xb xc xd xe) = (own_f0 xa xb xc xd xe) from ((Eq.trans (if_neg hc65_29) (if_neg hc78_44))).symm)), N76⟩
theorem own_and12 (x : Int32) : x &&& (12 : Int32) = 0 ∨ x &&& (12 : Int32) = 4 ∨ x &&& (12 : Int32) = 8 ∨ x &&& (12 : Int32) = 12 := by
  have h : (x &&& (12 : Int32)) = ((x &&& (15 : Int32)) &&& (12 : Int32)) := by
    rw [Int32.and_assoc]; rfl
  have e : (x &&& (15 : Int32)).toInt = x.toInt % 16 := Jvm.Kit.i32_mask x 15 (k := 4) (by decide) (by decide)
  have all : ∀ n : Fin 16, (Int32.ofNat n.val &&& (12 : Int32)) = 0 ∨ (Int32.ofNat n.val &&& (12 : Int32)) = 4 ∨ (Int32.ofNat n.val &&& (12 : Int32)) = 8 ∨ (Int32.ofNat n.val &&& (12 : Int32)) = 12 := by decide
  have hx : x &&& (15 : Int32) = Int32.ofNat (x.toInt % 16).toNat := by
    rw [own_eq32, e, own_ofNat_toInt (by omega)]; omega
  rw [h, hx]
  exact all ⟨(x.toInt % 16).toNat, by omega⟩
theorem own_lt8 (x : Int32) (k1 : ¬ (x &&& (12 : Int32)) = (8 : Int32)) (k2 : ¬ (x &&& (12 : Int32)) = (12 : Int32)) : (x &&& (12 : Int32)) < (8 : Int32) := by
  rcases own_and12 x with h | h | h | h
  · rw [h]; decide
  · rw [h]; decide
  · exact absurd h k1
  · exact absurd h k2

theorem own_cache {s : State} {args : Array Value} (hsets : ∀ d ∈ jdkStatics_1, d.before args s = true) (hfit : Fit s) :
    ∃ oc, Sta s s.heap "java/lang/Long$LongCache" "cache" "[Ljava/lang/Long;" (.ref oc) ∧ own_AL s s.heap oc := by
  have w1 := hsets _ (List.mem_of_getElem? (i := 1) rfl)
  have w2 := Cond.before_iff.mp (hsets _ (List.mem_of_getElem? (i := 2) rfl))
  have w4 := Cond.before_iff.mp (hsets _ (List.mem_of_getElem? (i := 4) rfl))
  have w5 := Cond.before_iff.mp (hsets _ (List.mem_of_getElem? (i := 5) rfl))
  obtain ⟨oc, ev⟩ := arr_v w2
  obtain ⟨cl, A⟩ := Arr.start ev w2
  obtain ⟨q, e⟩ := own_len_of ev A w4
  have et : ∀ idx, (Term.static "java/lang/Long$LongCache" "cache" "[Ljava/lang/Long;").eval args s none idx s = some (.ref oc) := fun idx => by simpa [Term.eval] using ev
  have B := Bxs.start (val := fun j => .long (j - 128).toInt64) et A q e (by decide) w5 (fun X j hj h => eqv_l (i2l_at (by simp [Term.eval, idx_at hj, (back32 hj).1])) h)
  obtain ⟨-, S, -, G⟩ := B
  have S' : cl.slots.size = 256 := S
  refine ⟨oc, Sta.start ev (Or.inl w1), cl, A, S', fun i hi => ?_⟩
  have ei : (Int32.ofNat i).toNatClampNeg = i := own_at_ofNat (by omega)
  obtain ⟨b, h1, h2, -⟩ := G (Int32.ofNat i) (fun z => z.elim (fun y => by rw [own_lt32, own_ofNat_toInt (by omega), show (0 : Int32).toInt = 0 from rfl] at y; omega) (fun y => by rw [ei, S'] at y; omega))
  rw [ei] at h1
  exact ⟨b, h1, h2⟩
theorem own_plain (xa xb xc xd : Int64) (xe : Int32) : (own_f0 xa xb xc xd xe) = 1 := by
  unfold own_f0
  by_cases k1 : (xe &&& (12 : Int32)) = (8 : Int32)
  · rw [if_pos k1]
    refine if_pos ?_
    unfold own_f3 own_v0_98_s0
    rw [if_neg (by rw [k1]; decide)]
  · rw [if_neg k1]
    by_cases k2 : (xe &&& (12 : Int32)) = (12 : Int32)
    · rw [if_pos k2]
      refine if_pos ?_
      unfold own_f5 own_v0_98_s0
      rw [if_neg (by rw [k2]; decide)]
    · rw [if_neg k2]
      refine if_pos ?_
      have k3 : (xe &&& (12 : Int32)) < (8 : Int32) := own_lt8 xe k1 k2
      unfold own_f4 own_v4_19_s0 own_v0_98_s0
      rw [if_pos k3]

set_option maxRecDepth 65536 in
set_option maxHeartbeats 40000000 in
theorem comes_1 {Post : Tables → Env → Array Value → State → Outcome → State → Prop} (hpost : ∀ tb e args s v u, (limb_1_1.after args s (.returned v) u = true ∧ limb_1_2.after args s (.returned v) u = true ∧ True) → FrameEnd s (.returned v) u (Jvm.fieldLocs frame_1_writes args s ++ Jvm.arrayLocs frame_1_arrays args s ++ Jvm.staticLocs frame_1_statics s) 16 128 → Post tb e args s (.returned v) u) :
    ArmFor flags0 classFile x code maxLocals ret World_1 tables_1 room_1 Calls_1 rest_1 Pre_1 Post := by
  intro l hfl _ _ p e ha hc hk s m args below hf hA hF happ hP
  obtain ⟨hcalls, hrest, hpre⟩ := hP
  obtain ⟨-, -, -, hnamed, -, -, -, hat⟩ := (Spec.applies_iff hf).mp happ
  obtain ⟨hg, hn⟩ := and_e (Cond.before_iff.mp (show (Jvm.Cond.and given_1 narrow_1).before args s = true from hpre))
  obtain ⟨gg1, gg2⟩ := and_e hg
  obtain ⟨gg3, gg4⟩ := and_e gg2
  obtain ⟨gg5, gg6⟩ := and_e gg4
  obtain ⟨gg7, gg8⟩ := and_e gg6
  obtain ⟨gg9, gg10⟩ := and_e gg8
  obtain ⟨w0, w1, w2, w3, w4, rfl⟩ : ∃ w0 w1 w2 w3 w4 : Value, args = #[w0, w1, w2, w3, w4] := by
    have hs : args.size = 5 := by simpa [Cond.value, given_1] using gg1
    obtain ⟨L⟩ := args
    match L, hs with
    | [w0, w1, w2, w3, w4], _ => exact ⟨w0, w1, w2, w3, w4, rfl⟩
  have hw := fun d (hd : d ∈ tables_1) => atoms_spec (ws := Jvm.Cond.code x code maxLocals ret :: tables_1) hat d (List.mem_cons_of_mem _ hd)
  have hfit : Fit s := fun {y c} hc i hi => by
    obtain ⟨ha, rfl⟩ := Array.getElem?_eq_some_iff.mp hc
    have q := List.all_eq_true.mp ((Array.all_eq_true_iff_forall_mem.mp hF) _ (Array.getElem_mem ha)) i (List.mem_range.mpr hi)
    simpa [Array.getElem?_eq_getElem hi] using q
  obtain ⟨hsets, hown0⟩ := atoms_of _ (rest_1_c_eq ▸ (show rest_1_c.before _ s = true from hrest))
  have hr0 := Cond.before_iff.mp hown0
  obtain ⟨i0, ei0⟩ := isL_v gg3
  obtain rfl : w0 = (.long i0) := Option.some.inj ei0
  obtain ⟨i1, ei1⟩ := isL_v gg5
  obtain rfl : w1 = (.long i1) := Option.some.inj ei1
  obtain ⟨i2, ei2⟩ := isL_v gg7
  obtain rfl : w2 = (.long i2) := Option.some.inj ei2
  obtain ⟨i3, ei3⟩ := isL_v gg9
  obtain rfl : w3 = (.long i3) := Option.some.inj ei3
  obtain ⟨i4, ei4⟩ := is_v gg10
  obtain rfl : w4 = (.int i4) := Option.some.inj ei4
  obtain ⟨oc, Sc, Ac⟩ := own_cache hsets hfit
  obtain ⟨n, o, h1, h2, h3, _, L, rfl, ⟨rv, N⟩, hq⟩ := own_rm0 l s _ hw tables_1 i0 i1 i2 i3 i4 oc s.heap s.heap.size (Nat.le_refl _) (Old.start s) Sc Ac p e ha hc hk s m _ below hf ((Spec.applies_iff_loose hf).mp happ).1 ⟨rfl, State.Warmed39.refl s, rfl⟩ trivial
  rw [own_plain] at rv
  subst rv
  refine ⟨n, _, h1, h2, h3, hpost _ _ _ _ _ _ ⟨Cond.after_iff.mpr rfl, Cond.after_iff.mpr (eq_i res_at (Term.int_eval (1)) rfl), trivial⟩ ⟨hq.1, hq.2.1, (hq.2.2.sift fun y hy => Or.inr (N y hy)).mono (by decide) (by decide)⟩⟩
theorem main_1_1 : Claimed_1_1 := comes_1 fun _ _ _ _ _ _ h hF => ⟨h.1, hF⟩
theorem main_1_2 : Claimed_1_2 := comes_1 fun _ _ _ _ _ _ h hF => ⟨h.2.1, hF⟩
end Jvm.Pilot.@@N@@
namespace Jvm.Pilot.@@N@@
open Jvm Jvm.ClassFile Sem Op Lib Jvm.Free Jvm.Stand Jvm.Pilot.@@N@@.Jvm.D
/-! MADE BY PROGRAM (witnessworld.py) out of the Statement's table words and the real class files: 17 classes; the members and pool entries that the words name. The judged class is class 1, her method 1. -/
namespace start1
open Jvm.ClassFile
def u (s : String) : CpInfo := .utf8 (stringToUtf16 s)
/-- a pool by its gaps: so many unusable entries, then the entry; so many at the end -/
def gap : Nat → List CpInfo → List CpInfo
  | 0, r => r
  | n + 1, r => .unusable :: gap n r
def poolList (es : List (Nat × CpInfo)) (last : Nat) : List CpInfo := es.foldr (fun e r => gap e.1 (e.2 :: r)) (gap last [])
def pool (es : List (Nat × CpInfo)) (last : Nat) : Array CpInfo := ⟨poolList es last⟩
def fileOf (pool : Array CpInfo) (this : Nat) (attrs : Array Attribute := #[]) (ms : Array MethodInfo := #[]) (fl : Nat := 33) (sup : Nat := 0) (ifs : Array Nat := #[]) (fds : Array FieldInfo := #[]) : ClassFile where
  minorVersion := 0
  majorVersion := 65
  constantPool := pool
  accessFlags := fl
  thisClass := this
  superClass := sup
  interfaces := ifs
  fields := fds
  methods := ms
  attributes := attrs
def plain (name : String) (sup : Option ClassId) : Class where
  name := name
  kind := .ordinary
  loader := none
  accessFlags := 33
  super := sup
  interfaces := #[]
  cf := none
  fields := #[]
  methods := #[]
  instanceTypes := #[]
  staticTypes := #[]
  resolved := #[]
  callSites := []
  init := .initialized
  statics := none
  mirror := none

def pool0 : Array CpInfo := pool [(5, u "<init>"), (0, u "()V"), (1, .class_ 10), (1, u "java/lang/Object")] 113

def k0c0 : Code := { maxStack := 0, maxLocals := 1, code := object_method_1_code, exceptionTable := #[], attributes := #[] }
def k0m0 : Method := { name := "<init>", desc := "()V", sig := { parameters := [], returnType := none }, accessFlags := 1, code := some k0c0 }
/-- java/lang/Object -/
def k0 : Class := { plain "java/lang/Object" none with
  accessFlags := 33
  interfaces := #[]
  cf := some (fileOf pool0 8 #[] #[{ accessFlags := 1, nameIndex := 5, descriptorIndex := 6, attributes := #[] }] 33 0 #[] #[])
  fields := #[]
  methods := #[k0m0]
  instanceTypes := #[]
  staticTypes := #[]
  resolved := Array.replicate 124 none
  statics := none }

def pool1 : Array CpInfo := pool [(2, .class_ 4), (1, u "java/lang/Object"), (0, u "<init>"), (0, u "()V"), (0, .class_ 8), (0, u "com/example/halyard/halyard/protocol/MessageId"), (0, .methodref 7 10), (0, .nameAndType 5 11), (0, u "(JJ)V"), (0, .methodref 13 14), (0, .class_ 15), (0, .nameAndType 16 17), (0, u "java/lang/Long"), (0, u "valueOf"), (0, u "(J)Ljava/lang/Long;"), (0, .methodref 7 19), (0, .nameAndType 20 21), (0, u "equals"), (0, u "(Ljava/lang/Object;)Z"), (0, .class_ 23), (0, u "com/example/halyard/halyard/protocol/MessageIdEqualsPinLaw"), (2, u "law"), (0, u "(JJJJI)Z")] 3

def k1m0 : Method := { name := "<init>", desc := "()V", sig := { parameters := [], returnType := none }, accessFlags := 1, code := none }
def k1c1 : Code := { maxStack := 6, maxLocals := 18, code := code, exceptionTable := #[], attributes := #[] }
def k1m1 : Method := { name := "law", desc := "(JJJJI)Z", sig := { parameters := [.long, .long, .long, .long, .int], returnType := some .boolean }, accessFlags := 9, code := some k1c1 }
/-- com/example/halyard/halyard/protocol/MessageIdEqualsPinLaw -/
def k1 : Class := { plain "com/example/halyard/halyard/protocol/MessageIdEqualsPinLaw" (some 0) with
  accessFlags := 49
  interfaces := #[]
  cf := some (fileOf pool1 22 #[] #[{ accessFlags := 1, nameIndex := 5, descriptorIndex := 6, attributes := #[] }, { accessFlags := 9, nameIndex := 26, descriptorIndex := 27, attributes := #[] }] 49 2 #[] #[])
  fields := #[]
  methods := #[k1m0, k1m1]
  instanceTypes := #[]
  staticTypes := #[]
  resolved := Array.replicate 31 none
  statics := none }

def pool2 : Array CpInfo := pool [(1, .methodref 2 3), (0, .class_ 4), (0, .nameAndType 5 6), (0, u "java/lang/Object"), (0, u "<init>"), (0, u "()V"), (0, .class_ 8), (0, u "java/lang/Record")] 13

def k2c0 : Code := { maxStack := 1, maxLocals := 1, code := jdk_30_method_1_code, exceptionTable := #[], attributes := #[] }
def k2m0 : Method := { name := "<init>", desc := "()V", sig := { parameters := [], returnType := none }, accessFlags := 4, code := some k2c0 }
/-- java/lang/Record -/
def k2 : Class := { plain "java/lang/Record" (some 0) with
  accessFlags := 1057
  interfaces := #[]
  cf := some (fileOf pool2 7 #[] #[{ accessFlags := 4, nameIndex := 5, descriptorIndex := 6, attributes := #[] }] 1057 2 #[] #[])
  fields := #[]
  methods := #[k2m0]
  instanceTypes := #[]
  staticTypes := #[]
  resolved := Array.replicate 22 none
  statics := none }

def pool3 : Array CpInfo := pool [(1, .class_ 2), (0, u "java/lang/Comparable"), (0, .class_ 4), (0, u "java/lang/Object")] 7

/-- java/lang/Comparable -/
def k3 : Class := { plain "java/lang/Comparable" (some 0) with
  accessFlags := 1537
  interfaces := #[]
  cf := some (fileOf pool3 1 #[] #[] 1537 3 #[] #[])
  fields := #[]
  methods := #[]
  instanceTypes := #[]
  staticTypes := #[]
  resolved := Array.replicate 12 none
  statics := none }

def pool4 : Array CpInfo := pool [(1, .methodref 2 3), (0, .class_ 4), (0, .nameAndType 5 6), (0, u "java/lang/Record"), (0, u "<init>"), (0, u "()V"), (0, .fieldref 8 9), (0, .class_ 10), (0, .nameAndType 11 12), (0, u "com/example/halyard/halyard/protocol/MessageId"), (0, u "ledgerId"), (0, u "J"), (0, .fieldref 8 14), (0, .nameAndType 15 12), (0, u "entryId"), (2, u "TEXT"), (0, u "Ljava/util/regex/Pattern;"), (24, u "(JJ)V"), (32, .class_ 78), (0, u "java/lang/Comparable"), (6, u "equals"), (0, u "(Ljava/lang/Object;)Z")] 28

def k4c0 : Code := { maxStack := 3, maxLocals := 5, code := prog_170_method_1_code, exceptionTable := #[], attributes := #[] }
def k4m0 : Method := { name := "<init>", desc := "(JJ)V", sig := { parameters := [.long, .long], returnType := none }, accessFlags := 1, code := some k4c0 }
def k4c1 : Code := { maxStack := 4, maxLocals := 2, code := prog_170_method_4_code, exceptionTable := #[], attributes := #[] }
def k4m1 : Method := { name := "equals", desc := "(Ljava/lang/Object;)Z", sig := { parameters := [(.object "java/lang/Object")], returnType := some .boolean }, accessFlags := 1, code := some k4c1 }
/-- com/example/halyard/halyard/protocol/MessageId -/
def k4 : Class := { plain "com/example/halyard/halyard/protocol/MessageId" (some 2) with
  accessFlags := 49
  interfaces := #[3]
  cf := some (fileOf pool4 8 #[] #[{ accessFlags := 1, nameIndex := 5, descriptorIndex := 44, attributes := #[] }, { accessFlags := 1, nameIndex := 85, descriptorIndex := 86, attributes := #[] }] 49 2 #[77] #[{ accessFlags := 18, nameIndex := 11, descriptorIndex := 12, attributes := #[] }, { accessFlags := 18, nameIndex := 15, descriptorIndex := 12, attributes := #[] }, { accessFlags := 26, nameIndex := 18, descriptorIndex := 19, attributes := #[] }])
  fields := #[{ name := "ledgerId", type := .long, accessFlags := 18, slot := 0, constantValue := 0 }, { name := "entryId", type := .long, accessFlags := 18, slot := 1, constantValue := 0 }, { name := "TEXT", type := (.object "java/util/regex/Pattern"), accessFlags := 26, slot := 0, constantValue := 0 }]
  methods := #[k4m0, k4m1]
  instanceTypes := #[.long, .long]
  staticTypes := #[(.object "java/util/regex/Pattern")]
  resolved := Array.replicate 115 none
  statics := none }

def pool5 : Array CpInfo := pool [(1, .class_ 2), (0, u "java/io/Serializable"), (0, .class_ 4), (0, u "java/lang/Object")] 2

/-- java/io/Serializable -/
def k5 : Class := { plain "java/io/Serializable" (some 0) with
  accessFlags := 1537
  interfaces := #[]
  cf := some (fileOf pool5 1 #[] #[] 1537 3 #[] #[])
  fields := #[]
  methods := #[]
  instanceTypes := #[]
  staticTypes := #[]
  resolved := Array.replicate 7 none
  statics := none }

def pool6 : Array CpInfo := pool [(1, .methodref 2 3), (0, .class_ 4), (0, .nameAndType 5 6), (0, u "java/lang/Object"), (0, u "<init>"), (0, u "()V"), (1, .class_ 10), (1, u "java/lang/Number"), (2, .class_ 14), (0, u "java/io/Serializable"), (0, u "serialVersionUID"), (0, u "J")] 20

def k6c0 : Code := { maxStack := 1, maxLocals := 1, code := jdk_18_method_1_code, exceptionTable := #[], attributes := #[] }
def k6m0 : Method := { name := "<init>", desc := "()V", sig := { parameters := [], returnType := none }, accessFlags := 1, code := some k6c0 }
/-- java/lang/Number -/
def k6 : Class := { plain "java/lang/Number" (some 0) with
  accessFlags := 1057
  interfaces := #[5]
  cf := some (fileOf pool6 8 #[] #[{ accessFlags := 1, nameIndex := 5, descriptorIndex := 6, attributes := #[] }] 1057 2 #[13] #[{ accessFlags := 26, nameIndex := 15, descriptorIndex := 16, attributes := #[] }])
  fields := #[{ name := "serialVersionUID", type := .long, accessFlags := 26, slot := 0, constantValue := 0 }]
  methods := #[k6m0]
  instanceTypes := #[]
  staticTypes := #[.long]
  resolved := Array.replicate 37 none
  statics := none }

def pool7 : Array CpInfo := pool [(1, .class_ 2), (0, u "java/lang/constant/Constable"), (0, .class_ 4), (0, u "java/lang/Object")] 6

/-- java/lang/constant/Constable -/
def k7 : Class := { plain "java/lang/constant/Constable" (some 0) with
  accessFlags := 1537
  interfaces := #[]
  cf := some (fileOf pool7 1 #[] #[] 1537 3 #[] #[])
  fields := #[]
  methods := #[]
  instanceTypes := #[]
  staticTypes := #[]
  resolved := Array.replicate 11 none
  statics := none }

def pool8 : Array CpInfo := pool [(1, .class_ 2), (0, u "java/lang/constant/ConstantDesc"), (0, .class_ 4), (0, u "java/lang/Object")] 32

/-- java/lang/constant/ConstantDesc -/
def k8 : Class := { plain "java/lang/constant/ConstantDesc" (some 0) with
  accessFlags := 1537
  interfaces := #[]
  cf := some (fileOf pool8 1 #[] #[] 1537 3 #[] #[])
  fields := #[]
  methods := #[]
  instanceTypes := #[]
  staticTypes := #[]
  resolved := Array.replicate 37 none
  statics := none }

def pool9 : Array CpInfo := pool [(1, .class_ 2), (0, u "java/lang/Long"), (55, .nameAndType 59 60), (0, u "<init>"), (0, u "()V"), (24, u "valueOf"), (143, u "(J)Ljava/lang/Long;"), (0, .long 18446744073709551488), (1, .long 127), (1, .fieldref 235 236), (0, .class_ 237), (0, .nameAndType 238 239), (0, u "java/lang/Long$LongCache"), (0, u "cache"), (0, u "[Ljava/lang/Long;"), (0, .methodref 1 241), (0, .nameAndType 59 242), (0, u "(J)V"), (27, .methodref 271 58), (0, .class_ 272), (0, u "java/lang/Number"), (0, .fieldref 1 274), (0, .nameAndType 275 276), (0, u "value"), (0, u "J"), (84, u "TYPE"), (0, u "Ljava/lang/Class;"), (0, .class_ 364), (0, u "java/lang/Comparable"), (0, .class_ 366), (0, u "java/lang/constant/Constable"), (0, .class_ 368), (0, u "java/lang/constant/ConstantDesc"), (0, u "MIN_VALUE"), (1, u "MAX_VALUE"), (4, u "SIZE"), (0, u "I"), (1, u "BYTES"), (1, u "serialVersionUID")] 142

def k9c0 : Code := { maxStack := 4, maxLocals := 3, code := jdk_35_method_24_code, exceptionTable := #[], attributes := #[] }
def k9m0 : Method := { name := "valueOf", desc := "(J)Ljava/lang/Long;", sig := { parameters := [.long], returnType := some (.object "java/lang/Long") }, accessFlags := 9, code := some k9c0 }
def k9c1 : Code := { maxStack := 3, maxLocals := 3, code := jdk_35_method_26_code, exceptionTable := #[], attributes := #[] }
def k9m1 : Method := { name := "<init>", desc := "(J)V", sig := { parameters := [.long], returnType := none }, accessFlags := 1, code := some k9c1 }
/-- java/lang/Long -/
def k9 : Class := { plain "java/lang/Long" (some 6) with
  accessFlags := 49
  interfaces := #[3, 7, 8]
  cf := some (fileOf pool9 1 #[.nestMembers #[235]] #[{ accessFlags := 9, nameIndex := 85, descriptorIndex := 229, attributes := #[] }, { accessFlags := 1, nameIndex := 59, descriptorIndex := 242, attributes := #[] }] 49 271 #[363, 365, 367] #[{ accessFlags := 25, nameIndex := 369, descriptorIndex := 276, attributes := #[] }, { accessFlags := 25, nameIndex := 371, descriptorIndex := 276, attributes := #[] }, { accessFlags := 25, nameIndex := 361, descriptorIndex := 362, attributes := #[] }, { accessFlags := 18, nameIndex := 275, descriptorIndex := 276, attributes := #[] }, { accessFlags := 25, nameIndex := 376, descriptorIndex := 377, attributes := #[] }, { accessFlags := 25, nameIndex := 379, descriptorIndex := 377, attributes := #[] }, { accessFlags := 26, nameIndex := 381, descriptorIndex := 276, attributes := #[] }])
  fields := #[{ name := "MIN_VALUE", type := .long, accessFlags := 25, slot := 0, constantValue := 0 }, { name := "MAX_VALUE", type := .long, accessFlags := 25, slot := 1, constantValue := 0 }, { name := "TYPE", type := (.object "java/lang/Class"), accessFlags := 25, slot := 2, constantValue := 0 }, { name := "value", type := .long, accessFlags := 18, slot := 0, constantValue := 0 }, { name := "SIZE", type := .int, accessFlags := 25, slot := 3, constantValue := 0 }, { name := "BYTES", type := .int, accessFlags := 25, slot := 4, constantValue := 0 }, { name := "serialVersionUID", type := .long, accessFlags := 26, slot := 5, constantValue := 0 }]
  methods := #[k9m0, k9m1]
  instanceTypes := #[.long]
  staticTypes := #[.long, .long, (.object "java/lang/Class"), .int, .int, .long]
  resolved := Array.replicate 524 none
  statics := none }

def pool10 : Array CpInfo := pool [(2, .class_ 4), (1, u "java/lang/Object"), (0, u "<init>"), (0, u "()V"), (0, .class_ 8), (0, u "java/lang/Long"), (7, .class_ 18), (1, u "java/lang/Long$LongCache"), (0, u "$assertionsDisabled"), (0, u "Z"), (8, u "archivedCache"), (0, u "[Ljava/lang/Long;"), (7, u "cache")] 24

def k10m0 : Method := { name := "<init>", desc := "()V", sig := { parameters := [], returnType := none }, accessFlags := 2, code := none }
/-- java/lang/Long$LongCache -/
def k10 : Class := { plain "java/lang/Long$LongCache" (some 0) with
  accessFlags := 48
  interfaces := #[]
  cf := some (fileOf pool10 16 #[.nestHost 7] #[{ accessFlags := 2, nameIndex := 5, descriptorIndex := 6, attributes := #[] }] 48 2 #[] #[{ accessFlags := 24, nameIndex := 38, descriptorIndex := 30, attributes := #[] }, { accessFlags := 8, nameIndex := 29, descriptorIndex := 30, attributes := #[] }, { accessFlags := 4120, nameIndex := 19, descriptorIndex := 20, attributes := #[] }])
  fields := #[{ name := "cache", type := (.array (.object "java/lang/Long")), accessFlags := 24, slot := 0, constantValue := 0 }, { name := "archivedCache", type := (.array (.object "java/lang/Long")), accessFlags := 8, slot := 1, constantValue := 0 }, { name := "$assertionsDisabled", type := .boolean, accessFlags := 4120, slot := 2, constantValue := 0 }]
  methods := #[k10m0]
  instanceTypes := #[]
  staticTypes := #[(.array (.object "java/lang/Long")), (.array (.object "java/lang/Long")), .boolean]
  resolved := Array.replicate 63 none
  statics := some 0 }

def pool11 : Array CpInfo := pool [(1, u "java/lang/Cloneable"), (0, .class_ 1), (0, u "java/lang/Object"), (0, .class_ 3)] 3

/-- java/lang/Cloneable -/
def k11 : Class := { plain "java/lang/Cloneable" (some 0) with
  accessFlags := 1537
  interfaces := #[]
  cf := some (fileOf pool11 2 #[] #[] 1537 4 #[] #[])
  fields := #[]
  methods := #[]
  instanceTypes := #[]
  staticTypes := #[]
  resolved := Array.replicate 8 none
  statics := none }

/-- the primitive byte -/
def k12 : Class := { plain "byte" none with kind := .primitive 'B', accessFlags := 0x411 }
/-- [B -/
def k13 : Class := { plain "[B" (some 0) with kind := .array 12 .byte, interfaces := #[11, 5], accessFlags := 1041 }

/-- the primitive int -/
def k14 : Class := { plain "int" none with kind := .primitive 'I', accessFlags := 0x411 }
/-- [I -/
def k15 : Class := { plain "[I" (some 0) with kind := .array 14 .int, interfaces := #[11, 5], accessFlags := 1041 }

/-- [Ljava/lang/Long; -/
def k16 : Class := { plain "[Ljava/lang/Long;" (some 0) with kind := .array 9 (.object "java/lang/Long"), interfaces := #[11, 5], accessFlags := 1041 }

def heap : Heap := #[{ cls := 10, slots := #[.ref 1, .null, .int 0], vm := .statics 10 },
  { cls := 16, slots := #[.ref 2, .ref 3, .ref 4, .ref 5, .ref 6, .ref 7, .ref 8, .ref 9, .ref 10, .ref 11, .ref 12, .ref 13, .ref 14, .ref 15, .ref 16, .ref 17, .ref 18, .ref 19, .ref 20, .ref 21, .ref 22, .ref 23, .ref 24, .ref 25, .ref 26, .ref 27, .ref 28, .ref 29, .ref 30, .ref 31, .ref 32, .ref 33, .ref 34, .ref 35, .ref 36, .ref 37, .ref 38, .ref 39, .ref 40, .ref 41, .ref 42, .ref 43, .ref 44, .ref 45, .ref 46, .ref 47, .ref 48, .ref 49, .ref 50, .ref 51, .ref 52, .ref 53, .ref 54, .ref 55, .ref 56, .ref 57, .ref 58, .ref 59, .ref 60, .ref 61, .ref 62, .ref 63, .ref 64, .ref 65, .ref 66, .ref 67, .ref 68, .ref 69, .ref 70, .ref 71, .ref 72, .ref 73, .ref 74, .ref 75, .ref 76, .ref 77, .ref 78, .ref 79, .ref 80, .ref 81, .ref 82, .ref 83, .ref 84, .ref 85, .ref 86, .ref 87, .ref 88, .ref 89, .ref 90, .ref 91, .ref 92, .ref 93, .ref 94, .ref 95, .ref 96, .ref 97, .ref 98, .ref 99, .ref 100, .ref 101, .ref 102, .ref 103, .ref 104, .ref 105, .ref 106, .ref 107, .ref 108, .ref 109, .ref 110, .ref 111, .ref 112, .ref 113, .ref 114, .ref 115, .ref 116, .ref 117, .ref 118, .ref 119, .ref 120, .ref 121, .ref 122, .ref 123, .ref 124, .ref 125, .ref 126, .ref 127, .ref 128, .ref 129, .ref 130, .ref 131, .ref 132, .ref 133, .ref 134, .ref 135, .ref 136, .ref 137, .ref 138, .ref 139, .ref 140, .ref 141, .ref 142, .ref 143, .ref 144, .ref 145, .ref 146, .ref 147, .ref 148, .ref 149, .ref 150, .ref 151, .ref 152, .ref 153, .ref 154, .ref 155, .ref 156, .ref 157, .ref 158, .ref 159, .ref 160, .ref 161, .ref 162, .ref 163, .ref 164, .ref 165, .ref 166, .ref 167, .ref 168, .ref 169, .ref 170, .ref 171, .ref 172, .ref 173, .ref 174, .ref 175, .ref 176, .ref 177, .ref 178, .ref 179, .ref 180, .ref 181, .ref 182, .ref 183, .ref 184, .ref 185, .ref 186, .ref 187, .ref 188, .ref 189, .ref 190, .ref 191, .ref 192, .ref 193, .ref 194, .ref 195, .ref 196, .ref 197, .ref 198, .ref 199, .ref 200, .ref 201, .ref 202, .ref 203, .ref 204, .ref 205, .ref 206, .ref 207, .ref 208, .ref 209, .ref 210, .ref 211, .ref 212, .ref 213, .ref 214, .ref 215, .ref 216, .ref 217, .ref 218, .ref 219, .ref 220, .ref 221, .ref 222, .ref 223, .ref 224, .ref 225, .ref 226, .ref 227, .ref 228, .ref 229, .ref 230, .ref 231, .ref 232, .ref 233, .ref 234, .ref 235, .ref 236, .ref 237, .ref 238, .ref 239, .ref 240, .ref 241, .ref 242, .ref 243, .ref 244, .ref 245, .ref 246, .ref 247, .ref 248, .ref 249, .ref 250, .ref 251, .ref 252, .ref 253, .ref 254, .ref 255, .ref 256, .ref 257], vm := .none },
  { cls := 9, slots := #[.long (-128)], vm := .none },
  { cls := 9, slots := #[.long (-127)], vm := .none },
  { cls := 9, slots := #[.long (-126)], vm := .none },
  { cls := 9, slots := #[.long (-125)], vm := .none },
  { cls := 9, slots := #[.long (-124)], vm := .none },
  { cls := 9, slots := #[.long (-123)], vm := .none },
  { cls := 9, slots := #[.long (-122)], vm := .none },
  { cls := 9, slots := #[.long (-121)], vm := .none },
  { cls := 9, slots := #[.long (-120)], vm := .none },
  { cls := 9, slots := #[.long (-119)], vm := .none },
  { cls := 9, slots := #[.long (-118)], vm := .none },
  { cls := 9, slots := #[.long (-117)], vm := .none },
  { cls := 9, slots := #[.long (-116)], vm := .none },
  { cls := 9, slots := #[.long (-115)], vm := .none },
  { cls := 9, slots := #[.long (-114)], vm := .none },
  { cls := 9, slots := #[.long (-113)], vm := .none },
  { cls := 9, slots := #[.long (-112)], vm := .none },
  { cls := 9, slots := #[.long (-111)], vm := .none },
  { cls := 9, slots := #[.long (-110)], vm := .none },
  { cls := 9, slots := #[.long (-109)], vm := .none },
  { cls := 9, slots := #[.long (-108)], vm := .none },
  { cls := 9, slots := #[.long (-107)], vm := .none },
  { cls := 9, slots := #[.long (-106)], vm := .none },
  { cls := 9, slots := #[.long (-105)], vm := .none },
  { cls := 9, slots := #[.long (-104)], vm := .none },
  { cls := 9, slots := #[.long (-103)], vm := .none },
  { cls := 9, slots := #[.long (-102)], vm := .none },
  { cls := 9, slots := #[.long (-101)], vm := .none },
  { cls := 9, slots := #[.long (-100)], vm := .none },
  { cls := 9, slots := #[.long (-99)], vm := .none },
  { cls := 9, slots := #[.long (-98)], vm := .none },
  { cls := 9, slots := #[.long (-97)], vm := .none },
  { cls := 9, slots := #[.long (-96)], vm := .none },
  { cls := 9, slots := #[.long (-95)], vm := .none },
  { cls := 9, slots := #[.long (-94)], vm := .none },
  { cls := 9, slots := #[.long (-93)], vm := .none },
  { cls := 9, slots := #[.long (-92)], vm := .none },
  { cls := 9, slots := #[.long (-91)], vm := .none },
  { cls := 9, slots := #[.long (-90)], vm := .none },
  { cls := 9, slots := #[.long (-89)], vm := .none },
  { cls := 9, slots := #[.long (-88)], vm := .none },
  { cls := 9, slots := #[.long (-87)], vm := .none },
  { cls := 9, slots := #[.long (-86)], vm := .none },
  { cls := 9, slots := #[.long (-85)], vm := .none },
  { cls := 9, slots := #[.long (-84)], vm := .none },
  { cls := 9, slots := #[.long (-83)], vm := .none },
  { cls := 9, slots := #[.long (-82)], vm := .none },
  { cls := 9, slots := #[.long (-81)], vm := .none },
  { cls := 9, slots := #[.long (-80)], vm := .none },
  { cls := 9, slots := #[.long (-79)], vm := .none },
  { cls := 9, slots := #[.long (-78)], vm := .none },
  { cls := 9, slots := #[.long (-77)], vm := .none },
  { cls := 9, slots := #[.long (-76)], vm := .none },
  { cls := 9, slots := #[.long (-75)], vm := .none },
  { cls := 9, slots := #[.long (-74)], vm := .none },
  { cls := 9, slots := #[.long (-73)], vm := .none },
  { cls := 9, slots := #[.long (-72)], vm := .none },
  { cls := 9, slots := #[.long (-71)], vm := .none },
  { cls := 9, slots := #[.long (-70)], vm := .none },
  { cls := 9, slots := #[.long (-69)], vm := .none },
  { cls := 9, slots := #[.long (-68)], vm := .none },
  { cls := 9, slots := #[.long (-67)], vm := .none },
  { cls := 9, slots := #[.long (-66)], vm := .none },
  { cls := 9, slots := #[.long (-65)], vm := .none },
  { cls := 9, slots := #[.long (-64)], vm := .none },
  { cls := 9, slots := #[.long (-63)], vm := .none },
  { cls := 9, slots := #[.long (-62)], vm := .none },
  { cls := 9, slots := #[.long (-61)], vm := .none },
  { cls := 9, slots := #[.long (-60)], vm := .none },
  { cls := 9, slots := #[.long (-59)], vm := .none },
  { cls := 9, slots := #[.long (-58)], vm := .none },
  { cls := 9, slots := #[.long (-57)], vm := .none },
  { cls := 9, slots := #[.long (-56)], vm := .none },
  { cls := 9, slots := #[.long (-55)], vm := .none },
  { cls := 9, slots := #[.long (-54)], vm := .none },
  { cls := 9, slots := #[.long (-53)], vm := .none },
  { cls := 9, slots := #[.long (-52)], vm := .none },
  { cls := 9, slots := #[.long (-51)], vm := .none },
  { cls := 9, slots := #[.long (-50)], vm := .none },
  { cls := 9, slots := #[.long (-49)], vm := .none },
  { cls := 9, slots := #[.long (-48)], vm := .none },
  { cls := 9, slots := #[.long (-47)], vm := .none },
  { cls := 9, slots := #[.long (-46)], vm := .none },
  { cls := 9, slots := #[.long (-45)], vm := .none },
  { cls := 9, slots := #[.long (-44)], vm := .none },
  { cls := 9, slots := #[.long (-43)], vm := .none },
  { cls := 9, slots := #[.long (-42)], vm := .none },
  { cls := 9, slots := #[.long (-41)], vm := .none },
  { cls := 9, slots := #[.long (-40)], vm := .none },
  { cls := 9, slots := #[.long (-39)], vm := .none },
  { cls := 9, slots := #[.long (-38)], vm := .none },
  { cls := 9, slots := #[.long (-37)], vm := .none },
  { cls := 9, slots := #[.long (-36)], vm := .none },
  { cls := 9, slots := #[.long (-35)], vm := .none },
  { cls := 9, slots := #[.long (-34)], vm := .none },
  { cls := 9, slots := #[.long (-33)], vm := .none },
  { cls := 9, slots := #[.long (-32)], vm := .none },
  { cls := 9, slots := #[.long (-31)], vm := .none },
  { cls := 9, slots := #[.long (-30)], vm := .none },
  { cls := 9, slots := #[.long (-29)], vm := .none },
  { cls := 9, slots := #[.long (-28)], vm := .none },
  { cls := 9, slots := #[.long (-27)], vm := .none },
  { cls := 9, slots := #[.long (-26)], vm := .none },
  { cls := 9, slots := #[.long (-25)], vm := .none },
  { cls := 9, slots := #[.long (-24)], vm := .none },
  { cls := 9, slots := #[.long (-23)], vm := .none },
  { cls := 9, slots := #[.long (-22)], vm := .none },
  { cls := 9, slots := #[.long (-21)], vm := .none },
  { cls := 9, slots := #[.long (-20)], vm := .none },
  { cls := 9, slots := #[.long (-19)], vm := .none },
  { cls := 9, slots := #[.long (-18)], vm := .none },
  { cls := 9, slots := #[.long (-17)], vm := .none },
  { cls := 9, slots := #[.long (-16)], vm := .none },
  { cls := 9, slots := #[.long (-15)], vm := .none },
  { cls := 9, slots := #[.long (-14)], vm := .none },
  { cls := 9, slots := #[.long (-13)], vm := .none },
  { cls := 9, slots := #[.long (-12)], vm := .none },
  { cls := 9, slots := #[.long (-11)], vm := .none },
  { cls := 9, slots := #[.long (-10)], vm := .none },
  { cls := 9, slots := #[.long (-9)], vm := .none },
  { cls := 9, slots := #[.long (-8)], vm := .none },
  { cls := 9, slots := #[.long (-7)], vm := .none },
  { cls := 9, slots := #[.long (-6)], vm := .none },
  { cls := 9, slots := #[.long (-5)], vm := .none },
  { cls := 9, slots := #[.long (-4)], vm := .none },
  { cls := 9, slots := #[.long (-3)], vm := .none },
  { cls := 9, slots := #[.long (-2)], vm := .none },
  { cls := 9, slots := #[.long (-1)], vm := .none },
  { cls := 9, slots := #[.long (0)], vm := .none },
  { cls := 9, slots := #[.long (1)], vm := .none },
  { cls := 9, slots := #[.long (2)], vm := .none },
  { cls := 9, slots := #[.long (3)], vm := .none },
  { cls := 9, slots := #[.long (4)], vm := .none },
  { cls := 9, slots := #[.long (5)], vm := .none },
  { cls := 9, slots := #[.long (6)], vm := .none },
  { cls := 9, slots := #[.long (7)], vm := .none },
  { cls := 9, slots := #[.long (8)], vm := .none },
  { cls := 9, slots := #[.long (9)], vm := .none },
  { cls := 9, slots := #[.long (10)], vm := .none },
  { cls := 9, slots := #[.long (11)], vm := .none },
  { cls := 9, slots := #[.long (12)], vm := .none },
  { cls := 9, slots := #[.long (13)], vm := .none },
  { cls := 9, slots := #[.long (14)], vm := .none },
  { cls := 9, slots := #[.long (15)], vm := .none },
  { cls := 9, slots := #[.long (16)], vm := .none },
  { cls := 9, slots := #[.long (17)], vm := .none },
  { cls := 9, slots := #[.long (18)], vm := .none },
  { cls := 9, slots := #[.long (19)], vm := .none },
  { cls := 9, slots := #[.long (20)], vm := .none },
  { cls := 9, slots := #[.long (21)], vm := .none },
  { cls := 9, slots := #[.long (22)], vm := .none },
  { cls := 9, slots := #[.long (23)], vm := .none },
  { cls := 9, slots := #[.long (24)], vm := .none },
  { cls := 9, slots := #[.long (25)], vm := .none },
  { cls := 9, slots := #[.long (26)], vm := .none },
  { cls := 9, slots := #[.long (27)], vm := .none },
  { cls := 9, slots := #[.long (28)], vm := .none },
  { cls := 9, slots := #[.long (29)], vm := .none },
  { cls := 9, slots := #[.long (30)], vm := .none },
  { cls := 9, slots := #[.long (31)], vm := .none },
  { cls := 9, slots := #[.long (32)], vm := .none },
  { cls := 9, slots := #[.long (33)], vm := .none },
  { cls := 9, slots := #[.long (34)], vm := .none },
  { cls := 9, slots := #[.long (35)], vm := .none },
  { cls := 9, slots := #[.long (36)], vm := .none },
  { cls := 9, slots := #[.long (37)], vm := .none },
  { cls := 9, slots := #[.long (38)], vm := .none },
  { cls := 9, slots := #[.long (39)], vm := .none },
  { cls := 9, slots := #[.long (40)], vm := .none },
  { cls := 9, slots := #[.long (41)], vm := .none },
  { cls := 9, slots := #[.long (42)], vm := .none },
  { cls := 9, slots := #[.long (43)], vm := .none },
  { cls := 9, slots := #[.long (44)], vm := .none },
  { cls := 9, slots := #[.long (45)], vm := .none },
  { cls := 9, slots := #[.long (46)], vm := .none },
  { cls := 9, slots := #[.long (47)], vm := .none },
  { cls := 9, slots := #[.long (48)], vm := .none },
  { cls := 9, slots := #[.long (49)], vm := .none },
  { cls := 9, slots := #[.long (50)], vm := .none },
  { cls := 9, slots := #[.long (51)], vm := .none },
  { cls := 9, slots := #[.long (52)], vm := .none },
  { cls := 9, slots := #[.long (53)], vm := .none },
  { cls := 9, slots := #[.long (54)], vm := .none },
  { cls := 9, slots := #[.long (55)], vm := .none },
  { cls := 9, slots := #[.long (56)], vm := .none },
  { cls := 9, slots := #[.long (57)], vm := .none },
  { cls := 9, slots := #[.long (58)], vm := .none },
  { cls := 9, slots := #[.long (59)], vm := .none },
  { cls := 9, slots := #[.long (60)], vm := .none },
  { cls := 9, slots := #[.long (61)], vm := .none },
  { cls := 9, slots := #[.long (62)], vm := .none },
  { cls := 9, slots := #[.long (63)], vm := .none },
  { cls := 9, slots := #[.long (64)], vm := .none },
  { cls := 9, slots := #[.long (65)], vm := .none },
  { cls := 9, slots := #[.long (66)], vm := .none },
  { cls := 9, slots := #[.long (67)], vm := .none },
  { cls := 9, slots := #[.long (68)], vm := .none },
  { cls := 9, slots := #[.long (69)], vm := .none },
  { cls := 9, slots := #[.long (70)], vm := .none },
  { cls := 9, slots := #[.long (71)], vm := .none },
  { cls := 9, slots := #[.long (72)], vm := .none },
  { cls := 9, slots := #[.long (73)], vm := .none },
  { cls := 9, slots := #[.long (74)], vm := .none },
  { cls := 9, slots := #[.long (75)], vm := .none },
  { cls := 9, slots := #[.long (76)], vm := .none },
  { cls := 9, slots := #[.long (77)], vm := .none },
  { cls := 9, slots := #[.long (78)], vm := .none },
  { cls := 9, slots := #[.long (79)], vm := .none },
  { cls := 9, slots := #[.long (80)], vm := .none },
  { cls := 9, slots := #[.long (81)], vm := .none },
  { cls := 9, slots := #[.long (82)], vm := .none },
  { cls := 9, slots := #[.long (83)], vm := .none },
  { cls := 9, slots := #[.long (84)], vm := .none },
  { cls := 9, slots := #[.long (85)], vm := .none },
  { cls := 9, slots := #[.long (86)], vm := .none },
  { cls := 9, slots := #[.long (87)], vm := .none },
  { cls := 9, slots := #[.long (88)], vm := .none },
  { cls := 9, slots := #[.long (89)], vm := .none },
  { cls := 9, slots := #[.long (90)], vm := .none },
  { cls := 9, slots := #[.long (91)], vm := .none },
  { cls := 9, slots := #[.long (92)], vm := .none },
  { cls := 9, slots := #[.long (93)], vm := .none },
  { cls := 9, slots := #[.long (94)], vm := .none },
  { cls := 9, slots := #[.long (95)], vm := .none },
  { cls := 9, slots := #[.long (96)], vm := .none },
  { cls := 9, slots := #[.long (97)], vm := .none },
  { cls := 9, slots := #[.long (98)], vm := .none },
  { cls := 9, slots := #[.long (99)], vm := .none },
  { cls := 9, slots := #[.long (100)], vm := .none },
  { cls := 9, slots := #[.long (101)], vm := .none },
  { cls := 9, slots := #[.long (102)], vm := .none },
  { cls := 9, slots := #[.long (103)], vm := .none },
  { cls := 9, slots := #[.long (104)], vm := .none },
  { cls := 9, slots := #[.long (105)], vm := .none },
  { cls := 9, slots := #[.long (106)], vm := .none },
  { cls := 9, slots := #[.long (107)], vm := .none },
  { cls := 9, slots := #[.long (108)], vm := .none },
  { cls := 9, slots := #[.long (109)], vm := .none },
  { cls := 9, slots := #[.long (110)], vm := .none },
  { cls := 9, slots := #[.long (111)], vm := .none },
  { cls := 9, slots := #[.long (112)], vm := .none },
  { cls := 9, slots := #[.long (113)], vm := .none },
  { cls := 9, slots := #[.long (114)], vm := .none },
  { cls := 9, slots := #[.long (115)], vm := .none },
  { cls := 9, slots := #[.long (116)], vm := .none },
  { cls := 9, slots := #[.long (117)], vm := .none },
  { cls := 9, slots := #[.long (118)], vm := .none },
  { cls := 9, slots := #[.long (119)], vm := .none },
  { cls := 9, slots := #[.long (120)], vm := .none },
  { cls := 9, slots := #[.long (121)], vm := .none },
  { cls := 9, slots := #[.long (122)], vm := .none },
  { cls := 9, slots := #[.long (123)], vm := .none },
  { cls := 9, slots := #[.long (124)], vm := .none },
  { cls := 9, slots := #[.long (125)], vm := .none },
  { cls := 9, slots := #[.long (126)], vm := .none },
  { cls := 9, slots := #[.long (127)], vm := .none }]
def classes : Array Class := #[k0, k1, k2, k3, k4, k5, k6, k7, k8, k9, k10, k11, k12, k13, k14, k15, k16]
def interned : List (Array UInt16 × Addr) := []
def slotsUsed : Nat := 515
def theMethod : MethodId := ⟨1, 1⟩
def args0 : Array Value := #[.long 5, .long 6, .long 5, .long 7, .int 3]
def aboutOver (below : List Frame) : State where
  vm := { classes := classes, interned := interned.toArray }
  heap := heap
  slotsUsed := slotsUsed
  threads := #[{ frames := .invoking theMethod args0 :: below }]
def below0 : List Frame := [.native { method := ⟨0, 0⟩, args := #[] }]
def about1 : State := aboutOver below0
def p0 : Program := .bare "" "" ""
def e0 : Env := launch0.env 0 0 0
theorem w_frames : about1.frames = Frame.invoking theMethod args0 :: below0 := rfl
set_option maxRecDepth 65536 in
theorem w_args : argsFit about1.vm theMethod args0 = true := by decide +kernel
set_option maxRecDepth 65536 in
theorem w_heap : heapFits about1 = true := by decide +kernel
set_option maxRecDepth 65536 in
theorem w_runnable : about1.curStatus? = some .runnable := by decide +kernel
set_option maxRecDepth 65536 in
theorem w_alone : about1.alone = true := by decide +kernel
set_option maxRecDepth 65536 in
theorem w_named : about1.methodNamed? x = some theMethod := by decide +kernel
set_option maxRecDepth 65536 in
theorem w_hears : about1.hears theMethod below0 = true := by decide +kernel
set_option maxRecDepth 65536 in
theorem w_ripe : about1.ripe theMethod args0 below0 = true := by decide +kernel
theorem w_running : about1.status = .running := rfl
set_option maxRecDepth 65536 in
theorem w_room : about1.hasRoom e0.platform room_1 = true :=
  launch0.hasRoom_least _ room_1 (by decide +kernel) (by decide +kernel) (by decide +kernel) (by decide +kernel) (by decide +kernel) (by decide +kernel)
theorem allAtoms_all (ts : List Jvm.Cond) (a : Array Jvm.Value) (st : Jvm.State) : (allAtoms ts).before a st = ts.all (fun c => c.before a st) := by
  induction ts with
  | nil => rfl
  | cons c t ih =>
    show (Jvm.Cond.and c (allAtoms t)).before a st = _
    rw [Jvm.Cond.before_and, ih, List.all_cons]
def words1 : List Jvm.Cond := Jvm.Cond.code x code maxLocals ret :: tables_1
/-- a 'code' word, met by the world's own term for the bytes: nothing is compared byte by byte -/
theorem code_word {y : MethodName} {bytes : ByteArray} {mx : Nat} {rt : Option FieldType} {a : Array Value} {s : State} {m : MethodId} {meth : Method} {c : Code} (h1 : s.methodNamed? y = some m) (h2 : s.vm.method? m = some meth) (h3 : meth.code = some c) (h4 : c.code = bytes)
    (h5 : (c.maxLocals == mx && c.exceptionTable.isEmpty && decide (c.maxStack ≤ mostOperands) && decide (meth.sig.returnType = rt) && !meth.locks && decide (parseMethodDescriptor y.desc = some meth.sig)) = true) : (Jvm.Cond.code y bytes mx rt).before a s = true := by
  simp only [Bool.and_eq_true, beq_iff_eq, Bool.not_eq_true', decide_eq_true_eq] at h5
  obtain ⟨⟨⟨⟨⟨g1, g2⟩, g3⟩, g4⟩, g5⟩, g6⟩ := h5
  simp [Cond.before, Cond.holds, Cond.value, h1, h2, h3, h4, g1, g2, g3, g4, g5, g6]
def isCode : Jvm.Cond → Bool
  | .code _ _ _ _ => true
  | _ => false
theorem all_split {L : List Jvm.Cond} {P : Jvm.Cond → Bool} (h1 : L.all (fun c => isCode c || P c) = true) (h2 : ∀ c ∈ L.filter isCode, P c = true) : L.all P = true := by
  refine List.all_eq_true.mpr fun c hc => ?_
  have h := List.all_eq_true.mp h1 c hc
  rcases Bool.eq_false_or_eq_true (isCode c) with hi | hi
  · exact h2 c (List.mem_filter.mpr ⟨hc, hi⟩)
  · simpa [hi] using h
set_option maxRecDepth 65536 in
theorem w_c0 : (Jvm.Cond.code x code maxLocals ret).before args0 about1 = true := code_word (m := ⟨1, 1⟩) (meth := k1m1) (c := k1c1) (by decide +kernel) rfl rfl rfl (by decide +kernel)
set_option maxRecDepth 65536 in
theorem w_c1 : (Jvm.Cond.code ({ cls := "com/example/halyard/halyard/protocol/MessageId", name := "<init>", desc := "(JJ)V" } : Jvm.MethodName) prog_170_method_1_code (5 : Nat) (Option.none : Option Jvm.ClassFile.FieldType)).before args0 about1 = true := code_word (m := ⟨4, 0⟩) (meth := k4m0) (c := k4c0) (by decide +kernel) rfl rfl rfl (by decide +kernel)
set_option maxRecDepth 65536 in
theorem w_c2 : (Jvm.Cond.code ({ cls := "java/lang/Record", name := "<init>", desc := "()V" } : Jvm.MethodName) jdk_30_method_1_code (1 : Nat) (Option.none : Option Jvm.ClassFile.FieldType)).before args0 about1 = true := code_word (m := ⟨2, 0⟩) (meth := k2m0) (c := k2c0) (by decide +kernel) rfl rfl rfl (by decide +kernel)
set_option maxRecDepth 65536 in
theorem w_c3 : (Jvm.Cond.code ({ cls := "java/lang/Object", name := "<init>", desc := "()V" } : Jvm.MethodName) object_method_1_code (1 : Nat) (Option.none : Option Jvm.ClassFile.FieldType)).before args0 about1 = true := code_word (m := ⟨0, 0⟩) (meth := k0m0) (c := k0c0) (by decide +kernel) rfl rfl rfl (by decide +kernel)
set_option maxRecDepth 65536 in
theorem w_c4 : (Jvm.Cond.code ({ cls := "com/example/halyard/halyard/protocol/MessageId", name := "equals", desc := "(Ljava/lang/Object;)Z" } : Jvm.MethodName) prog_170_method_4_code (2 : Nat) (Option.some Jvm.ClassFile.FieldType.boolean)).before args0 about1 = true := code_word (m := ⟨4, 1⟩) (meth := k4m1) (c := k4c1) (by decide +kernel) rfl rfl rfl (by decide +kernel)
set_option maxRecDepth 65536 in
theorem w_c5 : (Jvm.Cond.code ({ cls := "java/lang/Long", name := "valueOf", desc := "(J)Ljava/lang/Long;" } : Jvm.MethodName) jdk_35_method_24_code (3 : Nat) (Option.some (Jvm.ClassFile.FieldType.object "java/lang/Long"))).before args0 about1 = true := code_word (m := ⟨9, 0⟩) (meth := k9m0) (c := k9c0) (by decide +kernel) rfl rfl rfl (by decide +kernel)
set_option maxRecDepth 65536 in
theorem w_c6 : (Jvm.Cond.code ({ cls := "java/lang/Long", name := "<init>", desc := "(J)V" } : Jvm.MethodName) jdk_35_method_26_code (3 : Nat) (Option.none : Option Jvm.ClassFile.FieldType)).before args0 about1 = true := code_word (m := ⟨9, 1⟩) (meth := k9m1) (c := k9c1) (by decide +kernel) rfl rfl rfl (by decide +kernel)
set_option maxRecDepth 65536 in
theorem w_c7 : (Jvm.Cond.code ({ cls := "java/lang/Number", name := "<init>", desc := "()V" } : Jvm.MethodName) jdk_18_method_1_code (1 : Nat) (Option.none : Option Jvm.ClassFile.FieldType)).before args0 about1 = true := code_word (m := ⟨6, 0⟩) (meth := k6m0) (c := k6c0) (by decide +kernel) rfl rfl rfl (by decide +kernel)
def codes1 : List Jvm.Cond := [Jvm.Cond.code x code maxLocals ret, Jvm.Cond.code ({ cls := "com/example/halyard/halyard/protocol/MessageId", name := "<init>", desc := "(JJ)V" } : Jvm.MethodName) prog_170_method_1_code (5 : Nat) (Option.none : Option Jvm.ClassFile.FieldType), Jvm.Cond.code ({ cls := "java/lang/Record", name := "<init>", desc := "()V" } : Jvm.MethodName) jdk_30_method_1_code (1 : Nat) (Option.none : Option Jvm.ClassFile.FieldType), Jvm.Cond.code ({ cls := "java/lang/Object", name := "<init>", desc := "()V" } : Jvm.MethodName) object_method_1_code (1 : Nat) (Option.none : Option Jvm.ClassFile.FieldType), Jvm.Cond.code ({ cls := "com/example/halyard/halyard/protocol/MessageId", name := "equals", desc := "(Ljava/lang/Object;)Z" } : Jvm.MethodName) prog_170_method_4_code (2 : Nat) (Option.some Jvm.ClassFile.FieldType.boolean), Jvm.Cond.code ({ cls := "java/lang/Long", name := "valueOf", desc := "(J)Ljava/lang/Long;" } : Jvm.MethodName) jdk_35_method_24_code (3 : Nat) (Option.some (Jvm.ClassFile.FieldType.object "java/lang/Long")), Jvm.Cond.code ({ cls := "java/lang/Long", name := "<init>", desc := "(J)V" } : Jvm.MethodName) jdk_35_method_26_code (3 : Nat) (Option.none : Option Jvm.ClassFile.FieldType), Jvm.Cond.code ({ cls := "java/lang/Number", name := "<init>", desc := "()V" } : Jvm.MethodName) jdk_18_method_1_code (1 : Nat) (Option.none : Option Jvm.ClassFile.FieldType)]
set_option maxRecDepth 65536 in
theorem codes_eq : words1.filter isCode = codes1 := rfl
theorem w_codes : ∀ c ∈ words1.filter isCode, c.before args0 about1 = true := by
  rw [codes_eq]
  intro c hc
  simp only [codes1, List.mem_cons, List.not_mem_nil, or_false] at hc
  rcases hc with rfl | rfl | rfl | rfl | rfl | rfl | rfl | rfl
  · exact w_c0
  · exact w_c1
  · exact w_c2
  · exact w_c3
  · exact w_c4
  · exact w_c5
  · exact w_c6
  · exact w_c7
set_option maxRecDepth 65536 in
theorem w_t1 : (words1.take 24).all (fun c => isCode c || c.before args0 about1) = true := by decide +kernel
set_option maxRecDepth 65536 in
theorem w_t2 : ((words1.drop 24).take 24).all (fun c => isCode c || c.before args0 about1) = true := by decide +kernel
set_option maxRecDepth 65536 in
theorem w_t3 : ((words1.drop 24).drop 24).all (fun c => isCode c || c.before args0 about1) = true := by decide +kernel
theorem w_tables : (allAtoms (Jvm.Cond.code x code maxLocals ret :: tables_1)).before args0 about1 = true := by
  rw [allAtoms_all]
  show words1.all (fun c => c.before args0 about1) = true
  refine all_split ?_ w_codes
  rw [← List.take_append_drop 24 words1, List.all_append, w_t1, ← List.take_append_drop 24 (words1.drop 24), List.all_append, w_t2, w_t3]
  rfl
set_option maxRecDepth 65536 in
theorem w_rest : rest_1_c.before args0 about1 = true := by decide +kernel
set_option maxRecDepth 65536 in
theorem w_case : (Jvm.Cond.and given_1 narrow_1).before args0 about1 = true := by decide +kernel
theorem w_applies : (headSpec (Jvm.Cond.code x code maxLocals ret :: tables_1) room_1).applies x e0.platform about1 = true :=
  (Spec.applies_iff w_frames).mpr ⟨w_running, w_runnable, w_alone, w_named, w_hears, w_ripe, w_room, w_tables⟩
theorem atStart : AtStart classFile x code maxLocals ret World_1 tables_1 room_1 Calls_1 rest_1 Pre_1 launch0 p0 e0 about1 theMethod args0 below0 :=
  ⟨lists_1, trivial, launch0.admits_env _ _ _, launch0.least_env, fairChoices_fair.cas, fairChoices_fair.clock, w_frames, w_args, w_heap, w_applies, trivial, w_rest, w_case⟩
end start1
theorem witness_1 : WitnessClaimed_1 := ⟨start1.p0, start1.e0, start1.about1, start1.theMethod, start1.args0, start1.below0, start1.atStart⟩
end Jvm.Pilot.@@N@@
