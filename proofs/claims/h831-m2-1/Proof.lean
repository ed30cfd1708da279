import JvmDerived
import JvmDerived.Pilot.@@N@@Statement
import JvmDerived.Pilot.@@N@@Code
set_option linter.unusedVariables false
set_option linter.unusedSimpArgs false
@@BLOCK:NumsL.lean.txt@@
namespace Jvm.RoadKit
open Sem ClassFile Op Lib Jvm.Stand Jvm.Free Jvm.LawKit
section New
variable {p : Program} {l : Launch} {e : Env} {R : Room} {s : State} {m : MethodId} {args : Array Value} {below : List Frame} {meth : Method} {c : Code} {T : State} {locs : List Loc} {cells slots : Nat}
theorem retI (X : Stand p l e R s m args below meth c T locs cells slots) (hx : p.tables.exec = Jvm.exec) {pc : Nat} {Ls : Array Slot} {z : Int32} {rest : List Value} (hret : meth.sig.returnType = some .int) (hd : decode c.code pc = .ok (.ireturn, 1)) {fs : List Frame}
    (hl : ∀ (f : JFrame) (acts : List Action), f.method = m → f.locked = none → f.entered = [] → (doReturn e (T.setTop f) acts (some (.int z))).1 = T.setFrames fs) : Steps p.tables e below (T.setTop (mkF m pc Ls (.int z :: rest))) (T.setFrames fs) := by
  have hm' : T.vm.method? m = some meth := X.method'
  have hn : narrow .int (.int z) = .int z := rfl
  show Steps p.tables e below (T.setTop { method := m, pc := pc, locals := Ls, stack := _ :: rest, locked := none }) _
  jvm_step X.here [X.here.top, hx, hd, hm', hret, hn]
  first | (intro acts; rw [hl _ acts rfl rfl rfl]) | rw [hl _ _ rfl rfl rfl]
  exact Steps.refl _
def own_irem (x y : Int32) : Int32 := x - x / y * y
def own_lrem (x y : Int64) : Int64 := x - x / y * y
theorem own_retZ (X : Stand p l e R s m args below meth c T locs cells slots) (hx : p.tables.exec = Jvm.exec) {pc : Nat} {Ls : Array Slot} {z : Int32} {rest : List Value} (hret : meth.sig.returnType = some .boolean) (hz : z &&& 1 = z) (hd : decode c.code pc = .ok (.ireturn, 1)) {fs : List Frame}
    (hl : ∀ (f : JFrame) (acts : List Action), f.method = m → f.locked = none → f.entered = [] → (doReturn e (T.setTop f) acts (some (.int z))).1 = T.setFrames fs) : Steps p.tables e below (T.setTop (mkF m pc Ls (.int z :: rest))) (T.setFrames fs) :=
  retN X hx (t := .boolean) hret (by simp) hd (by rw [show nar .boolean z = z from hz]; exact hl)
theorem own_ite_bool {q : Prop} [Decidable q] {a b : Int32} (ha : a &&& 1 = a) (hb : b &&& 1 = b) : (if q then a else b) &&& 1 = (if q then a else b) := by split <;> assumption
theorem own_retJ (X : Stand p l e R s m args below meth c T locs cells slots) (hx : p.tables.exec = Jvm.exec) {pc : Nat} {Ls : Array Slot} {z : Int64} {rest : List Value} (hret : meth.sig.returnType = some .long) (hd : decode c.code pc = .ok (.lreturn, 1)) {fs : List Frame}
    (hl : ∀ (f : JFrame) (acts : List Action), f.method = m → f.locked = none → f.entered = [] → (doReturn e (T.setTop f) acts (some (.long z))).1 = T.setFrames fs) : Steps p.tables e below (T.setTop (mkF m pc Ls (.long z :: rest))) (T.setFrames fs) := by
  have hm' : T.vm.method? m = some meth := X.method'
  show Steps p.tables e below (T.setTop { method := m, pc := pc, locals := Ls, stack := _ :: rest, locked := none }) _
  jvm_step X.here [X.here.top, hx, hd, hm', hret, narrow]
  first | (intro acts; rw [hl _ acts rfl rfl rfl]) | rw [hl _ _ rfl rfl rfl]
  exact Steps.refl _
/-- the run goes from here to a state of which P holds -/
def own_Goes (tb : Tables) (e : Env) (below : List Frame) (P : State → Prop) (T : State) (f : JFrame) : Prop :=
  ∃ u, P u ∧ ∀ t, Steps tb e below u t → Steps tb e below (T.setTop f) t
theorem own_go {tb : Tables} {P : State → Prop} {T T' : State} {f f' : JFrame} (k : own_Goes tb e below P T' f') (h : ∀ t, Steps tb e below (T'.setTop f') t → Steps tb e below (T.setTop f) t) : own_Goes tb e below P T f := by
  obtain ⟨u, hu, hk⟩ := k
  exact ⟨u, hu, fun t q => h t (hk t q)⟩
theorem own_out {tb : Tables} {Q : Outcome → State → Prop} {T : State} {f : JFrame} (k : own_Goes tb e below (fun u => ∃ o, u.status = .running ∧ Ended u below o ∧ Q o u) T f) :
    ∃ s₂ o, Steps tb e below (T.setTop f) s₂ ∧ s₂.status = .running ∧ Ended s₂ below o ∧ Q o s₂ := by
  obtain ⟨u, ⟨o, h1, h2, h3⟩, hk⟩ := k
  exact ⟨u, o, hk u (Steps.refl _), h1, h2, h3⟩
theorem own_lsw {tb : Tables} [Ours tb] {T target : State} {g : JFrame} (h : At T m c below) (hx : tb.exec = Jvm.exec) (hg : g.method = m) {dflt : Int} {pairs : Array (Int × Int)} {len : Nat} {o : Int} {pc0 pc' : Nat} (hpc : g.pc = pc0) (hd : decode c.code g.pc = .ok (.lookupswitch dflt pairs, len)) {i : Int32} {rest : List Value} (hs : g.stack = .int i :: rest)
    (hord : (pairs.toList.zip (pairs.toList.drop 1)).all (fun (a, next) => a.1 < next.1) = true) (hoff : lookupswitch.offset pairs.toList dflt i.toInt = o) (ho : 0 ≤ (pc0 : Int) + o) (hp : ((pc0 : Int) + o).toNat = pc')
    (hr : Steps tb e below (T.setTop { g with pc := pc', stack := rest }) target) : Steps tb e below (T.setTop g) target := by
  subst hg hpc hp
  jvm_step h [h.top, hx, hd, hs, hoff, ho, lookupswitch.wp_chain]
  exact ⟨by simpa using hord, hr⟩
theorem own_ne_key {i k : Int32} (h : ¬ i = k) : ¬ (k.toInt = i.toInt) := fun q => h (Int32.toInt_inj.mp q.symm)
theorem own_selP {s : State} {args : Array Value} {y : MethodName} {n : Nat} (wi : (Cond.instantiable y.cls n).before args s = true) (hp : s.PrivateAt y) (hi : (Cond.instanceMethod y).before args s = true) (hy : y.cls ≠ "java/lang/invoke/MethodHandle" ∧ y.cls ≠ "java/lang/invoke/VarHandle") : (Cond.selects y.cls y y).before args s = true := by
  obtain ⟨c, k, h1, h2, -, h3, -⟩ := Cond.instantiable_spec wi
  simp only [Bool.or_eq_false_iff] at h3
  exact selects_self_of_private h1 h2 h3.1 hp hi hy
end New
end Jvm.RoadKit
namespace Jvm.RoadKit
open Sem ClassFile Op Lib Jvm.Stand Jvm.Free Jvm.LawKit
theorem own_lt32 {x y : Int32} : x < y ↔ x.toInt < y.toInt := Int32.lt_iff_toInt_lt
theorem own_eq32 {x y : Int32} : x = y ↔ x.toInt = y.toInt := (Int32.toInt_inj).symm
theorem own_mod32 (x y : Int32) : (own_irem x y).toInt = x.toInt.tmod y.toInt := by
  rw [show own_irem x y = x % y from irem_eq_mod x y]; exact Int32.toInt_mod x y
theorem own_pos31 (x : Int32) : (x &&& (2147483647 : Int32)).toInt = x.toInt % 2147483648 := Jvm.Kit.i32_mask x 2147483647 (k := 31) (by decide) (by decide)
theorem own_rem31 (x : Int32) (y : Int32) (hy : 0 < y.toInt) : (own_irem (x &&& (2147483647 : Int32)) y).toInt = (x.toInt % 2147483648) % y.toInt := by
  rw [own_mod32, own_pos31, Int.tmod_eq_emod_of_nonneg (by omega)]
theorem own_and3 (x : Int32) : (x &&& (3 : Int32)).toInt = x.toInt % 4 := Jvm.Kit.i32_mask x 3 (k := 2) (by decide) (by decide)
theorem own_and7 (x : Int32) : (x &&& (7 : Int32)).toInt = x.toInt % 8 := Jvm.Kit.i32_mask x 7 (k := 3) (by decide) (by decide)
theorem own_and63 (x : Int32) : (x &&& (63 : Int32)).toInt = x.toInt % 64 := Jvm.Kit.i32_mask x 63 (k := 6) (by decide) (by decide)
theorem own_and255 (x : Int32) : (x &&& (255 : Int32)).toInt = x.toInt % 256 := Jvm.Kit.i32_mask x 255 (k := 8) (by decide) (by decide)
theorem own_add_ok {x y : Int32} (h1 : -2147483648 ≤ x.toInt + y.toInt) (h2 : x.toInt + y.toInt < 2147483648) : (x + y).toInt = x.toInt + y.toInt := Jvm.Kit.i32_add (by omega) (by omega)
theorem own_sub_ok {x y : Int32} (h1 : -2147483648 ≤ x.toInt - y.toInt) (h2 : x.toInt - y.toInt < 2147483648) : (x - y).toInt = x.toInt - y.toInt := Jvm.Kit.i32_sub (by omega) (by omega)
theorem own_nat32 {x : Int32} (h : 0 ≤ x.toInt) : (x.toNatClampNeg : Int) = x.toInt := by simp only [Int32.toNatClampNeg]; omega
theorem own_rng (x : Int32) : -2147483648 ≤ x.toInt ∧ x.toInt < 2147483648 := ⟨x.le_toInt, x.toInt_lt⟩
theorem own_m3 (y : Int32) : ¬ (y &&& (3 : Int32)) < (0 : Int32) ∧ (y &&& (3 : Int32)).toNatClampNeg ≤ 3 := by
  have e := own_and3 y
  refine ⟨?_, ?_⟩
  · rw [own_lt32, e, show (0 : Int32).toInt = 0 from rfl]; omega
  · have := own_nat32 (x := y &&& 3) (by omega); omega
end Jvm.RoadKit
namespace Jvm.RoadKit
open Sem ClassFile Op Lib Jvm.Stand Jvm.Free Jvm.LawKit
section OwnArr
variable {p : Program} {l : Launch} {e : Env} {R : Room} {s : State} {m : MethodId} {args : Array Value} {below : List Frame} {meth : Method} {c : Code} {T : State} {locs : List Loc} {cells slots : Nat}
variable {Z : State} {h h' : Heap} {a b : Addr} {sl : Nat} {v : Value} {ws : List Addr} {n : Int32} {L : List Int32} {M : List Int64} {ty : FieldType} {k : ClassId}
/-- an array of ints (bytes, chars): its length and what it holds -/
def own_AI (Z : State) (h : Heap) (a : Addr) (ty : FieldType) (n : Int32) (L : List Int32) : Prop := L.length = n.toNatClampNeg ∧ ∃ k, Arv Z h a k ty n (L.map Value.int) (.int 0)
def own_AJ (Z : State) (h : Heap) (a : Addr) (n : Int32) (M : List Int64) : Prop := M.length = n.toNatClampNeg ∧ ∃ k, Arv Z h a k .long n (M.map Value.long) (.long 0)
theorem own_AI.lt (F : own_AI Z h a ty n L) : a < h.size := by obtain ⟨_, _, A⟩ := F; exact A.lt
theorem own_AJ.lt (F : own_AJ Z h a n M) : a < h.size := by obtain ⟨_, _, A⟩ := F; exact A.lt
theorem own_AI.ext (F : own_AI Z h a ty n L) (E : Ext h h') : own_AI Z h' a ty n L := by obtain ⟨q, k, A⟩ := F; exact ⟨q, k, A.ext E⟩
theorem own_AJ.ext (F : own_AJ Z h a n M) (E : Ext h h') : own_AJ Z h' a n M := by obtain ⟨q, k, A⟩ := F; exact ⟨q, k, A.ext E⟩
theorem own_AI.other (F : own_AI Z h b ty n L) (W : Wr h h' a sl v) (q : b ≠ a) : own_AI Z h' b ty n L := by obtain ⟨r, k, A⟩ := F; exact ⟨r, k, A.other W q⟩
theorem own_AJ.other (F : own_AJ Z h b n M) (W : Wr h h' a sl v) (q : b ≠ a) : own_AJ Z h' b n M := by obtain ⟨r, k, A⟩ := F; exact ⟨r, k, A.other W q⟩
theorem own_AI.keep (F : own_AI Z h a ty n L) (K : Keep h h' ws) (q : a ∉ ws) : own_AI Z h' a ty n L := by obtain ⟨r, k, A⟩ := F; exact ⟨r, k, A.keep K q⟩
theorem own_AJ.keep (F : own_AJ Z h a n M) (K : Keep h h' ws) (q : a ∉ ws) : own_AJ Z h' a n M := by obtain ⟨r, k, A⟩ := F; exact ⟨r, k, A.keep K q⟩
theorem own_AI.new (A : Arr Z h a (newA k ty n) ty) (q : ¬ n < 0) (hd : defaultValue ty = .int 0) : own_AI Z h a ty n (List.replicate n.toNatClampNeg 0) := by
  refine ⟨by simp, k, ?_⟩
  have B := Arv.new A q
  rw [hd] at B
  rw [List.map_replicate]
  exact B.pad (pad_rep [] _ _)
theorem own_AJ.new (A : Arr Z h a (newA k .long n) .long) (q : ¬ n < 0) : own_AJ Z h a n (List.replicate n.toNatClampNeg 0) := by
  refine ⟨by simp, k, ?_⟩
  have B := Arv.new A q
  rw [List.map_replicate]
  exact B.pad (pad_rep [] _ _)
theorem own_getD_int (L : List Int32) (i : Nat) : (L.map Value.int).getD i (.int 0) = .int (L.getD i 0) := by
  simp only [List.getD_eq_getElem?_getD, List.getElem?_map]
  cases L[i]? <;> rfl
theorem own_getD_long (M : List Int64) (i : Nat) : (M.map Value.long).getD i (.long 0) = .long (M.getD i 0) := by
  simp only [List.getD_eq_getElem?_getD, List.getElem?_map]
  cases M[i]? <;> rfl
theorem own_inl {j : Int32} {len : Nat} (q : len = n.toNatClampNeg) (hj : ¬ j < 0 ∧ j < n) : j.toNatClampNeg < len := by
  rw [q]; obtain ⟨q1, q2⟩ := hj
  rw [Int32.lt_iff_toInt_lt] at q1 q2
  have e0 : (0 : Int32).toInt = 0 := rfl
  simp only [Int32.toNatClampNeg] at *; omega
theorem own_ldI (X : Stand p l e R s m args below meth c T locs cells slots) (hx : p.tables.exec = Jvm.exec) (hZ : Z.Warmed39 s.vm) (eT : T.heap = h) (F : own_AI Z h a .int n L) {j : Int32} (hj : ¬ j < 0 ∧ j < n) {g : JFrame} (hg : g.method = m) {rest : List Value} (hs : g.stack = .int j :: .ref a :: rest) (hd : decode c.code g.pc = .ok (.iaload, 1)) :
    ∀ target, Steps p.tables e below (T.setTop { g with pc := g.pc + 1, stack := .int (L.getD j.toNatClampNeg 0) :: rest }) target → Steps p.tables e below (T.setTop g) target := by
  intro target hk
  obtain ⟨q, k, cl, A, r1, S, r3, H, G⟩ := F
  have hin := inb_of S hj
  exact X.iaload hx (j := j) (v := .int (L.getD j.toNatClampNeg 0)) (by rw [eT]; exact A.1) (State.isArrayOf_alike hZ.alike A.2.1) A.2.2 hin (H.at hin (own_getD_int L _)) hg hs hd _ hk
theorem own_ldB (X : Stand p l e R s m args below meth c T locs cells slots) (hx : p.tables.exec = Jvm.exec) (hZ : Z.Warmed39 s.vm) (eT : T.heap = h) (F : own_AI Z h a .byte n L) {j : Int32} (hj : ¬ j < 0 ∧ j < n) {g : JFrame} (hg : g.method = m) {rest : List Value} (hs : g.stack = .int j :: .ref a :: rest) (hd : decode c.code g.pc = .ok (.baload, 1)) :
    ∀ target, Steps p.tables e below (T.setTop { g with pc := g.pc + 1, stack := .int (L.getD j.toNatClampNeg 0) :: rest }) target → Steps p.tables e below (T.setTop g) target := by
  intro target hk
  obtain ⟨q, k, cl, A, r1, S, r3, H, G⟩ := F
  have hin := inb_of S hj
  exact X.baloadBytes hx (j := j) (v := .int (L.getD j.toNatClampNeg 0)) (by rw [eT]; exact A.1) (State.isArrayOf_alike hZ.alike A.2.1) A.2.2 hin (H.at hin (own_getD_int L _)) hg hs hd _ hk
theorem own_ldJ (X : Stand p l e R s m args below meth c T locs cells slots) (hx : p.tables.exec = Jvm.exec) (hZ : Z.Warmed39 s.vm) (eT : T.heap = h) (F : own_AJ Z h a n M) {j : Int32} (hj : ¬ j < 0 ∧ j < n) {g : JFrame} (hg : g.method = m) {rest : List Value} (hs : g.stack = .int j :: .ref a :: rest) (hd : decode c.code g.pc = .ok (.laload, 1)) :
    ∀ target, Steps p.tables e below (T.setTop { g with pc := g.pc + 1, stack := .long (M.getD j.toNatClampNeg 0) :: rest }) target → Steps p.tables e below (T.setTop g) target := by
  intro target hk
  obtain ⟨q, k, cl, A, r1, S, r3, H, G⟩ := F
  have hin := inb_of S hj
  exact X.laload hx (j := j) (v := .long (M.getD j.toNatClampNeg 0)) (by rw [eT]; exact A.1) (State.isArrayOf_alike hZ.alike A.2.1) A.2.2 hin (H.at hin (own_getD_long M _)) hg hs hd _ hk
theorem own_len (X : Stand p l e R s m args below meth c T locs cells slots) (hx : p.tables.exec = Jvm.exec) (hZ : Z.Warmed39 s.vm) (eT : T.heap = h) (F : own_AI Z h a ty n L) {g : JFrame} (hg : g.method = m) {rest : List Value} (hs : g.stack = .ref a :: rest) (hd : decode c.code g.pc = .ok (.arraylength, 1)) :
    ∀ target, Steps p.tables e below (T.setTop { g with pc := g.pc + 1, stack := .int n :: rest }) target → Steps p.tables e below (T.setTop g) target := by
  intro target hk
  obtain ⟨q, k, cl, A, r1, S, r3, H, G⟩ := F
  refine X.arraylength hx (by rw [eT]; exact A.1) (State.isArrayOf_alike hZ.alike A.2.1) hg hs hd _ ?_
  rw [len_of S r3]; exact hk
theorem own_lenJ (X : Stand p l e R s m args below meth c T locs cells slots) (hx : p.tables.exec = Jvm.exec) (hZ : Z.Warmed39 s.vm) (eT : T.heap = h) (F : own_AJ Z h a n M) {g : JFrame} (hg : g.method = m) {rest : List Value} (hs : g.stack = .ref a :: rest) (hd : decode c.code g.pc = .ok (.arraylength, 1)) :
    ∀ target, Steps p.tables e below (T.setTop { g with pc := g.pc + 1, stack := .int n :: rest }) target → Steps p.tables e below (T.setTop g) target := by
  intro target hk
  obtain ⟨q, k, cl, A, r1, S, r3, H, G⟩ := F
  refine X.arraylength hx (by rw [eT]; exact A.1) (State.isArrayOf_alike hZ.alike A.2.1) hg hs hd _ ?_
  rw [len_of S r3]; exact hk
theorem own_stI (X : Stand p l e R s m args below meth c T locs cells slots) (hx : p.tables.exec = Jvm.exec) (hZ : Z.Warmed39 s.vm) (eT : T.heap = h) (F : own_AI Z h a .int n L) {j x : Int32} (hj : ¬ j < 0 ∧ j < n) {g : JFrame} (hg : g.method = m) {rest : List Value} (hs : g.stack = .int x :: .int j :: .ref a :: rest) (hd : decode c.code g.pc = .ok (.iastore, 1)) :
    ∃ T' h', Stand p l e R s m args below meth c T' (locs ++ [⟨a, j.toNatClampNeg⟩]) cells slots ∧ T'.heap = h' ∧ Wr h h' a j.toNatClampNeg (.int x) ∧ own_AI Z h' a .int n (L.set j.toNatClampNeg x) ∧ ∀ target, Steps p.tables e below (T'.setTop { g with pc := g.pc + 1, stack := rest }) target → Steps p.tables e below (T.setTop g) target := by
  obtain ⟨q, k, cl, A, r1, S, r3, H, G⟩ := F
  obtain ⟨T', h', X', e', W, st⟩ := stI X hx hZ eT A (inb_of S hj) hg hs hd
  refine ⟨T', h', X', e', W, ⟨by simp [q], k, ?_⟩, st⟩
  have B := Arv.set A r1 S r3 H G (v := .int x) rfl W j.toNatClampNeg rfl (by rw [List.length_map]; exact own_inl q hj)
  rw [List.map_set]; exact B
theorem own_stB (X : Stand p l e R s m args below meth c T locs cells slots) (hx : p.tables.exec = Jvm.exec) (hZ : Z.Warmed39 s.vm) (eT : T.heap = h) (F : own_AI Z h a .byte n L) {j x : Int32} (hj : ¬ j < 0 ∧ j < n) {g : JFrame} (hg : g.method = m) {rest : List Value} (hs : g.stack = .int x :: .int j :: .ref a :: rest) (hd : decode c.code g.pc = .ok (.bastore, 1)) :
    ∃ T' h', Stand p l e R s m args below meth c T' (locs ++ [⟨a, j.toNatClampNeg⟩]) cells slots ∧ T'.heap = h' ∧ Wr h h' a j.toNatClampNeg (.int x.toInt8.toInt32) ∧ own_AI Z h' a .byte n (L.set j.toNatClampNeg x.toInt8.toInt32) ∧ ∀ target, Steps p.tables e below (T'.setTop { g with pc := g.pc + 1, stack := rest }) target → Steps p.tables e below (T.setTop g) target := by
  obtain ⟨q, k, cl, A, r1, S, r3, H, G⟩ := F
  obtain ⟨T', h', X', e', W, st⟩ := stB X hx hZ eT A (inb_of S hj) hg hs hd
  refine ⟨T', h', X', e', W, ⟨by simp [q], k, ?_⟩, st⟩
  have B := Arv.set A r1 S r3 H G (v := .int x.toInt8.toInt32) (fits_nar_byte _) W j.toNatClampNeg rfl (by rw [List.length_map]; exact own_inl q hj)
  rw [List.map_set]; exact B
theorem own_stJ (X : Stand p l e R s m args below meth c T locs cells slots) (hx : p.tables.exec = Jvm.exec) (hZ : Z.Warmed39 s.vm) (eT : T.heap = h) (F : own_AJ Z h a n M) {j : Int32} {x : Int64} (hj : ¬ j < 0 ∧ j < n) {g : JFrame} (hg : g.method = m) {rest : List Value} (hs : g.stack = .long x :: .int j :: .ref a :: rest) (hd : decode c.code g.pc = .ok (.lastore, 1)) :
    ∃ T' h', Stand p l e R s m args below meth c T' (locs ++ [⟨a, j.toNatClampNeg⟩]) cells slots ∧ T'.heap = h' ∧ Wr h h' a j.toNatClampNeg (.long x) ∧ own_AJ Z h' a n (M.set j.toNatClampNeg x) ∧ ∀ target, Steps p.tables e below (T'.setTop { g with pc := g.pc + 1, stack := rest }) target → Steps p.tables e below (T.setTop g) target := by
  obtain ⟨q, k, cl, A, r1, S, r3, H, G⟩ := F
  obtain ⟨T', h', X', e', W, st⟩ := stJ X hx hZ eT A (inb_of S hj) hg hs hd
  refine ⟨T', h', X', e', W, ⟨by simp [q], k, ?_⟩, st⟩
  have B := Arv.set A r1 S r3 H G (v := .long x) rfl W j.toNatClampNeg rfl (by rw [List.length_map]; exact own_inl q hj)
  rw [List.map_set]; exact B
end OwnArr
end Jvm.RoadKit
namespace Jvm.RoadKit
open Sem ClassFile Op Lib Jvm.Stand Jvm.Free Jvm.LawKit
section OwnIdx
variable {Z : State} {h : Heap} {a : Addr} {n : Int32} {L : List Int32} {ty : FieldType} {i : Nat}
theorem own_ofNat_toInt {i : Nat} (hi : i < 2 ^ 31) : (Int32.ofNat i).toInt = (i : Int) := Int32.toInt_ofNat_of_lt hi
theorem own_AI.len (A : own_AI Z h a ty n L) : n.toInt = (L.length : Int) ∧ L.length < 2 ^ 31 := by
  obtain ⟨q, k, cl, A, r1, S, r3, H, G⟩ := A
  rw [Int32.lt_iff_toInt_lt] at r3
  have e0 : (0 : Int32).toInt = 0 := rfl
  have := n.toInt_lt
  simp only [Int32.toNatClampNeg] at q; omega
theorem own_AI.lt_iff (A : own_AI Z h a ty n L) (hi : i ≤ L.length) : Int32.ofNat i < n ↔ i < L.length := by
  obtain ⟨q, r⟩ := A.len
  rw [Int32.lt_iff_toInt_lt, own_ofNat_toInt (by omega), q]; omega
theorem own_AI.eq_iff (A : own_AI Z h a ty n L) (hi : i ≤ L.length) : Int32.ofNat i = n ↔ i = L.length := by
  obtain ⟨q, r⟩ := A.len
  rw [← Int32.toInt_inj, own_ofNat_toInt (by omega), q]; omega
theorem own_AI.inb (A : own_AI Z h a ty n L) (hi : i < L.length) : ¬ Int32.ofNat i < 0 ∧ Int32.ofNat i < n := by
  obtain ⟨q, r⟩ := A.len
  refine ⟨?_, (A.lt_iff (Nat.le_of_lt hi)).mpr hi⟩
  have e0 : (0 : Int32).toInt = 0 := rfl
  rw [Int32.lt_iff_toInt_lt, own_ofNat_toInt (by omega), e0]; omega
theorem own_at_ofNat {i : Nat} (hi : i < 2 ^ 31) : (Int32.ofNat i).toNatClampNeg = i := by
  simp only [Int32.toNatClampNeg, own_ofNat_toInt hi]; rfl
theorem own_succ (i : Nat) : Int32.ofNat i + (1 : Int32) = Int32.ofNat (i + 1) := by rw [Int32.ofNat_add]; rfl
end OwnIdx
end Jvm.RoadKit
namespace Jvm.Pilot.@@N@@
open Jvm Jvm.ClassFile Sem Op Lib Jvm.Free Jvm.Stand Jvm.LawKit Jvm.RoadKit Bundle Jvm.Pilot.@@N@@.Jvm.D
theorem own_pn0 : plainName "java/lang/Record" = true := by first | (simp [plainName, overriddenIn]; done) | decide +kernel
theorem own_d4_0 : decode jdk_30_method_1_code 0 = .ok (.aload_n 0, 1) := by decide +kernel
theorem own_d4_1 : decode jdk_30_method_1_code 1 = .ok (.invokespecial 1, 3) := by decide +kernel
theorem own_d4_4 : decode jdk_30_method_1_code 4 = .ok (.return_, 1) := by decide +kernel
theorem own_ef4 (m : MethodId) (oa : Addr) : entryFrame m #[(.ref oa)] 1 = mkF m 0 #[.val (.ref oa)] [] := by first | (simp [entryFrame, mkF, argsToLocals, Value.category]; done) | rfl
abbrev own_room4 : Room := { frames := 1, cells := 0, slots := 0, locals := 12 }
def own_Q4 (Z : State) (oa : Addr) (h0 : Heap) (n0 : Nat) (v : Option Value) (h : Heap) (L : List Loc) : Prop := v = none ∧ Fr n0 L ∧ h = h0
set_option maxRecDepth 65536 in
set_option maxHeartbeats 40000000 in
theorem own_rm4 (l : Launch) (Z : State) (a0 : Array Value) (hw : ∀ d ∈ tables_1, d.before a0 Z = true) (ws : List Jvm.Cond) (oa : Addr) (h0 : Heap) (n0 : Nat) (Z0 : n0 ≤ h0.size) :
    MetFree l (⟨"java/lang/Record", "<init>", "()V"⟩ : MethodName) (head1 (Jvm.Cond.code (⟨"java/lang/Record", "<init>", "()V"⟩ : MethodName) jdk_30_method_1_code 1 none :: ws) own_room4) (fun a U => a = #[(.ref oa)] ∧ Z.Warmed39 U.vm ∧ U.heap = h0) (fun _ _ _ _ _ => True) (fun _ U o U' => ∃ v L, o = .returned v ∧ own_Q4 Z oa h0 n0 v U'.heap L ∧ FrameEnd U o U' L own_room4.cells own_room4.slots) := by
  refine MetFree.of_bodySF (plainFor_of_name own_pn0) hisR ?_
  intro p e s m args below meth c s₁ Bd hml0 hP hK
  obtain ⟨rfl, hZ, hh⟩ := hP
  have hx := Bd.exec
  have hby := Bd.bytes
  have hml : c.maxLocals = 1 := hml0
  have hown : s.vm.findClass "java/lang/Record" = some m.cls := findClass_of_methodNamed Bd.named
  have hnm := (name_of_methodNamed Bd.named Bd.method).1
  have X0 : Stand p l e own_room4 s m #[(.ref oa)] below meth c s₁ [] 0 0 := Stand.of_body Bd
  have e0 : s₁.heap = h0 := by rw [← hh, Bd.state]; rfl
  have N0 := Fr.nil n0
  refine own_out (Q := fun o U' => ∃ v L, o = .returned v ∧ own_Q4 Z oa h0 n0 v U'.heap L ∧ FrameEnd s o U' L own_room4.cells own_room4.slots) ?_
  refine own_go (T' := s₁) (f' := (mkF m 0 #[.val (.ref oa)] [])) ?_ (fun _ k => castTop (own_ef4 m oa) k)
  refine own_go (T' := s₁) (f' := (mkF m 1 #[.val (.ref oa)] [(.ref oa)])) ?_ (fun _ k => XS.aloadN X0.here hx rfl (hb hby own_d4_0) rfl rfl k)
  obtain ⟨T1, X1, e1, st1⟩ := initO X0 hx hZ hown (hw _ (List.mem_of_getElem? (i := 17) rfl)) (hw _ (List.mem_of_getElem? (i := 18) rfl)) (hw _ (List.mem_of_getElem? (i := 19) rfl)) e0 (g := (mkF m 1 #[.val (.ref oa)] [(.ref oa)])) rfl (by rw [hml]; rfl) rfl (hb hby own_d4_1) (by decide) (W := 0) (by show 2 * 0 + _ ≤ _; exact Nat.le_of_eq rfl) (by decide)
  refine own_go (T' := T1) (f' := (mkF m 4 #[.val (.ref oa)] [])) ?_ (st1)
  obtain ⟨fs2, hr2, hrun2, hended2, hW2, hsame2⟩ := X1.leave (v := none) (fun _ => rfl)
  refine ⟨_, ⟨_, hrun2, hended2, _, _, rfl, ?_, ⟨_, rfl⟩, hW2, hsame2.mono (by decide) (by decide)⟩, fun _ k => (X1.returnOut hx Bd.returns (hb hby own_d4_4) hr2).trans k⟩
  show own_Q4 Z oa h0 n0 _ T1.heap _
  rw [e1]
  exact ⟨rfl, N0, rfl⟩
def own_mkn (xa : Int32) : Int32 := if xa = (0 : Int32) then (0 : Int32) else if xa = (1 : Int32) then (1 : Int32) else if xa = (2 : Int32) then (2 : Int32) else (3 : Int32)
def own_mk (xa xb xc xd : Int32) : List Int32 := if xa = (0 : Int32) then [] else if xa = (1 : Int32) then [xb.toInt8.toInt32] else if xa = (2 : Int32) then [xb.toInt8.toInt32, xc.toInt8.toInt32] else [xb.toInt8.toInt32, xc.toInt8.toInt32, xd.toInt8.toInt32]
theorem own_pn1 : plainName "com/example/halyard/halyard/protocol/EntriesHeldHoldsPinLaw" = true := by first | (simp [plainName, overriddenIn]; done) | decide +kernel
theorem own_d1_0 : decode method_2_code 0 = .ok (.iload_n 0, 1) := by decide +kernel
theorem own_d1_1 : decode method_2_code 1 = .ok (.ifCond .ne 7, 3) := by decide +kernel
theorem own_d1_4 : decode method_2_code 4 = .ok (.iconst 0, 1) := by decide +kernel
theorem own_d1_5 : decode method_2_code 5 = .ok (.newarray .byte, 2) := by decide +kernel
theorem own_d1_7 : decode method_2_code 7 = .ok (.areturn, 1) := by decide +kernel
theorem own_d1_8 : decode method_2_code 8 = .ok (.iload_n 0, 1) := by decide +kernel
theorem own_d1_9 : decode method_2_code 9 = .ok (.iconst 1, 1) := by decide +kernel
theorem own_d1_10 : decode method_2_code 10 = .ok (.if_icmp .ne 11, 3) := by decide +kernel
theorem own_d1_13 : decode method_2_code 13 = .ok (.iconst 1, 1) := by decide +kernel
theorem own_d1_14 : decode method_2_code 14 = .ok (.newarray .byte, 2) := by decide +kernel
theorem own_d1_16 : decode method_2_code 16 = .ok (.dup, 1) := by decide +kernel
theorem own_d1_17 : decode method_2_code 17 = .ok (.iconst 0, 1) := by decide +kernel
theorem own_d1_18 : decode method_2_code 18 = .ok (.iload_n 1, 1) := by decide +kernel
theorem own_d1_19 : decode method_2_code 19 = .ok (.bastore, 1) := by decide +kernel
theorem own_d1_20 : decode method_2_code 20 = .ok (.areturn, 1) := by decide +kernel
theorem own_d1_21 : decode method_2_code 21 = .ok (.iload_n 0, 1) := by decide +kernel
theorem own_d1_22 : decode method_2_code 22 = .ok (.iconst 2, 1) := by decide +kernel
theorem own_d1_23 : decode method_2_code 23 = .ok (.if_icmp .ne 15, 3) := by decide +kernel
theorem own_d1_26 : decode method_2_code 26 = .ok (.iconst 2, 1) := by decide +kernel
theorem own_d1_27 : decode method_2_code 27 = .ok (.newarray .byte, 2) := by decide +kernel
theorem own_d1_29 : decode method_2_code 29 = .ok (.dup, 1) := by decide +kernel
theorem own_d1_30 : decode method_2_code 30 = .ok (.iconst 0, 1) := by decide +kernel
theorem own_d1_31 : decode method_2_code 31 = .ok (.iload_n 1, 1) := by decide +kernel
theorem own_d1_32 : decode method_2_code 32 = .ok (.bastore, 1) := by decide +kernel
theorem own_d1_33 : decode method_2_code 33 = .ok (.dup, 1) := by decide +kernel
theorem own_d1_34 : decode method_2_code 34 = .ok (.iconst 1, 1) := by decide +kernel
theorem own_d1_35 : decode method_2_code 35 = .ok (.iload_n 2, 1) := by decide +kernel
theorem own_d1_36 : decode method_2_code 36 = .ok (.bastore, 1) := by decide +kernel
theorem own_d1_37 : decode method_2_code 37 = .ok (.areturn, 1) := by decide +kernel
theorem own_d1_38 : decode method_2_code 38 = .ok (.iconst 3, 1) := by decide +kernel
theorem own_d1_39 : decode method_2_code 39 = .ok (.newarray .byte, 2) := by decide +kernel
theorem own_d1_41 : decode method_2_code 41 = .ok (.dup, 1) := by decide +kernel
theorem own_d1_42 : decode method_2_code 42 = .ok (.iconst 0, 1) := by decide +kernel
theorem own_d1_43 : decode method_2_code 43 = .ok (.iload_n 1, 1) := by decide +kernel
theorem own_d1_44 : decode method_2_code 44 = .ok (.bastore, 1) := by decide +kernel
theorem own_d1_45 : decode method_2_code 45 = .ok (.dup, 1) := by decide +kernel
theorem own_d1_46 : decode method_2_code 46 = .ok (.iconst 1, 1) := by decide +kernel
theorem own_d1_47 : decode method_2_code 47 = .ok (.iload_n 2, 1) := by decide +kernel
theorem own_d1_48 : decode method_2_code 48 = .ok (.bastore, 1) := by decide +kernel
theorem own_d1_49 : decode method_2_code 49 = .ok (.dup, 1) := by decide +kernel
theorem own_d1_50 : decode method_2_code 50 = .ok (.iconst 2, 1) := by decide +kernel
theorem own_d1_51 : decode method_2_code 51 = .ok (.iload_n 3, 1) := by decide +kernel
theorem own_d1_52 : decode method_2_code 52 = .ok (.bastore, 1) := by decide +kernel
theorem own_d1_53 : decode method_2_code 53 = .ok (.areturn, 1) := by decide +kernel
theorem own_ef1 (m : MethodId) (xa : Int32) (xb : Int32) (xc : Int32) (xd : Int32) : entryFrame m #[(.int xa), (.int xb), (.int xc), (.int xd)] 4 = mkF m 0 #[.val (.int xa), .val (.int xb), .val (.int xc), .val (.int xd)] [] := by first | (simp [entryFrame, mkF, argsToLocals, Value.category]; done) | rfl
abbrev own_room1 : Room := { frames := 0, cells := 1, slots := 3, locals := 0 }
def own_Q1 (Z : State) (xa : Int32) (xb : Int32) (xc : Int32) (xd : Int32) (h0 : Heap) (n0 : Nat) (v : Option Value) (h : Heap) (L : List Loc) : Prop := ∃ ob : Addr, v = some (.ref ob) ∧ Fr n0 L ∧ Keep h0 h [] ∧ h0.size ≤ ob ∧ own_AI Z h ob .byte (own_mkn xa) (own_mk xa xb xc xd)
set_option maxRecDepth 65536 in
set_option maxHeartbeats 40000000 in
theorem own_rm1 (l : Launch) (Z : State) (a0 : Array Value) (hw : ∀ d ∈ tables_1, d.before a0 Z = true) (ws : List Jvm.Cond) (xa : Int32) (xb : Int32) (xc : Int32) (xd : Int32) (h0 : Heap) (n0 : Nat) (Z0 : n0 ≤ h0.size) :
    MetFree l (⟨"com/example/halyard/halyard/protocol/EntriesHeldHoldsPinLaw", "make", "(IBBB)[B"⟩ : MethodName) (head1 (Jvm.Cond.code (⟨"com/example/halyard/halyard/protocol/EntriesHeldHoldsPinLaw", "make", "(IBBB)[B"⟩ : MethodName) method_2_code 4 (some (.array .byte)) :: ws) own_room1) (fun a U => a = #[(.int xa), (.int xb), (.int xc), (.int xd)] ∧ Z.Warmed39 U.vm ∧ U.heap = h0) (fun _ _ _ _ _ => True) (fun _ U o U' => ∃ v L, o = .returned v ∧ own_Q1 Z xa xb xc xd h0 n0 v U'.heap L ∧ FrameEnd U o U' L own_room1.cells own_room1.slots) := by
  refine MetFree.of_bodySF (plainFor_of_name own_pn1) hisR ?_
  intro p e s m args below meth c s₁ Bd hml0 hP hK
  obtain ⟨rfl, hZ, hh⟩ := hP
  have hx := Bd.exec
  have hby := Bd.bytes
  have hml : c.maxLocals = 4 := hml0
  have hown : s.vm.findClass "com/example/halyard/halyard/protocol/EntriesHeldHoldsPinLaw" = some m.cls := findClass_of_methodNamed Bd.named
  have hnm := (name_of_methodNamed Bd.named Bd.method).1
  have X0 : Stand p l e own_room1 s m #[(.int xa), (.int xb), (.int xc), (.int xd)] below meth c s₁ [] 0 0 := Stand.of_body Bd
  have e0 : s₁.heap = h0 := by rw [← hh, Bd.state]; rfl
  have N0 := Fr.nil n0
  refine own_out (Q := fun o U' => ∃ v L, o = .returned v ∧ own_Q1 Z xa xb xc xd h0 n0 v U'.heap L ∧ FrameEnd s o U' L own_room1.cells own_room1.slots) ?_
  refine own_go (T' := s₁) (f' := (mkF m 0 #[.val (.int xa), .val (.int xb), .val (.int xc), .val (.int xd)] [])) ?_ (fun _ k => castTop (own_ef1 m xa xb xc xd) k)
  refine own_go (T' := s₁) (f' := (mkF m 1 #[.val (.int xa), .val (.int xb), .val (.int xc), .val (.int xd)] [(.int xa)])) ?_ (fun _ k => XS.iloadN X0.here hx rfl (hb hby own_d1_0) rfl  k)
  by_cases hc1_1 : xa = (0 : Int32)
  · refine own_go (T' := s₁) (f' := (mkF m 4 #[.val (.int xa), .val (.int xb), .val (.int xc), .val (.int xd)] [])) ?_ (fun _ k => XS.ifNo X0.here hx rfl (hb hby own_d1_1) rfl ((if0 _ _).trans (teq hc1_1).2) k)
    refine own_go (T' := s₁) (f' := (mkF m 5 #[.val (.int xa), .val (.int xb), .val (.int xc), .val (.int xd)] [(.int (0 : Int32))])) ?_ (fun _ k => XS.iconst X0.here hx rfl (hb hby own_d1_4) k)
    obtain ⟨T2, h2, k2, X2, e2, E2, A2, st2⟩ := newP X0 hx hZ (hw _ (List.mem_of_getElem? (i := 5) rfl)) e0 (g := (mkF m 5 #[.val (.int xa), .val (.int xb), .val (.int xc), .val (.int xd)] [(.int (0 : Int32))])) rfl (hb hby own_d1_5) rfl (by decide) (cap := 0) (by decide) (by decide) (by decide) (by decide)
    obtain ⟨b2, g2⟩ : ∃ z, z = h0.size := ⟨_, rfl⟩
    rw [← g2] at A2 st2
    have KK2 : Keep h0 h2 [] := (Keep.refl h0 []).ext E2
    have g_b2 : n0 ≤ b2 := Nat.le_trans Z0 (Nat.le_of_eq g2.symm)
    have sz_b2 : h0.size ≤ b2 := Nat.le_trans (Keep.refl h0 []).1 (Nat.le_of_eq g2.symm)
    have ZZ2 : n0 ≤ h2.size := Nat.le_trans Z0 E2.1
    have AA2 : own_AI Z h2 b2 .byte (0 : Int32) [] := own_AI.new A2 (by decide) rfl
    refine own_go (T' := T2) (f' := (mkF m 7 #[.val (.int xa), .val (.int xb), .val (.int xc), .val (.int xd)] [(.ref b2)])) ?_ (st2)
    obtain ⟨fs3, hr3, hrun3, hended3, hW3, hsame3⟩ := X2.leave (v := some (.ref b2)) (fun h => by rw [Bd.returns] at h; cases h)
    refine ⟨_, ⟨_, hrun3, hended3, _, _, rfl, ?_, ⟨_, rfl⟩, hW3, hsame3.mono (by decide) (by decide)⟩, fun _ k => (X2.areturnOut hx rfl Bd.returns rfl (hb hby own_d1_7) hr3).trans k⟩
    show own_Q1 Z xa xb xc xd h0 n0 _ T2.heap _
    rw [e2]
    exact ⟨b2, rfl, N0, KK2, sz_b2, (by rw [show own_mkn xa = (0 : Int32) from (if_pos hc1_1), show own_mk xa xb xc xd = [] from (if_pos hc1_1)]; exact AA2)⟩
  · refine own_go (T' := s₁) (f' := (mkF m 8 #[.val (.int xa), .val (.int xb), .val (.int xc), .val (.int xd)] [])) ?_ (fun _ k => XS.ifYes X0.here hx rfl (pc0 := 1) (pc' := 8) rfl (hb hby own_d1_1) rfl ((if0 _ _).trans (feq hc1_1).2) (by decide) (by decide) k)
    refine own_go (T' := s₁) (f' := (mkF m 9 #[.val (.int xa), .val (.int xb), .val (.int xc), .val (.int xd)] [(.int xa)])) ?_ (fun _ k => XS.iloadN X0.here hx rfl (hb hby own_d1_8) rfl  k)
    refine own_go (T' := s₁) (f' := (mkF m 10 #[.val (.int xa), .val (.int xb), .val (.int xc), .val (.int xd)] [(.int (1 : Int32)), (.int xa)])) ?_ (fun _ k => XS.iconst X0.here hx rfl (hb hby own_d1_9) k)
    by_cases hc10_4 : xa = (1 : Int32)
    · refine own_go (T' := s₁) (f' := (mkF m 13 #[.val (.int xa), .val (.int xb), .val (.int xc), .val (.int xd)] [])) ?_ (fun _ k => XS.icmpNo X0.here hx rfl (hb hby own_d1_10) rfl (teq hc10_4).2 k)
      refine own_go (T' := s₁) (f' := (mkF m 14 #[.val (.int xa), .val (.int xb), .val (.int xc), .val (.int xd)] [(.int (1 : Int32))])) ?_ (fun _ k => XS.iconst X0.here hx rfl (hb hby own_d1_13) k)
      obtain ⟨T5, h5, k5, X5, e5, E5, A5, st5⟩ := newP X0 hx hZ (hw _ (List.mem_of_getElem? (i := 5) rfl)) e0 (g := (mkF m 14 #[.val (.int xa), .val (.int xb), .val (.int xc), .val (.int xd)] [(.int (1 : Int32))])) rfl (hb hby own_d1_14) rfl (by decide) (cap := 1) (by decide) (by decide) (by decide) (by decide)
      obtain ⟨b5, g5⟩ : ∃ z, z = h0.size := ⟨_, rfl⟩
      rw [← g5] at A5 st5
      have KK5 : Keep h0 h5 [] := (Keep.refl h0 []).ext E5
      have g_b5 : n0 ≤ b5 := Nat.le_trans Z0 (Nat.le_of_eq g5.symm)
      have sz_b5 : h0.size ≤ b5 := Nat.le_trans (Keep.refl h0 []).1 (Nat.le_of_eq g5.symm)
      have ZZ5 : n0 ≤ h5.size := Nat.le_trans Z0 E5.1
      have AA5 : own_AI Z h5 b5 .byte (1 : Int32) [(0 : Int32)] := own_AI.new A5 (by decide) rfl
      refine own_go (T' := T5) (f' := (mkF m 16 #[.val (.int xa), .val (.int xb), .val (.int xc), .val (.int xd)] [(.ref b5)])) ?_ (st5)
      refine own_go (T' := T5) (f' := (mkF m 17 #[.val (.int xa), .val (.int xb), .val (.int xc), .val (.int xd)] [(.ref b5), (.ref b5)])) ?_ (fun _ k => XS.dup X5.here hx rfl (hb hby own_d1_16) rfl rfl k)
      refine own_go (T' := T5) (f' := (mkF m 18 #[.val (.int xa), .val (.int xb), .val (.int xc), .val (.int xd)] [(.int (0 : Int32)), (.ref b5), (.ref b5)])) ?_ (fun _ k => XS.iconst X5.here hx rfl (hb hby own_d1_17) k)
      refine own_go (T' := T5) (f' := (mkF m 19 #[.val (.int xa), .val (.int xb), .val (.int xc), .val (.int xd)] [(.int xb), (.int (0 : Int32)), (.ref b5), (.ref b5)])) ?_ (fun _ k => XS.iloadN X5.here hx rfl (hb hby own_d1_18) rfl  k)
      obtain ⟨T6, h6, X6, e6, W6, F6, st6⟩ := own_stB X5 hx hZ e5 AA5 (j := (0 : Int32)) ⟨by decide, by decide⟩ (g := (mkF m 19 #[.val (.int xa), .val (.int xb), .val (.int xc), .val (.int xd)] [(.int xb), (.int (0 : Int32)), (.ref b5), (.ref b5)])) rfl rfl (hb hby own_d1_19)
      have Fw6 : own_AI Z h6 b5 .byte (1 : Int32) [xb.toInt8.toInt32] := F6
      have N6 := Fr.snoc X6 N0 g_b5
      have KK6 : Keep h0 h6 [] := KK5.wr W6 (Or.inr sz_b5)
      have ZZ6 : n0 ≤ h6.size := Nat.le_trans ZZ5 (Keep.of_wr W6).1
      refine own_go (T' := T6) (f' := (mkF m 20 #[.val (.int xa), .val (.int xb), .val (.int xc), .val (.int xd)] [(.ref b5)])) ?_ (st6)
      obtain ⟨fs8, hr8, hrun8, hended8, hW8, hsame8⟩ := X6.leave (v := some (.ref b5)) (fun h => by rw [Bd.returns] at h; cases h)
      refine ⟨_, ⟨_, hrun8, hended8, _, _, rfl, ?_, ⟨_, rfl⟩, hW8, hsame8.mono (by decide) (by decide)⟩, fun _ k => (X6.areturnOut hx rfl Bd.returns rfl (hb hby own_d1_20) hr8).trans k⟩
      show own_Q1 Z xa xb xc xd h0 n0 _ T6.heap _
      rw [e6]
      exact ⟨b5, rfl, N6, KK6, sz_b5, (by rw [show own_mkn xa = (1 : Int32) from (Eq.trans (if_neg hc1_1) (if_pos hc10_4)), show own_mk xa xb xc xd = [xb.toInt8.toInt32] from (Eq.trans (if_neg hc1_1) (if_pos hc10_4))]; exact Fw6)⟩
    · refine own_go (T' := s₁) (f' := (mkF m 21 #[.val (.int xa), .val (.int xb), .val (.int xc), .val (.int xd)] [])) ?_ (fun _ k => XS.icmpYes X0.here hx rfl (pc0 := 10) (pc' := 21) rfl (hb hby own_d1_10) rfl (feq hc10_4).2 (by decide) (by decide) k)
      refine own_go (T' := s₁) (f' := (mkF m 22 #[.val (.int xa), .val (.int xb), .val (.int xc), .val (.int xd)] [(.int xa)])) ?_ (fun _ k => XS.iloadN X0.here hx rfl (hb hby own_d1_21) rfl  k)
      refine own_go (T' := s₁) (f' := (mkF m 23 #[.val (.int xa), .val (.int xb), .val (.int xc), .val (.int xd)] [(.int (2 : Int32)), (.int xa)])) ?_ (fun _ k => XS.iconst X0.here hx rfl (hb hby own_d1_22) k)
      by_cases hc23_9 : xa = (2 : Int32)
      · refine own_go (T' := s₁) (f' := (mkF m 26 #[.val (.int xa), .val (.int xb), .val (.int xc), .val (.int xd)] [])) ?_ (fun _ k => XS.icmpNo X0.here hx rfl (hb hby own_d1_23) rfl (teq hc23_9).2 k)
        refine own_go (T' := s₁) (f' := (mkF m 27 #[.val (.int xa), .val (.int xb), .val (.int xc), .val (.int xd)] [(.int (2 : Int32))])) ?_ (fun _ k => XS.iconst X0.here hx rfl (hb hby own_d1_26) k)
        obtain ⟨T10, h10, k10, X10, e10, E10, A10, st10⟩ := newP X0 hx hZ (hw _ (List.mem_of_getElem? (i := 5) rfl)) e0 (g := (mkF m 27 #[.val (.int xa), .val (.int xb), .val (.int xc), .val (.int xd)] [(.int (2 : Int32))])) rfl (hb hby own_d1_27) rfl (by decide) (cap := 2) (by decide) (by decide) (by decide) (by decide)
        obtain ⟨b10, g10⟩ : ∃ z, z = h0.size := ⟨_, rfl⟩
        rw [← g10] at A10 st10
        have KK10 : Keep h0 h10 [] := (Keep.refl h0 []).ext E10
        have g_b10 : n0 ≤ b10 := Nat.le_trans Z0 (Nat.le_of_eq g10.symm)
        have sz_b10 : h0.size ≤ b10 := Nat.le_trans (Keep.refl h0 []).1 (Nat.le_of_eq g10.symm)
        have ZZ10 : n0 ≤ h10.size := Nat.le_trans Z0 E10.1
        have AA10 : own_AI Z h10 b10 .byte (2 : Int32) [(0 : Int32), (0 : Int32)] := own_AI.new A10 (by decide) rfl
        refine own_go (T' := T10) (f' := (mkF m 29 #[.val (.int xa), .val (.int xb), .val (.int xc), .val (.int xd)] [(.ref b10)])) ?_ (st10)
        refine own_go (T' := T10) (f' := (mkF m 30 #[.val (.int xa), .val (.int xb), .val (.int xc), .val (.int xd)] [(.ref b10), (.ref b10)])) ?_ (fun _ k => XS.dup X10.here hx rfl (hb hby own_d1_29) rfl rfl k)
        refine own_go (T' := T10) (f' := (mkF m 31 #[.val (.int xa), .val (.int xb), .val (.int xc), .val (.int xd)] [(.int (0 : Int32)), (.ref b10), (.ref b10)])) ?_ (fun _ k => XS.iconst X10.here hx rfl (hb hby own_d1_30) k)
        refine own_go (T' := T10) (f' := (mkF m 32 #[.val (.int xa), .val (.int xb), .val (.int xc), .val (.int xd)] [(.int xb), (.int (0 : Int32)), (.ref b10), (.ref b10)])) ?_ (fun _ k => XS.iloadN X10.here hx rfl (hb hby own_d1_31) rfl  k)
        obtain ⟨T11, h11, X11, e11, W11, F11, st11⟩ := own_stB X10 hx hZ e10 AA10 (j := (0 : Int32)) ⟨by decide, by decide⟩ (g := (mkF m 32 #[.val (.int xa), .val (.int xb), .val (.int xc), .val (.int xd)] [(.int xb), (.int (0 : Int32)), (.ref b10), (.ref b10)])) rfl rfl (hb hby own_d1_32)
        have Fw11 : own_AI Z h11 b10 .byte (2 : Int32) [xb.toInt8.toInt32, (0 : Int32)] := F11
        have N11 := Fr.snoc X11 N0 g_b10
        have KK11 : Keep h0 h11 [] := KK10.wr W11 (Or.inr sz_b10)
        have ZZ11 : n0 ≤ h11.size := Nat.le_trans ZZ10 (Keep.of_wr W11).1
        refine own_go (T' := T11) (f' := (mkF m 33 #[.val (.int xa), .val (.int xb), .val (.int xc), .val (.int xd)] [(.ref b10)])) ?_ (st11)
        refine own_go (T' := T11) (f' := (mkF m 34 #[.val (.int xa), .val (.int xb), .val (.int xc), .val (.int xd)] [(.ref b10), (.ref b10)])) ?_ (fun _ k => XS.dup X11.here hx rfl (hb hby own_d1_33) rfl rfl k)
        refine own_go (T' := T11) (f' := (mkF m 35 #[.val (.int xa), .val (.int xb), .val (.int xc), .val (.int xd)] [(.int (1 : Int32)), (.ref b10), (.ref b10)])) ?_ (fun _ k => XS.iconst X11.here hx rfl (hb hby own_d1_34) k)
        refine own_go (T' := T11) (f' := (mkF m 36 #[.val (.int xa), .val (.int xb), .val (.int xc), .val (.int xd)] [(.int xc), (.int (1 : Int32)), (.ref b10), (.ref b10)])) ?_ (fun _ k => XS.iloadN X11.here hx rfl (hb hby own_d1_35) rfl  k)
        obtain ⟨T13, h13, X13, e13, W13, F13, st13⟩ := own_stB X11 hx hZ e11 Fw11 (j := (1 : Int32)) ⟨by decide, by decide⟩ (g := (mkF m 36 #[.val (.int xa), .val (.int xb), .val (.int xc), .val (.int xd)] [(.int xc), (.int (1 : Int32)), (.ref b10), (.ref b10)])) rfl rfl (hb hby own_d1_36)
        have Fw13 : own_AI Z h13 b10 .byte (2 : Int32) [xb.toInt8.toInt32, xc.toInt8.toInt32] := F13
        have N13 := Fr.snoc X13 N11 g_b10
        have KK13 : Keep h0 h13 [] := KK11.wr W13 (Or.inr sz_b10)
        have ZZ13 : n0 ≤ h13.size := Nat.le_trans ZZ11 (Keep.of_wr W13).1
        refine own_go (T' := T13) (f' := (mkF m 37 #[.val (.int xa), .val (.int xb), .val (.int xc), .val (.int xd)] [(.ref b10)])) ?_ (st13)
        obtain ⟨fs15, hr15, hrun15, hended15, hW15, hsame15⟩ := X13.leave (v := some (.ref b10)) (fun h => by rw [Bd.returns] at h; cases h)
        refine ⟨_, ⟨_, hrun15, hended15, _, _, rfl, ?_, ⟨_, rfl⟩, hW15, hsame15.mono (by decide) (by decide)⟩, fun _ k => (X13.areturnOut hx rfl Bd.returns rfl (hb hby own_d1_37) hr15).trans k⟩
        show own_Q1 Z xa xb xc xd h0 n0 _ T13.heap _
        rw [e13]
        exact ⟨b10, rfl, N13, KK13, sz_b10, (by rw [show own_mkn xa = (2 : Int32) from (Eq.trans (if_neg hc1_1) (Eq.trans (if_neg hc10_4) (if_pos hc23_9))), show own_mk xa xb xc xd = [xb.toInt8.toInt32, xc.toInt8.toInt32] from (Eq.trans (if_neg hc1_1) (Eq.trans (if_neg hc10_4) (if_pos hc23_9)))]; exact Fw13)⟩
      · refine own_go (T' := s₁) (f' := (mkF m 38 #[.val (.int xa), .val (.int xb), .val (.int xc), .val (.int xd)] [])) ?_ (fun _ k => XS.icmpYes X0.here hx rfl (pc0 := 23) (pc' := 38) rfl (hb hby own_d1_23) rfl (feq hc23_9).2 (by decide) (by decide) k)
        refine own_go (T' := s₁) (f' := (mkF m 39 #[.val (.int xa), .val (.int xb), .val (.int xc), .val (.int xd)] [(.int (3 : Int32))])) ?_ (fun _ k => XS.iconst X0.here hx rfl (hb hby own_d1_38) k)
        obtain ⟨T16, h16, k16, X16, e16, E16, A16, st16⟩ := newP X0 hx hZ (hw _ (List.mem_of_getElem? (i := 5) rfl)) e0 (g := (mkF m 39 #[.val (.int xa), .val (.int xb), .val (.int xc), .val (.int xd)] [(.int (3 : Int32))])) rfl (hb hby own_d1_39) rfl (by decide) (cap := 3) (by decide) (by decide) (by decide) (by decide)
        obtain ⟨b16, g16⟩ : ∃ z, z = h0.size := ⟨_, rfl⟩
        rw [← g16] at A16 st16
        have KK16 : Keep h0 h16 [] := (Keep.refl h0 []).ext E16
        have g_b16 : n0 ≤ b16 := Nat.le_trans Z0 (Nat.le_of_eq g16.symm)
        have sz_b16 : h0.size ≤ b16 := Nat.le_trans (Keep.refl h0 []).1 (Nat.le_of_eq g16.symm)
        have ZZ16 : n0 ≤ h16.size := Nat.le_trans Z0 E16.1
        have AA16 : own_AI Z h16 b16 .byte (3 : Int32) [(0 : Int32), (0 : Int32), (0 : Int32)] := own_AI.new A16 (by decide) rfl
        refine own_go (T' := T16) (f' := (mkF m 41 #[.val (.int xa), .val (.int xb), .val (.int xc), .val (.int xd)] [(.ref b16)])) ?_ (st16)
        refine own_go (T' := T16) (f' := (mkF m 42 #[.val (.int xa), .val (.int xb), .val (.int xc), .val (.int xd)] [(.ref b16), (.ref b16)])) ?_ (fun _ k => XS.dup X16.here hx rfl (hb hby own_d1_41) rfl rfl k)
        refine own_go (T' := T16) (f' := (mkF m 43 #[.val (.int xa), .val (.int xb), .val (.int xc), .val (.int xd)] [(.int (0 : Int32)), (.ref b16), (.ref b16)])) ?_ (fun _ k => XS.iconst X16.here hx rfl (hb hby own_d1_42) k)
        refine own_go (T' := T16) (f' := (mkF m 44 #[.val (.int xa), .val (.int xb), .val (.int xc), .val (.int xd)] [(.int xb), (.int (0 : Int32)), (.ref b16), (.ref b16)])) ?_ (fun _ k => XS.iloadN X16.here hx rfl (hb hby own_d1_43) rfl  k)
        obtain ⟨T17, h17, X17, e17, W17, F17, st17⟩ := own_stB X16 hx hZ e16 AA16 (j := (0 : Int32)) ⟨by decide, by decide⟩ (g := (mkF m 44 #[.val (.int xa), .val (.int xb), .val (.int xc), .val (.int xd)] [(.int xb), (.int (0 : Int32)), (.ref b16), (.ref b16)])) rfl rfl (hb hby own_d1_44)
        have Fw17 : own_AI Z h17 b16 .byte (3 : Int32) [xb.toInt8.toInt32, (0 : Int32), (0 : Int32)] := F17
        have N17 := Fr.snoc X17 N0 g_b16
        have KK17 : Keep h0 h17 [] := KK16.wr W17 (Or.inr sz_b16)
        have ZZ17 : n0 ≤ h17.size := Nat.le_trans ZZ16 (Keep.of_wr W17).1
        refine own_go (T' := T17) (f' := (mkF m 45 #[.val (.int xa), .val (.int xb), .val (.int xc), .val (.int xd)] [(.ref b16)])) ?_ (st17)
        refine own_go (T' := T17) (f' := (mkF m 46 #[.val (.int xa), .val (.int xb), .val (.int xc), .val (.int xd)] [(.ref b16), (.ref b16)])) ?_ (fun _ k => XS.dup X17.here hx rfl (hb hby own_d1_45) rfl rfl k)
        refine own_go (T' := T17) (f' := (mkF m 47 #[.val (.int xa), .val (.int xb), .val (.int xc), .val (.int xd)] [(.int (1 : Int32)), (.ref b16), (.ref b16)])) ?_ (fun _ k => XS.iconst X17.here hx rfl (hb hby own_d1_46) k)
        refine own_go (T' := T17) (f' := (mkF m 48 #[.val (.int xa), .val (.int xb), .val (.int xc), .val (.int xd)] [(.int xc), (.int (1 : Int32)), (.ref b16), (.ref b16)])) ?_ (fun _ k => XS.iloadN X17.here hx rfl (hb hby own_d1_47) rfl  k)
        obtain ⟨T19, h19, X19, e19, W19, F19, st19⟩ := own_stB X17 hx hZ e17 Fw17 (j := (1 : Int32)) ⟨by decide, by decide⟩ (g := (mkF m 48 #[.val (.int xa), .val (.int xb), .val (.int xc), .val (.int xd)] [(.int xc), (.int (1 : Int32)), (.ref b16), (.ref b16)])) rfl rfl (hb hby own_d1_48)
        have Fw19 : own_AI Z h19 b16 .byte (3 : Int32) [xb.toInt8.toInt32, xc.toInt8.toInt32, (0 : Int32)] := F19
        have N19 := Fr.snoc X19 N17 g_b16
        have KK19 : Keep h0 h19 [] := KK17.wr W19 (Or.inr sz_b16)
        have ZZ19 : n0 ≤ h19.size := Nat.le_trans ZZ17 (Keep.of_wr W19).1
        refine own_go (T' := T19) (f' := (mkF m 49 #[.val (.int xa), .val (.int xb), .val (.int xc), .val (.int xd)] [(.ref b16)])) ?_ (st19)
        refine own_go (T' := T19) (f' := (mkF m 50 #[.val (.int xa), .val (.int xb), .val (.int xc), .val (.int xd)] [(.ref b16), (.ref b16)])) ?_ (fun _ k => XS.dup X19.here hx rfl (hb hby own_d1_49) rfl rfl k)
        refine own_go (T' := T19) (f' := (mkF m 51 #[.val (.int xa), .val (.int xb), .val (.int xc), .val (.int xd)] [(.int (2 : Int32)), (.ref b16), (.ref b16)])) ?_ (fun _ k => XS.iconst X19.here hx rfl (hb hby own_d1_50) k)
        refine own_go (T' := T19) (f' := (mkF m 52 #[.val (.int xa), .val (.int xb), .val (.int xc), .val (.int xd)] [(.int xd), (.int (2 : Int32)), (.ref b16), (.ref b16)])) ?_ (fun _ k => XS.iloadN X19.here hx rfl (hb hby own_d1_51) rfl  k)
        obtain ⟨T21, h21, X21, e21, W21, F21, st21⟩ := own_stB X19 hx hZ e19 Fw19 (j := (2 : Int32)) ⟨by decide, by decide⟩ (g := (mkF m 52 #[.val (.int xa), .val (.int xb), .val (.int xc), .val (.int xd)] [(.int xd), (.int (2 : Int32)), (.ref b16), (.ref b16)])) rfl rfl (hb hby own_d1_52)
        have Fw21 : own_AI Z h21 b16 .byte (3 : Int32) [xb.toInt8.toInt32, xc.toInt8.toInt32, xd.toInt8.toInt32] := F21
        have N21 := Fr.snoc X21 N19 g_b16
        have KK21 : Keep h0 h21 [] := KK19.wr W21 (Or.inr sz_b16)
        have ZZ21 : n0 ≤ h21.size := Nat.le_trans ZZ19 (Keep.of_wr W21).1
        refine own_go (T' := T21) (f' := (mkF m 53 #[.val (.int xa), .val (.int xb), .val (.int xc), .val (.int xd)] [(.ref b16)])) ?_ (st21)
        obtain ⟨fs23, hr23, hrun23, hended23, hW23, hsame23⟩ := X21.leave (v := some (.ref b16)) (fun h => by rw [Bd.returns] at h; cases h)
        refine ⟨_, ⟨_, hrun23, hended23, _, _, rfl, ?_, ⟨_, rfl⟩, hW23, hsame23.mono (by decide) (by decide)⟩, fun _ k => (X21.areturnOut hx rfl Bd.returns rfl (hb hby own_d1_53) hr23).trans k⟩
        show own_Q1 Z xa xb xc xd h0 n0 _ T21.heap _
        rw [e21]
        exact ⟨b16, rfl, N21, KK21, sz_b16, (by rw [show own_mkn xa = (3 : Int32) from (Eq.trans (if_neg hc1_1) (Eq.trans (if_neg hc10_4) (if_neg hc23_9))), show own_mk xa xb xc xd = [xb.toInt8.toInt32, xc.toInt8.toInt32, xd.toInt8.toInt32] from (Eq.trans (if_neg hc1_1) (Eq.trans (if_neg hc10_4) (if_neg hc23_9)))]; exact Fw21)⟩
theorem own_pd0 : parseMethodDescriptor "()V" = some ⟨[], none⟩ := by decide +kernel
theorem own_pn2 : plainName "com/example/halyard/halyard/protocol/Frame$EntriesHeld" = true := by first | (simp [plainName, overriddenIn]; done) | decide +kernel
theorem own_d2_0 : decode prog_139_method_2_code 0 = .ok (.aload_n 0, 1) := by decide +kernel
theorem own_d2_1 : decode prog_139_method_2_code 1 = .ok (.invokespecial 1, 3) := by decide +kernel
theorem own_d2_4 : decode prog_139_method_2_code 4 = .ok (.aload_n 0, 1) := by decide +kernel
theorem own_d2_5 : decode prog_139_method_2_code 5 = .ok (.lload_n 1, 1) := by decide +kernel
theorem own_d2_6 : decode prog_139_method_2_code 6 = .ok (.putfield 7, 3) := by decide +kernel
theorem own_d2_9 : decode prog_139_method_2_code 9 = .ok (.aload_n 0, 1) := by decide +kernel
theorem own_d2_10 : decode prog_139_method_2_code 10 = .ok (.iload_n 3, 1) := by decide +kernel
theorem own_d2_11 : decode prog_139_method_2_code 11 = .ok (.putfield 13, 3) := by decide +kernel
theorem own_d2_14 : decode prog_139_method_2_code 14 = .ok (.aload_n 0, 1) := by decide +kernel
theorem own_d2_15 : decode prog_139_method_2_code 15 = .ok (.aload 4, 2) := by decide +kernel
theorem own_d2_17 : decode prog_139_method_2_code 17 = .ok (.putfield 17, 3) := by decide +kernel
theorem own_d2_20 : decode prog_139_method_2_code 20 = .ok (.return_, 1) := by decide +kernel
theorem own_ef2 (m : MethodId) (oa : Addr) (xa : Int64) (xb : Int32) (ob : Addr) : entryFrame m #[(.ref oa), (.long xa), (.int xb), (.ref ob)] 5 = mkF m 0 #[.val (.ref oa), .val (.long xa), .second, .val (.int xb), .val (.ref ob)] [] := by first | (simp [entryFrame, mkF, argsToLocals, Value.category]; done) | rfl
abbrev own_room2 : Room := { frames := 2, cells := 0, slots := 0, locals := 24 }
def own_Q2 (Z : State) (oa : Addr) (xa : Int64) (xb : Int32) (ob : Addr) (h0 : Heap) (n0 : Nat) (v : Option Value) (h : Heap) (L : List Loc) : Prop := v = none ∧ Fr n0 L ∧ Keep h0 h [oa] ∧ Fld Z h oa "com/example/halyard/halyard/protocol/Frame$EntriesHeld" "requestId" "J" (.long xa) ∧ Fld Z h oa "com/example/halyard/halyard/protocol/Frame$EntriesHeld" "fenced" "Z" (.int (xb &&& 1)) ∧ Fld Z h oa "com/example/halyard/halyard/protocol/Frame$EntriesHeld" "held" "[B" (.ref ob)
set_option maxRecDepth 65536 in
set_option maxHeartbeats 40000000 in
theorem own_rm2 (l : Launch) (Z : State) (a0 : Array Value) (hw : ∀ d ∈ tables_1, d.before a0 Z = true) (ws : List Jvm.Cond) (oa : Addr) (xa : Int64) (xb : Int32) (ob : Addr) (h0 : Heap) (n0 : Nat) (Z0 : n0 ≤ h0.size) (E_oa : Exa Z h0 oa "com/example/halyard/halyard/protocol/Frame$EntriesHeld") (g_oa : n0 ≤ oa) (F_requestId_oa : Fld Z h0 oa "com/example/halyard/halyard/protocol/Frame$EntriesHeld" "requestId" "J" (.long (0 : Int64))) (F_fenced_oa : Fld Z h0 oa "com/example/halyard/halyard/protocol/Frame$EntriesHeld" "fenced" "Z" (.int (0 : Int32))) (F_held_oa : Fld Z h0 oa "com/example/halyard/halyard/protocol/Frame$EntriesHeld" "held" "[B" .null) :
    MetFree l (⟨"com/example/halyard/halyard/protocol/Frame$EntriesHeld", "<init>", "(JZ[B)V"⟩ : MethodName) (head1 (Jvm.Cond.code (⟨"com/example/halyard/halyard/protocol/Frame$EntriesHeld", "<init>", "(JZ[B)V"⟩ : MethodName) prog_139_method_2_code 5 none :: ws) own_room2) (fun a U => a = #[(.ref oa), (.long xa), (.int xb), (.ref ob)] ∧ Z.Warmed39 U.vm ∧ U.heap = h0) (fun _ _ _ _ _ => True) (fun _ U o U' => ∃ v L, o = .returned v ∧ own_Q2 Z oa xa xb ob h0 n0 v U'.heap L ∧ FrameEnd U o U' L own_room2.cells own_room2.slots) := by
  refine MetFree.of_bodySF (plainFor_of_name own_pn2) hisR ?_
  intro p e s m args below meth c s₁ Bd hml0 hP hK
  obtain ⟨rfl, hZ, hh⟩ := hP
  have hx := Bd.exec
  have hby := Bd.bytes
  have hml : c.maxLocals = 5 := hml0
  have hown : s.vm.findClass "com/example/halyard/halyard/protocol/Frame$EntriesHeld" = some m.cls := findClass_of_methodNamed Bd.named
  have hnm := (name_of_methodNamed Bd.named Bd.method).1
  have X0 : Stand p l e own_room2 s m #[(.ref oa), (.long xa), (.int xb), (.ref ob)] below meth c s₁ [] 0 0 := Stand.of_body Bd
  have e0 : s₁.heap = h0 := by rw [← hh, Bd.state]; rfl
  have N0 := Fr.nil n0
  refine own_out (Q := fun o U' => ∃ v L, o = .returned v ∧ own_Q2 Z oa xa xb ob h0 n0 v U'.heap L ∧ FrameEnd s o U' L own_room2.cells own_room2.slots) ?_
  refine own_go (T' := s₁) (f' := (mkF m 0 #[.val (.ref oa), .val (.long xa), .second, .val (.int xb), .val (.ref ob)] [])) ?_ (fun _ k => castTop (own_ef2 m oa xa xb ob) k)
  refine own_go (T' := s₁) (f' := (mkF m 1 #[.val (.ref oa), .val (.long xa), .second, .val (.int xb), .val (.ref ob)] [(.ref oa)])) ?_ (fun _ k => XS.aloadN X0.here hx rfl (hb hby own_d2_0) rfl rfl k)
  obtain ⟨_, _, ⟨T1, L1, k1, n1⟩, -, X1, ⟨Lc1, hQ1, l1, y1, z1⟩, st1⟩ := X0.specialBack hx (y := (⟨"java/lang/Record", "<init>", "()V"⟩ : MethodName)) rfl hown (mvT hZ (hw _ (List.mem_of_getElem? (i := 12) rfl))) (mvT hZ (hw _ (List.mem_of_getElem? (i := 13) rfl))) (mvT hZ (hw _ (List.mem_of_getElem? (i := 16) rfl))) (by decide) (backOf (W := 0) (own_rm4 l Z a0 hw [] oa h0 n0 Z0) hZ (hw _ (List.mem_of_getElem? (i := 16) rfl)) (hw _ (List.mem_of_getElem? (i := 15) rfl)) (by decide) (by decide)) (g := (mkF m 1 #[.val (.ref oa), .val (.long xa), .second, .val (.int xb), .val (.ref ob)] [(.ref oa)])) rfl (by rw [hml]; rfl) (Steps.refl _) (a := oa) (argsL := []) (rest := []) (lenOf own_pd0 rfl) rfl (by show 2 * 0 + _ ≤ _; exact Nat.le_of_eq rfl) (hb hby own_d2_1) (fun _ _ => ⟨rfl, e0, (by decide : 0 + 0 ≤ _), (by decide : 0 + 0 ≤ _)⟩)
  dsimp only [Pt.U, Pt.locs, Pt.cells, Pt.slots] at X1 l1 y1 z1 st1 hQ1
  subst y1 z1
  obtain ⟨rfl, N1q, e1⟩ := hQ1
  have N1 : Fr n0 L1 := l1 ▸ Fr.app N0 N1q
  refine own_go (T' := T1) (f' := (mkF m 4 #[.val (.ref oa), .val (.long xa), .second, .val (.int xb), .val (.ref ob)] [])) ?_ (fun _ k => st1.trans k)
  refine own_go (T' := T1) (f' := (mkF m 5 #[.val (.ref oa), .val (.long xa), .second, .val (.int xb), .val (.ref ob)] [(.ref oa)])) ?_ (fun _ k => XS.aloadN X1.here hx rfl (hb hby own_d2_4) rfl rfl k)
  refine own_go (T' := T1) (f' := (mkF m 6 #[.val (.ref oa), .val (.long xa), .second, .val (.int xb), .val (.ref ob)] [(.long xa), (.ref oa)])) ?_ (fun _ k => XS.lloadN X1.here hx rfl (hb hby own_d2_5) rfl  k)
  obtain ⟨T2, h2, X2, e2, W2, st2⟩ := putF X1 hx hZ hown (host := "") (Or.inl (hw _ (List.mem_of_getElem? (i := 20) rfl))) Via.refl e1 F_requestId_oa E_oa (Or.inr ⟨(hw _ (List.mem_of_getElem? (i := 21) rfl)), rfl, hnm⟩) (hw _ (List.mem_of_getElem? (i := 7) rfl)) (ty := .long) (by decide) rfl rfl (g := (mkF m 6 #[.val (.ref oa), .val (.long xa), .second, .val (.int xb), .val (.ref ob)] [(.long xa), (.ref oa)])) rfl rfl (hb hby own_d2_6)
  have fa3 := E_oa.wr W2
  have fa5 := F_fenced_oa.other W2 (Or.inr (slot_ne (Or.inr (hw _ (List.mem_of_getElem? (i := 23) rfl))) (Or.inr (hw _ (List.mem_of_getElem? (i := 21) rfl))) (by decide) (t := .boolean) (t' := .long) (by decide) (by decide)))
  have fa6 := F_held_oa.other W2 (Or.inr (slot_ne (Or.inr (hw _ (List.mem_of_getElem? (i := 25) rfl))) (Or.inr (hw _ (List.mem_of_getElem? (i := 21) rfl))) (by decide) (t := (.array .byte)) (t' := .long) (by decide) (by decide)))
  have Fw2 := F_requestId_oa.same W2
  have N2 := Fr.snoc X2 N1 g_oa
  have KK2 : Keep h0 h2 [oa] := (Keep.refl h0 [oa]).wr W2 (Or.inl (List.mem_of_getElem? (i := 0) rfl))
  have ZZ2 : n0 ≤ h2.size := Nat.le_trans Z0 (Keep.of_wr W2).1
  refine own_go (T' := T2) (f' := (mkF m 9 #[.val (.ref oa), .val (.long xa), .second, .val (.int xb), .val (.ref ob)] [])) ?_ (st2)
  refine own_go (T' := T2) (f' := (mkF m 10 #[.val (.ref oa), .val (.long xa), .second, .val (.int xb), .val (.ref ob)] [(.ref oa)])) ?_ (fun _ k => XS.aloadN X2.here hx rfl (hb hby own_d2_9) rfl rfl k)
  refine own_go (T' := T2) (f' := (mkF m 11 #[.val (.ref oa), .val (.long xa), .second, .val (.int xb), .val (.ref ob)] [(.int xb), (.ref oa)])) ?_ (fun _ k => XS.iloadN X2.here hx rfl (hb hby own_d2_10) rfl  k)
  obtain ⟨T7, h7, X7, e7, W7, st7⟩ := putFN X2 hx hZ hown (hw _ (List.mem_of_getElem? (i := 22) rfl)) Via.refl e2 fa5 fa3 (Or.inr ⟨(hw _ (List.mem_of_getElem? (i := 23) rfl)), rfl, hnm⟩) (hw _ (List.mem_of_getElem? (i := 7) rfl)) (ty := .boolean) (v' := (.int (xb &&& 1))) (by decide) rfl (fits_nar_bool _) (g := (mkF m 11 #[.val (.ref oa), .val (.long xa), .second, .val (.int xb), .val (.ref ob)] [(.int xb), (.ref oa)])) rfl rfl (hb hby own_d2_11)
  have fa8 := fa3.wr W7
  have fa10 := fa6.other W7 (Or.inr (slot_ne (Or.inr (hw _ (List.mem_of_getElem? (i := 25) rfl))) (Or.inr (hw _ (List.mem_of_getElem? (i := 23) rfl))) (by decide) (t := (.array .byte)) (t' := .boolean) (by decide) (by decide)))
  have fa11 := Fw2.other W7 (Or.inr (slot_ne (Or.inr (hw _ (List.mem_of_getElem? (i := 21) rfl))) (Or.inr (hw _ (List.mem_of_getElem? (i := 23) rfl))) (by decide) (t := .long) (t' := .boolean) (by decide) (by decide)))
  have Fw7 := fa5.same W7
  have N7 := Fr.snoc X7 N2 g_oa
  have KK7 : Keep h0 h7 [oa] := KK2.wr W7 (Or.inl (List.mem_of_getElem? (i := 0) rfl))
  have ZZ7 : n0 ≤ h7.size := Nat.le_trans ZZ2 (Keep.of_wr W7).1
  refine own_go (T' := T7) (f' := (mkF m 14 #[.val (.ref oa), .val (.long xa), .second, .val (.int xb), .val (.ref ob)] [])) ?_ (st7)
  refine own_go (T' := T7) (f' := (mkF m 15 #[.val (.ref oa), .val (.long xa), .second, .val (.int xb), .val (.ref ob)] [(.ref oa)])) ?_ (fun _ k => XS.aloadN X7.here hx rfl (hb hby own_d2_14) rfl rfl k)
  refine own_go (T' := T7) (f' := (mkF m 17 #[.val (.ref oa), .val (.long xa), .second, .val (.int xb), .val (.ref ob)] [(.ref ob), (.ref oa)])) ?_ (fun _ k => XS.aload X7.here hx rfl (hb hby own_d2_15) rfl rfl k)
  obtain ⟨T12, h12, X12, e12, W12, st12⟩ := putF X7 hx hZ hown (host := "") (Or.inl (hw _ (List.mem_of_getElem? (i := 24) rfl))) Via.refl e7 fa10 fa8 (Or.inr ⟨(hw _ (List.mem_of_getElem? (i := 25) rfl)), rfl, hnm⟩) (hw _ (List.mem_of_getElem? (i := 7) rfl)) (ty := (.array .byte)) (by decide) rfl rfl (g := (mkF m 17 #[.val (.ref oa), .val (.long xa), .second, .val (.int xb), .val (.ref ob)] [(.ref ob), (.ref oa)])) rfl rfl (hb hby own_d2_17)
  have fa13 := fa8.wr W12
  have fa15 := fa11.other W12 (Or.inr (slot_ne (Or.inr (hw _ (List.mem_of_getElem? (i := 21) rfl))) (Or.inr (hw _ (List.mem_of_getElem? (i := 25) rfl))) (by decide) (t := .long) (t' := (.array .byte)) (by decide) (by decide)))
  have fa16 := Fw7.other W12 (Or.inr (slot_ne (Or.inr (hw _ (List.mem_of_getElem? (i := 23) rfl))) (Or.inr (hw _ (List.mem_of_getElem? (i := 25) rfl))) (by decide) (t := .boolean) (t' := (.array .byte)) (by decide) (by decide)))
  have Fw12 := fa10.same W12
  have N12 := Fr.snoc X12 N7 g_oa
  have KK12 : Keep h0 h12 [oa] := KK7.wr W12 (Or.inl (List.mem_of_getElem? (i := 0) rfl))
  have ZZ12 : n0 ≤ h12.size := Nat.le_trans ZZ7 (Keep.of_wr W12).1
  refine own_go (T' := T12) (f' := (mkF m 20 #[.val (.ref oa), .val (.long xa), .second, .val (.int xb), .val (.ref ob)] [])) ?_ (st12)
  obtain ⟨fs17, hr17, hrun17, hended17, hW17, hsame17⟩ := X12.leave (v := none) (fun _ => rfl)
  refine ⟨_, ⟨_, hrun17, hended17, _, _, rfl, ?_, ⟨_, rfl⟩, hW17, hsame17.mono (by decide) (by decide)⟩, fun _ k => (X12.returnOut hx Bd.returns (hb hby own_d2_20) hr17).trans k⟩
  show own_Q2 Z oa xa xb ob h0 n0 _ T12.heap _
  rw [e12]
  exact ⟨rfl, N12, KK12, fa15, fa16, Fw12⟩
theorem own_div8i {i : Int32} (h : ¬ i < (0 : Int32)) : (i / (8 : Int32)).toInt = i.toInt / 8 := by
  rw [own_lt32, show (0 : Int32).toInt = 0 from rfl] at h
  have d : (i / (8 : Int32)).toInt = i.toInt.tdiv 8 := Jvm.Kit.i32_div (by simp [show (8 : Int32).toInt = 8 from rfl])
  rw [d, Int.tdiv_eq_ediv_of_nonneg (by omega)]
theorem own_div8 {xa : Int32} (h : ¬ xa < (0 : Int32)) : ¬ (xa / (8 : Int32)) < 0 := by
  have d := own_div8i h
  rw [own_lt32, show (0 : Int32).toInt = 0 from rfl] at h
  rw [own_lt32, d, show (0 : Int32).toInt = 0 from rfl]; omega

theorem own_d3_0 : decode prog_139_method_3_code 0 = .ok (.iload_n 1, 1) := by decide +kernel
theorem own_d3_1 : decode prog_139_method_3_code 1 = .ok (.bipush 8, 2) := by decide +kernel
theorem own_d3_3 : decode prog_139_method_3_code 3 = .ok (.idiv, 1) := by decide +kernel
theorem own_d3_4 : decode prog_139_method_3_code 4 = .ok (.aload_n 0, 1) := by decide +kernel
theorem own_d3_5 : decode prog_139_method_3_code 5 = .ok (.getfield 17, 3) := by decide +kernel
theorem own_d3_8 : decode prog_139_method_3_code 8 = .ok (.arraylength, 1) := by decide +kernel
theorem own_d3_9 : decode prog_139_method_3_code 9 = .ok (.if_icmp .ge 26, 3) := by decide +kernel
theorem own_d3_12 : decode prog_139_method_3_code 12 = .ok (.aload_n 0, 1) := by decide +kernel
theorem own_d3_13 : decode prog_139_method_3_code 13 = .ok (.getfield 17, 3) := by decide +kernel
theorem own_d3_16 : decode prog_139_method_3_code 16 = .ok (.iload_n 1, 1) := by decide +kernel
theorem own_d3_17 : decode prog_139_method_3_code 17 = .ok (.bipush 8, 2) := by decide +kernel
theorem own_d3_19 : decode prog_139_method_3_code 19 = .ok (.idiv, 1) := by decide +kernel
theorem own_d3_20 : decode prog_139_method_3_code 20 = .ok (.baload, 1) := by decide +kernel
theorem own_d3_21 : decode prog_139_method_3_code 21 = .ok (.iconst 1, 1) := by decide +kernel
theorem own_d3_22 : decode prog_139_method_3_code 22 = .ok (.iload_n 1, 1) := by decide +kernel
theorem own_d3_23 : decode prog_139_method_3_code 23 = .ok (.bipush 8, 2) := by decide +kernel
theorem own_d3_25 : decode prog_139_method_3_code 25 = .ok (.irem, 1) := by decide +kernel
theorem own_d3_26 : decode prog_139_method_3_code 26 = .ok (.ishl, 1) := by decide +kernel
theorem own_d3_27 : decode prog_139_method_3_code 27 = .ok (.iand, 1) := by decide +kernel
theorem own_d3_28 : decode prog_139_method_3_code 28 = .ok (.ifCond .eq 7, 3) := by decide +kernel
theorem own_d3_31 : decode prog_139_method_3_code 31 = .ok (.iconst 1, 1) := by decide +kernel
theorem own_d3_32 : decode prog_139_method_3_code 32 = .ok (.goto 4, 3) := by decide +kernel
theorem own_d3_35 : decode prog_139_method_3_code 35 = .ok (.iconst 0, 1) := by decide +kernel
theorem own_d3_36 : decode prog_139_method_3_code 36 = .ok (.ireturn, 1) := by decide +kernel
def own_v3_9_s0 (xa : Int32) (nl : Int32) (Lx : List Int32) : Int32 := (if (xa / (8 : Int32)) < nl then (if ((Lx.getD ((xa / (8 : Int32))).toNatClampNeg 0) &&& ((1 : Int32) <<< ((own_irem xa (8 : Int32)) &&& 31))) = (0 : Int32) then (0 : Int32) else (1 : Int32)) else (0 : Int32))
def own_f3 (xa : Int32) (nl : Int32) (Lx : List Int32) : Int32 := (own_v3_9_s0 xa nl Lx)
theorem own_b3_9_s0 (xa : Int32) (nl : Int32) (Lx : List Int32) : (own_v3_9_s0 xa nl Lx) &&& 1 = (own_v3_9_s0 xa nl Lx) := (own_ite_bool (own_ite_bool (by decide) (by decide)) (by decide))
theorem own_bf3 (xa : Int32) (nl : Int32) (Lx : List Int32) : (own_f3 xa nl Lx) &&& 1 = (own_f3 xa nl Lx) := (own_b3_9_s0 xa nl Lx)
theorem own_ef3 (m : MethodId) (oa : Addr) (xa : Int32) : entryFrame m #[(.ref oa), (.int xa)] 2 = mkF m 0 #[.val (.ref oa), .val (.int xa)] [] := by first | (simp [entryFrame, mkF, argsToLocals, Value.category]; done) | rfl
abbrev own_room3 : Room := { frames := 0, cells := 0, slots := 0, locals := 0 }
def own_Q3 (Z : State) (oa : Addr) (xa : Int32) (ob : Addr) (nl : Int32) (Lx : List Int32) (h0 : Heap) (n0 : Nat) (v : Option Value) (h : Heap) (L : List Loc) : Prop := v = some (.int (own_f3 xa nl Lx)) ∧ Fr n0 L ∧ h = h0
set_option maxRecDepth 65536 in
set_option maxHeartbeats 40000000 in
theorem own_rm3 (l : Launch) (Z : State) (a0 : Array Value) (hw : ∀ d ∈ tables_1, d.before a0 Z = true) (ws : List Jvm.Cond) (oa : Addr) (xa : Int32) (ob : Addr) (nl : Int32) (Lx : List Int32) (h0 : Heap) (n0 : Nat) (Z0 : n0 ≤ h0.size) (E_oa : Exa Z h0 oa "com/example/halyard/halyard/protocol/Frame$EntriesHeld") (F_held_oa : Fld Z h0 oa "com/example/halyard/halyard/protocol/Frame$EntriesHeld" "held" "[B" (.ref ob)) (A_ob : own_AI Z h0 ob .byte nl Lx) (hnn : ¬ xa < (0 : Int32)) :
    MetFree l (⟨"com/example/halyard/halyard/protocol/Frame$EntriesHeld", "holds", "(I)Z"⟩ : MethodName) (head1 (Jvm.Cond.code (⟨"com/example/halyard/halyard/protocol/Frame$EntriesHeld", "holds", "(I)Z"⟩ : MethodName) prog_139_method_3_code 2 (some .boolean) :: ws) own_room3) (fun a U => a = #[(.ref oa), (.int xa)] ∧ Z.Warmed39 U.vm ∧ U.heap = h0) (fun _ _ _ _ _ => True) (fun _ U o U' => ∃ v L, o = .returned v ∧ own_Q3 Z oa xa ob nl Lx h0 n0 v U'.heap L ∧ FrameEnd U o U' L own_room3.cells own_room3.slots) := by
  refine MetFree.of_bodySF (plainFor_of_name own_pn2) hisR ?_
  intro p e s m args below meth c s₁ Bd hml0 hP hK
  obtain ⟨rfl, hZ, hh⟩ := hP
  have hx := Bd.exec
  have hby := Bd.bytes
  have hml : c.maxLocals = 2 := hml0
  have hown : s.vm.findClass "com/example/halyard/halyard/protocol/Frame$EntriesHeld" = some m.cls := findClass_of_methodNamed Bd.named
  have hnm := (name_of_methodNamed Bd.named Bd.method).1
  have X0 : Stand p l e own_room3 s m #[(.ref oa), (.int xa)] below meth c s₁ [] 0 0 := Stand.of_body Bd
  have e0 : s₁.heap = h0 := by rw [← hh, Bd.state]; rfl
  have N0 := Fr.nil n0
  refine own_out (Q := fun o U' => ∃ v L, o = .returned v ∧ own_Q3 Z oa xa ob nl Lx h0 n0 v U'.heap L ∧ FrameEnd s o U' L own_room3.cells own_room3.slots) ?_
  refine own_go (T' := s₁) (f' := (mkF m 0 #[.val (.ref oa), .val (.int xa)] [])) ?_ (fun _ k => castTop (own_ef3 m oa xa) k)
  refine own_go (T' := s₁) (f' := (mkF m 1 #[.val (.ref oa), .val (.int xa)] [(.int xa)])) ?_ (fun _ k => XS.iloadN X0.here hx rfl (hb hby own_d3_0) rfl  k)
  refine own_go (T' := s₁) (f' := (mkF m 3 #[.val (.ref oa), .val (.int xa)] [(.int (8 : Int32)), (.int xa)])) ?_ (fun _ k => XS.bipush X0.here hx rfl (hb hby own_d3_1) k)
  refine own_go (T' := s₁) (f' := (mkF m 4 #[.val (.ref oa), .val (.int xa)] [(.int (xa / (8 : Int32)))])) ?_ (fun _ k => XS.idiv X0.here hx rfl (hb hby own_d3_3) rfl (by decide) k)
  refine own_go (T' := s₁) (f' := (mkF m 5 #[.val (.ref oa), .val (.int xa)] [(.ref oa), (.int (xa / (8 : Int32)))])) ?_ (fun _ k => XS.aloadN X0.here hx rfl (hb hby own_d3_4) rfl rfl k)
  obtain ⟨T1, X1, e1, st1⟩ := getF X0 hx hZ hown (host := "") (Or.inl (hw _ (List.mem_of_getElem? (i := 24) rfl))) Via.refl e0 F_held_oa (g := (mkF m 5 #[.val (.ref oa), .val (.int xa)] [(.ref oa), (.int (xa / (8 : Int32)))])) rfl rfl (hb hby own_d3_5)
  refine own_go (T' := T1) (f' := (mkF m 8 #[.val (.ref oa), .val (.int xa)] [(.ref ob), (.int (xa / (8 : Int32)))])) ?_ (st1)
  refine own_go (T' := T1) (f' := (mkF m 9 #[.val (.ref oa), .val (.int xa)] [(.int nl), (.int (xa / (8 : Int32)))])) ?_ (own_len X1 hx hZ e1 A_ob (g := (mkF m 8 #[.val (.ref oa), .val (.int xa)] [(.ref ob), (.int (xa / (8 : Int32)))])) rfl rfl (hb hby own_d3_8))
  obtain ⟨_, ⟨T2, L2, rfl, X2, e2, N2⟩, mg2⟩ : own_Goes p.tables e below (fun uu => ∃ (T' : State) (L' : List Loc), uu = T'.setTop (mkF m 36 #[.val (.ref oa), .val (.int xa)] [(.int (own_v3_9_s0 xa nl Lx))]) ∧ Stand p l e own_room3 s m #[(.ref oa), (.int xa)] below meth c T' L' 0 0 ∧ T'.heap = h0 ∧ Fr n0 L') T1 (mkF m 9 #[.val (.ref oa), .val (.int xa)] [(.int nl), (.int (xa / (8 : Int32)))]) := by
    by_cases hc9_3 : (xa / (8 : Int32)) < nl
    · refine own_go (T' := T1) (f' := (mkF m 12 #[.val (.ref oa), .val (.int xa)] [])) ?_ (fun _ k => XS.icmpNo X1.here hx rfl (hb hby own_d3_9) rfl (tlt hc9_3).2.1 k)
      refine own_go (T' := T1) (f' := (mkF m 13 #[.val (.ref oa), .val (.int xa)] [(.ref oa)])) ?_ (fun _ k => XS.aloadN X1.here hx rfl (hb hby own_d3_12) rfl rfl k)
      obtain ⟨T4, X4, e4, st4⟩ := getF X1 hx hZ hown (host := "") (Or.inl (hw _ (List.mem_of_getElem? (i := 24) rfl))) Via.refl e1 F_held_oa (g := (mkF m 13 #[.val (.ref oa), .val (.int xa)] [(.ref oa)])) rfl rfl (hb hby own_d3_13)
      refine own_go (T' := T4) (f' := (mkF m 16 #[.val (.ref oa), .val (.int xa)] [(.ref ob)])) ?_ (st4)
      refine own_go (T' := T4) (f' := (mkF m 17 #[.val (.ref oa), .val (.int xa)] [(.int xa), (.ref ob)])) ?_ (fun _ k => XS.iloadN X4.here hx rfl (hb hby own_d3_16) rfl  k)
      refine own_go (T' := T4) (f' := (mkF m 19 #[.val (.ref oa), .val (.int xa)] [(.int (8 : Int32)), (.int xa), (.ref ob)])) ?_ (fun _ k => XS.bipush X4.here hx rfl (hb hby own_d3_17) k)
      refine own_go (T' := T4) (f' := (mkF m 20 #[.val (.ref oa), .val (.int xa)] [(.int (xa / (8 : Int32))), (.ref ob)])) ?_ (fun _ k => XS.idiv X4.here hx rfl (hb hby own_d3_19) rfl (by decide) k)
      refine own_go (T' := T4) (f' := (mkF m 21 #[.val (.ref oa), .val (.int xa)] [(.int (Lx.getD ((xa / (8 : Int32))).toNatClampNeg 0))])) ?_ (own_ldB X4 hx hZ e4 A_ob (j := (xa / (8 : Int32))) ⟨own_div8 hnn, hc9_3⟩ (g := (mkF m 20 #[.val (.ref oa), .val (.int xa)] [(.int (xa / (8 : Int32))), (.ref ob)])) rfl rfl (hb hby own_d3_20))
      refine own_go (T' := T4) (f' := (mkF m 22 #[.val (.ref oa), .val (.int xa)] [(.int (1 : Int32)), (.int (Lx.getD ((xa / (8 : Int32))).toNatClampNeg 0))])) ?_ (fun _ k => XS.iconst X4.here hx rfl (hb hby own_d3_21) k)
      refine own_go (T' := T4) (f' := (mkF m 23 #[.val (.ref oa), .val (.int xa)] [(.int xa), (.int (1 : Int32)), (.int (Lx.getD ((xa / (8 : Int32))).toNatClampNeg 0))])) ?_ (fun _ k => XS.iloadN X4.here hx rfl (hb hby own_d3_22) rfl  k)
      refine own_go (T' := T4) (f' := (mkF m 25 #[.val (.ref oa), .val (.int xa)] [(.int (8 : Int32)), (.int xa), (.int (1 : Int32)), (.int (Lx.getD ((xa / (8 : Int32))).toNatClampNeg 0))])) ?_ (fun _ k => XS.bipush X4.here hx rfl (hb hby own_d3_23) k)
      refine own_go (T' := T4) (f' := (mkF m 26 #[.val (.ref oa), .val (.int xa)] [(.int (own_irem xa (8 : Int32))), (.int (1 : Int32)), (.int (Lx.getD ((xa / (8 : Int32))).toNatClampNeg 0))])) ?_ (fun _ k => XS.irem X4.here hx rfl (hb hby own_d3_25) rfl (by decide) k)
      refine own_go (T' := T4) (f' := (mkF m 27 #[.val (.ref oa), .val (.int xa)] [(.int ((1 : Int32) <<< ((own_irem xa (8 : Int32)) &&& 31))), (.int (Lx.getD ((xa / (8 : Int32))).toNatClampNeg 0))])) ?_ (fun _ k => XS.ishl X4.here hx rfl (hb hby own_d3_26) rfl k)
      refine own_go (T' := T4) (f' := (mkF m 28 #[.val (.ref oa), .val (.int xa)] [(.int ((Lx.getD ((xa / (8 : Int32))).toNatClampNeg 0) &&& ((1 : Int32) <<< ((own_irem xa (8 : Int32)) &&& 31))))])) ?_ (fun _ k => XS.iand X4.here hx rfl (hb hby own_d3_27) rfl k)
      by_cases hc28_5 : ((Lx.getD ((xa / (8 : Int32))).toNatClampNeg 0) &&& ((1 : Int32) <<< ((own_irem xa (8 : Int32)) &&& 31))) = (0 : Int32)
      · refine own_go (T' := T4) (f' := (mkF m 35 #[.val (.ref oa), .val (.int xa)] [])) ?_ (fun _ k => XS.ifYes X4.here hx rfl (pc0 := 28) (pc' := 35) rfl (hb hby own_d3_28) rfl ((if0 _ _).trans (teq hc28_5).1) (by decide) (by decide) k)
        refine own_go (T' := T4) (f' := (mkF m 36 #[.val (.ref oa), .val (.int xa)] [(.int (0 : Int32))])) ?_ (fun _ k => XS.iconst X4.here hx rfl (hb hby own_d3_35) k)
        have em6 : (own_v3_9_s0 xa nl Lx) = (0 : Int32) := (Eq.trans (if_pos hc9_3) (if_pos hc28_5))
        exact ⟨_, ⟨T4, _, (by rw [em6]), X4, e4, N0⟩, fun _ k => k⟩
      · refine own_go (T' := T4) (f' := (mkF m 31 #[.val (.ref oa), .val (.int xa)] [])) ?_ (fun _ k => XS.ifNo X4.here hx rfl (hb hby own_d3_28) rfl ((if0 _ _).trans (feq hc28_5).1) k)
        refine own_go (T' := T4) (f' := (mkF m 32 #[.val (.ref oa), .val (.int xa)] [(.int (1 : Int32))])) ?_ (fun _ k => XS.iconst X4.here hx rfl (hb hby own_d3_31) k)
        refine own_go (T' := T4) (f' := (mkF m 36 #[.val (.ref oa), .val (.int xa)] [(.int (1 : Int32))])) ?_ (fun _ k => XS.goto X4.here hx rfl (pc0 := 32) (pc' := 36) rfl (hb hby own_d3_32) (by decide) (by decide) k)
        have em7 : (own_v3_9_s0 xa nl Lx) = (1 : Int32) := (Eq.trans (if_pos hc9_3) (if_neg hc28_5))
        exact ⟨_, ⟨T4, _, (by rw [em7]), X4, e4, N0⟩, fun _ k => k⟩
    · refine own_go (T' := T1) (f' := (mkF m 35 #[.val (.ref oa), .val (.int xa)] [])) ?_ (fun _ k => XS.icmpYes X1.here hx rfl (pc0 := 9) (pc' := 35) rfl (hb hby own_d3_9) rfl (flt hc9_3).2.1 (by decide) (by decide) k)
      refine own_go (T' := T1) (f' := (mkF m 36 #[.val (.ref oa), .val (.int xa)] [(.int (0 : Int32))])) ?_ (fun _ k => XS.iconst X1.here hx rfl (hb hby own_d3_35) k)
      have em8 : (own_v3_9_s0 xa nl Lx) = (0 : Int32) := (if_neg hc9_3)
      exact ⟨_, ⟨T1, _, (by rw [em8]), X1, e1, N0⟩, fun _ k => k⟩
  refine own_go (T' := T2) (f' := (mkF m 36 #[.val (.ref oa), .val (.int xa)] [(.int (own_v3_9_s0 xa nl Lx))])) ?_ (mg2)
  obtain ⟨fs9, hr9, hrun9, hended9, hW9, hsame9⟩ := X2.leave (v := some (.int (own_v3_9_s0 xa nl Lx))) (fun h => by rw [Bd.returns] at h; cases h)
  refine ⟨_, ⟨_, hrun9, hended9, _, _, rfl, ?_, ⟨_, rfl⟩, hW9, hsame9.mono (by decide) (by decide)⟩, fun _ k => (own_retZ X2 hx Bd.returns (own_b3_9_s0 xa nl Lx) (hb hby own_d3_36) hr9).trans k⟩
  show own_Q3 Z oa xa ob nl Lx h0 n0 _ T2.heap _
  rw [e2]
  exact ⟨rfl, N2, rfl⟩
theorem own_pd1 : parseMethodDescriptor "(IBBB)[B" = some ⟨[.int, .byte, .byte, .byte], some (.array .byte)⟩ := by decide +kernel
theorem own_pd2 : parseMethodDescriptor "(JZ[B)V" = some ⟨[.long, .boolean, (.array .byte)], none⟩ := by decide +kernel
theorem own_pd3 : parseMethodDescriptor "(I)Z" = some ⟨[.int], some .boolean⟩ := by decide +kernel
def own_v0_9 (xa : Int32) : Int32 := ((xa >>> ((8 : Int32) &&& 31)).toInt8.toInt32)
def own_v0_16 (xa : Int32) : Int32 := ((xa >>> ((16 : Int32) &&& 31)).toInt8.toInt32)
def own_v0_23 (xb : Int32) : Int32 := (((xb.toUInt32 >>> ((1 : Int32) &&& 31).toUInt32).toInt32) &&& (3 : Int32))
def own_v0_28_8 (xb : Int32) : Int32 := (if (3 : Int32) < (own_v0_23 xb) then (3 : Int32) else (own_v0_23 xb))
def own_v0_38_s0 (xb : Int32) : Int32 := (if (xb &&& (8 : Int32)) = (0 : Int32) then (0 : Int32) else (1 : Int32))
def own_v0_65 (xc : Int32) : Int32 := ((xc &&& (2147483647 : Int32)) &&& (31 : Int32))
def own_v0_57_10 (xb : Int32) (xc : Int32) : Int32 := (if (xb &&& (1 : Int32)) = (0 : Int32) then (own_v0_65 xc) else (xc &&& (2147483647 : Int32)))
def own_v0_101 (xa : Int32) (xb : Int32) (xc : Int32) : Int32 := (own_f3 (own_v0_57_10 xb xc) (own_mkn (own_v0_28_8 xb)) (own_mk (own_v0_28_8 xb) (xa.toInt8.toInt32) (own_v0_9 xa) (own_v0_16 xa)))
def own_v0_107 (xb : Int32) (xc : Int32) : Int32 := (((own_v0_57_10 xb xc).toUInt32 >>> ((3 : Int32) &&& 31).toUInt32).toInt32)
def own_v0_131_17 (xa : Int32) (xb : Int32) (xc : Int32) : Int32 := (if (own_v0_107 xb xc) = (0 : Int32) then (xa.toInt8.toInt32) else (if (own_v0_107 xb xc) = (1 : Int32) then (own_v0_9 xa) else (own_v0_16 xa)))
def own_v0_166_s0 (xa : Int32) (xb : Int32) (xc : Int32) : Int32 := (if (((own_v0_131_17 xa xb xc) >>> (((own_v0_57_10 xb xc) &&& (7 : Int32)) &&& 31)) &&& (1 : Int32)) = (1 : Int32) then (1 : Int32) else (0 : Int32))
def own_v0_120_16 (xa : Int32) (xb : Int32) (xc : Int32) : Int32 := (if (own_v0_107 xb xc) < (own_v0_28_8 xb) then (own_v0_166_s0 xa xb xc) else (0 : Int32))
def own_v0_120_17 (xa : Int32) (xb : Int32) (xc : Int32) : Slot := (if (own_v0_107 xb xc) < (own_v0_28_8 xb) then (.val (.int (own_v0_131_17 xa xb xc))) else (.unset))
def own_v0_180_s0 (xa : Int32) (xb : Int32) (xc : Int32) : Int32 := (if (own_v0_101 xa xb xc) = (own_v0_120_16 xa xb xc) then (1 : Int32) else (0 : Int32))
def own_f0 (xa : Int32) (xb : Int32) (xc : Int32) : Int32 := (own_v0_180_s0 xa xb xc)
theorem own_b0_180_s0 (xa : Int32) (xb : Int32) (xc : Int32) : (own_v0_180_s0 xa xb xc) &&& 1 = (own_v0_180_s0 xa xb xc) := (own_ite_bool (by decide) (by decide))
theorem own_bf0 (xa : Int32) (xb : Int32) (xc : Int32) : (own_f0 xa xb xc) &&& 1 = (own_f0 xa xb xc) := (own_b0_180_s0 xa xb xc)
theorem own_nn (xb xc : Int32) : ¬ (own_v0_57_10 xb xc) < (0 : Int32) := by
  have e := own_pos31 xc
  have e2 : ((xc &&& (2147483647 : Int32)) &&& (31 : Int32)).toInt = (xc &&& (2147483647 : Int32)).toInt % 32 := Jvm.Kit.i32_mask _ 31 (k := 5) (by decide) (by decide)
  unfold own_v0_57_10 own_v0_65
  rw [own_lt32, show (0 : Int32).toInt = 0 from rfl]
  split <;> omega
theorem own_ef0 (m : MethodId) (xa : Int32) (xb : Int32) (xc : Int32) (xd : Int64) : entryFrame m #[(.int xa), (.int xb), (.int xc), (.long xd)] maxLocals = mkF m 0 #[.val (.int xa), .val (.int xb), .val (.int xc), .val (.long xd), .second, .unset, .unset, .unset, .unset, .unset, .unset, .unset, .unset, .unset, .unset, .unset, .unset, .unset] [] := by first | (simp [entryFrame, mkF, argsToLocals, Value.category, maxLocals]; done) | rfl
def own_Q0 (Z : State) (xa : Int32) (xb : Int32) (xc : Int32) (xd : Int64) (h0 : Heap) (n0 : Nat) (v : Option Value) (h : Heap) (L : List Loc) : Prop := v = some (.int (own_f0 xa xb xc)) ∧ Fr n0 L
set_option maxRecDepth 65536 in
set_option maxHeartbeats 40000000 in
theorem own_rm0 (l : Launch) (Z : State) (a0 : Array Value) (hw : ∀ d ∈ tables_1, d.before a0 Z = true) (ws : List Jvm.Cond) (xa : Int32) (xb : Int32) (xc : Int32) (xd : Int64) (h0 : Heap) (n0 : Nat) (Z0 : n0 ≤ h0.size) :
    MetFree l x (head1 (Jvm.Cond.code x code maxLocals ret :: ws) room_1) (fun a U => a = #[(.int xa), (.int xb), (.int xc), (.long xd)] ∧ Z.Warmed39 U.vm ∧ U.heap = h0) (fun _ _ _ _ _ => True) (fun _ U o U' => ∃ v L, o = .returned v ∧ own_Q0 Z xa xb xc xd h0 n0 v U'.heap L ∧ FrameEnd U o U' L 16 128) := by
  refine MetFree.of_bodySF (plainFor_of_name own_pn1) hisR ?_
  intro p e s m args below meth c s₁ Bd hml0 hP hK
  obtain ⟨rfl, hZ, hh⟩ := hP
  have hx := Bd.exec
  have hby := Bd.bytes
  have hml : c.maxLocals = 18 := hml0
  have hown : s.vm.findClass "com/example/halyard/halyard/protocol/EntriesHeldHoldsPinLaw" = some m.cls := findClass_of_methodNamed Bd.named
  have hnm := (name_of_methodNamed Bd.named Bd.method).1
  have X0 : Stand p l e room_1 s m #[(.int xa), (.int xb), (.int xc), (.long xd)] below meth c s₁ [] 0 0 := Stand.of_body Bd
  have e0 : s₁.heap = h0 := by rw [← hh, Bd.state]; rfl
  have N0 := Fr.nil n0
  refine own_out (Q := fun o U' => ∃ v L, o = .returned v ∧ own_Q0 Z xa xb xc xd h0 n0 v U'.heap L ∧ FrameEnd s o U' L 16 128) ?_
  refine own_go (T' := s₁) (f' := (mkF m 0 #[.val (.int xa), .val (.int xb), .val (.int xc), .val (.long xd), .second, .unset, .unset, .unset, .unset, .unset, .unset, .unset, .unset, .unset, .unset, .unset, .unset, .unset] [])) ?_ (fun _ k => castTop (own_ef0 m xa xb xc xd) k)
  refine own_go (T' := s₁) (f' := (mkF m 1 #[.val (.int xa), .val (.int xb), .val (.int xc), .val (.long xd), .second, .unset, .unset, .unset, .unset, .unset, .unset, .unset, .unset, .unset, .unset, .unset, .unset, .unset] [(.int xa)])) ?_ (fun _ k => XS.iloadN X0.here hx rfl (hb hby at_0) rfl  k)
  refine own_go (T' := s₁) (f' := (mkF m 2 #[.val (.int xa), .val (.int xb), .val (.int xc), .val (.long xd), .second, .unset, .unset, .unset, .unset, .unset, .unset, .unset, .unset, .unset, .unset, .unset, .unset, .unset] [(.int (xa.toInt8.toInt32))])) ?_ (fun _ k => XS.i2b X0.here hx rfl (hb hby at_1) rfl k)
  refine own_go (T' := s₁) (f' := (mkF m 4 #[.val (.int xa), .val (.int xb), .val (.int xc), .val (.long xd), .second, .val (.int (xa.toInt8.toInt32)), .unset, .unset, .unset, .unset, .unset, .unset, .unset, .unset, .unset, .unset, .unset, .unset] [])) ?_ (fun _ k => XS.istore X0.here hx rfl (hb hby at_2) rfl (l' := #[.val (.int xa), .val (.int xb), .val (.int xc), .val (.long xd), .second, .val (.int (xa.toInt8.toInt32)), .unset, .unset, .unset, .unset, .unset, .unset, .unset, .unset, .unset, .unset, .unset, .unset]) rfl k)
  refine own_go (T' := s₁) (f' := (mkF m 5 #[.val (.int xa), .val (.int xb), .val (.int xc), .val (.long xd), .second, .val (.int (xa.toInt8.toInt32)), .unset, .unset, .unset, .unset, .unset, .unset, .unset, .unset, .unset, .unset, .unset, .unset] [(.int xa)])) ?_ (fun _ k => XS.iloadN X0.here hx rfl (hb hby at_4) rfl  k)
  refine own_go (T' := s₁) (f' := (mkF m 7 #[.val (.int xa), .val (.int xb), .val (.int xc), .val (.long xd), .second, .val (.int (xa.toInt8.toInt32)), .unset, .unset, .unset, .unset, .unset, .unset, .unset, .unset, .unset, .unset, .unset, .unset] [(.int (8 : Int32)), (.int xa)])) ?_ (fun _ k => XS.bipush X0.here hx rfl (hb hby at_5) k)
  refine own_go (T' := s₁) (f' := (mkF m 8 #[.val (.int xa), .val (.int xb), .val (.int xc), .val (.long xd), .second, .val (.int (xa.toInt8.toInt32)), .unset, .unset, .unset, .unset, .unset, .unset, .unset, .unset, .unset, .unset, .unset, .unset] [(.int (xa >>> ((8 : Int32) &&& 31)))])) ?_ (fun _ k => XS.ishr X0.here hx rfl (hb hby at_7) rfl k)
  refine own_go (T' := s₁) (f' := (mkF m 9 #[.val (.int xa), .val (.int xb), .val (.int xc), .val (.long xd), .second, .val (.int (xa.toInt8.toInt32)), .unset, .unset, .unset, .unset, .unset, .unset, .unset, .unset, .unset, .unset, .unset, .unset] [(.int ((xa >>> ((8 : Int32) &&& 31)).toInt8.toInt32))])) ?_ (fun _ k => XS.i2b X0.here hx rfl (hb hby at_8) rfl k)
  refine own_go (T' := s₁) (f' := (mkF m 11 #[.val (.int xa), .val (.int xb), .val (.int xc), .val (.long xd), .second, .val (.int (xa.toInt8.toInt32)), .val (.int (own_v0_9 xa)), .unset, .unset, .unset, .unset, .unset, .unset, .unset, .unset, .unset, .unset, .unset] [])) ?_ (fun _ k => XS.istore X0.here hx rfl (hb hby at_9) rfl (l' := #[.val (.int xa), .val (.int xb), .val (.int xc), .val (.long xd), .second, .val (.int (xa.toInt8.toInt32)), .val (.int (own_v0_9 xa)), .unset, .unset, .unset, .unset, .unset, .unset, .unset, .unset, .unset, .unset, .unset]) rfl k)
  refine own_go (T' := s₁) (f' := (mkF m 12 #[.val (.int xa), .val (.int xb), .val (.int xc), .val (.long xd), .second, .val (.int (xa.toInt8.toInt32)), .val (.int (own_v0_9 xa)), .unset, .unset, .unset, .unset, .unset, .unset, .unset, .unset, .unset, .unset, .unset] [(.int xa)])) ?_ (fun _ k => XS.iloadN X0.here hx rfl (hb hby at_11) rfl  k)
  refine own_go (T' := s₁) (f' := (mkF m 14 #[.val (.int xa), .val (.int xb), .val (.int xc), .val (.long xd), .second, .val (.int (xa.toInt8.toInt32)), .val (.int (own_v0_9 xa)), .unset, .unset, .unset, .unset, .unset, .unset, .unset, .unset, .unset, .unset, .unset] [(.int (16 : Int32)), (.int xa)])) ?_ (fun _ k => XS.bipush X0.here hx rfl (hb hby at_12) k)
  refine own_go (T' := s₁) (f' := (mkF m 15 #[.val (.int xa), .val (.int xb), .val (.int xc), .val (.long xd), .second, .val (.int (xa.toInt8.toInt32)), .val (.int (own_v0_9 xa)), .unset, .unset, .unset, .unset, .unset, .unset, .unset, .unset, .unset, .unset, .unset] [(.int (xa >>> ((16 : Int32) &&& 31)))])) ?_ (fun _ k => XS.ishr X0.here hx rfl (hb hby at_14) rfl k)
  refine own_go (T' := s₁) (f' := (mkF m 16 #[.val (.int xa), .val (.int xb), .val (.int xc), .val (.long xd), .second, .val (.int (xa.toInt8.toInt32)), .val (.int (own_v0_9 xa)), .unset, .unset, .unset, .unset, .unset, .unset, .unset, .unset, .unset, .unset, .unset] [(.int ((xa >>> ((16 : Int32) &&& 31)).toInt8.toInt32))])) ?_ (fun _ k => XS.i2b X0.here hx rfl (hb hby at_15) rfl k)
  refine own_go (T' := s₁) (f' := (mkF m 18 #[.val (.int xa), .val (.int xb), .val (.int xc), .val (.long xd), .second, .val (.int (xa.toInt8.toInt32)), .val (.int (own_v0_9 xa)), .val (.int (own_v0_16 xa)), .unset, .unset, .unset, .unset, .unset, .unset, .unset, .unset, .unset, .unset] [])) ?_ (fun _ k => XS.istore X0.here hx rfl (hb hby at_16) rfl (l' := #[.val (.int xa), .val (.int xb), .val (.int xc), .val (.long xd), .second, .val (.int (xa.toInt8.toInt32)), .val (.int (own_v0_9 xa)), .val (.int (own_v0_16 xa)), .unset, .unset, .unset, .unset, .unset, .unset, .unset, .unset, .unset, .unset]) rfl k)
  refine own_go (T' := s₁) (f' := (mkF m 19 #[.val (.int xa), .val (.int xb), .val (.int xc), .val (.long xd), .second, .val (.int (xa.toInt8.toInt32)), .val (.int (own_v0_9 xa)), .val (.int (own_v0_16 xa)), .unset, .unset, .unset, .unset, .unset, .unset, .unset, .unset, .unset, .unset] [(.int xb)])) ?_ (fun _ k => XS.iloadN X0.here hx rfl (hb hby at_18) rfl  k)
  refine own_go (T' := s₁) (f' := (mkF m 20 #[.val (.int xa), .val (.int xb), .val (.int xc), .val (.long xd), .second, .val (.int (xa.toInt8.toInt32)), .val (.int (own_v0_9 xa)), .val (.int (own_v0_16 xa)), .unset, .unset, .unset, .unset, .unset, .unset, .unset, .unset, .unset, .unset] [(.int (1 : Int32)), (.int xb)])) ?_ (fun _ k => XS.iconst X0.here hx rfl (hb hby at_19) k)
  refine own_go (T' := s₁) (f' := (mkF m 21 #[.val (.int xa), .val (.int xb), .val (.int xc), .val (.long xd), .second, .val (.int (xa.toInt8.toInt32)), .val (.int (own_v0_9 xa)), .val (.int (own_v0_16 xa)), .unset, .unset, .unset, .unset, .unset, .unset, .unset, .unset, .unset, .unset] [(.int ((xb.toUInt32 >>> ((1 : Int32) &&& 31).toUInt32).toInt32))])) ?_ (fun _ k => XS.iushr X0.here hx rfl (hb hby at_20) rfl k)
  refine own_go (T' := s₁) (f' := (mkF m 22 #[.val (.int xa), .val (.int xb), .val (.int xc), .val (.long xd), .second, .val (.int (xa.toInt8.toInt32)), .val (.int (own_v0_9 xa)), .val (.int (own_v0_16 xa)), .unset, .unset, .unset, .unset, .unset, .unset, .unset, .unset, .unset, .unset] [(.int (3 : Int32)), (.int ((xb.toUInt32 >>> ((1 : Int32) &&& 31).toUInt32).toInt32))])) ?_ (fun _ k => XS.iconst X0.here hx rfl (hb hby at_21) k)
  refine own_go (T' := s₁) (f' := (mkF m 23 #[.val (.int xa), .val (.int xb), .val (.int xc), .val (.long xd), .second, .val (.int (xa.toInt8.toInt32)), .val (.int (own_v0_9 xa)), .val (.int (own_v0_16 xa)), .unset, .unset, .unset, .unset, .unset, .unset, .unset, .unset, .unset, .unset] [(.int (((xb.toUInt32 >>> ((1 : Int32) &&& 31).toUInt32).toInt32) &&& (3 : Int32)))])) ?_ (fun _ k => XS.iand X0.here hx rfl (hb hby at_22) rfl k)
  refine own_go (T' := s₁) (f' := (mkF m 25 #[.val (.int xa), .val (.int xb), .val (.int xc), .val (.long xd), .second, .val (.int (xa.toInt8.toInt32)), .val (.int (own_v0_9 xa)), .val (.int (own_v0_16 xa)), .val (.int (own_v0_23 xb)), .unset, .unset, .unset, .unset, .unset, .unset, .unset, .unset, .unset] [])) ?_ (fun _ k => XS.istore X0.here hx rfl (hb hby at_23) rfl (l' := #[.val (.int xa), .val (.int xb), .val (.int xc), .val (.long xd), .second, .val (.int (xa.toInt8.toInt32)), .val (.int (own_v0_9 xa)), .val (.int (own_v0_16 xa)), .val (.int (own_v0_23 xb)), .unset, .unset, .unset, .unset, .unset, .unset, .unset, .unset, .unset]) rfl k)
  refine own_go (T' := s₁) (f' := (mkF m 27 #[.val (.int xa), .val (.int xb), .val (.int xc), .val (.long xd), .second, .val (.int (xa.toInt8.toInt32)), .val (.int (own_v0_9 xa)), .val (.int (own_v0_16 xa)), .val (.int (own_v0_23 xb)), .unset, .unset, .unset, .unset, .unset, .unset, .unset, .unset, .unset] [(.int (own_v0_23 xb))])) ?_ (fun _ k => XS.iload X0.here hx rfl (hb hby at_25) rfl  k)
  refine own_go (T' := s₁) (f' := (mkF m 28 #[.val (.int xa), .val (.int xb), .val (.int xc), .val (.long xd), .second, .val (.int (xa.toInt8.toInt32)), .val (.int (own_v0_9 xa)), .val (.int (own_v0_16 xa)), .val (.int (own_v0_23 xb)), .unset, .unset, .unset, .unset, .unset, .unset, .unset, .unset, .unset] [(.int (3 : Int32)), (.int (own_v0_23 xb))])) ?_ (fun _ k => XS.iconst X0.here hx rfl (hb hby at_27) k)
  obtain ⟨_, ⟨T1, L1, rfl, X1, e1, N1⟩, mg1⟩ : own_Goes p.tables e below (fun uu => ∃ (T' : State) (L' : List Loc), uu = T'.setTop (mkF m 34 #[.val (.int xa), .val (.int xb), .val (.int xc), .val (.long xd), .second, .val (.int (xa.toInt8.toInt32)), .val (.int (own_v0_9 xa)), .val (.int (own_v0_16 xa)), .val (.int (own_v0_28_8 xb)), .unset, .unset, .unset, .unset, .unset, .unset, .unset, .unset, .unset] []) ∧ Stand p l e room_1 s m #[(.int xa), (.int xb), (.int xc), (.long xd)] below meth c T' L' 0 0 ∧ T'.heap = h0 ∧ Fr n0 L') s₁ (mkF m 28 #[.val (.int xa), .val (.int xb), .val (.int xc), .val (.long xd), .second, .val (.int (xa.toInt8.toInt32)), .val (.int (own_v0_9 xa)), .val (.int (own_v0_16 xa)), .val (.int (own_v0_23 xb)), .unset, .unset, .unset, .unset, .unset, .unset, .unset, .unset, .unset] [(.int (3 : Int32)), (.int (own_v0_23 xb))]) := by
    by_cases hc28_2 : (3 : Int32) < (own_v0_23 xb)
    · refine own_go (T' := s₁) (f' := (mkF m 31 #[.val (.int xa), .val (.int xb), .val (.int xc), .val (.long xd), .second, .val (.int (xa.toInt8.toInt32)), .val (.int (own_v0_9 xa)), .val (.int (own_v0_16 xa)), .val (.int (own_v0_23 xb)), .unset, .unset, .unset, .unset, .unset, .unset, .unset, .unset, .unset] [])) ?_ (fun _ k => XS.icmpNo X0.here hx rfl (hb hby at_28) rfl (tlt hc28_2).2.2.2 k)
      refine own_go (T' := s₁) (f' := (mkF m 32 #[.val (.int xa), .val (.int xb), .val (.int xc), .val (.long xd), .second, .val (.int (xa.toInt8.toInt32)), .val (.int (own_v0_9 xa)), .val (.int (own_v0_16 xa)), .val (.int (own_v0_23 xb)), .unset, .unset, .unset, .unset, .unset, .unset, .unset, .unset, .unset] [(.int (3 : Int32))])) ?_ (fun _ k => XS.iconst X0.here hx rfl (hb hby at_31) k)
      refine own_go (T' := s₁) (f' := (mkF m 34 #[.val (.int xa), .val (.int xb), .val (.int xc), .val (.long xd), .second, .val (.int (xa.toInt8.toInt32)), .val (.int (own_v0_9 xa)), .val (.int (own_v0_16 xa)), .val (.int (3 : Int32)), .unset, .unset, .unset, .unset, .unset, .unset, .unset, .unset, .unset] [])) ?_ (fun _ k => XS.istore X0.here hx rfl (hb hby at_32) rfl (l' := #[.val (.int xa), .val (.int xb), .val (.int xc), .val (.long xd), .second, .val (.int (xa.toInt8.toInt32)), .val (.int (own_v0_9 xa)), .val (.int (own_v0_16 xa)), .val (.int (3 : Int32)), .unset, .unset, .unset, .unset, .unset, .unset, .unset, .unset, .unset]) rfl k)
      have em3 : (own_v0_28_8 xb) = (3 : Int32) := (if_pos hc28_2)
      exact ⟨_, ⟨s₁, _, (by rw [em3]), X0, e0, N0⟩, fun _ k => k⟩
    · refine own_go (T' := s₁) (f' := (mkF m 34 #[.val (.int xa), .val (.int xb), .val (.int xc), .val (.long xd), .second, .val (.int (xa.toInt8.toInt32)), .val (.int (own_v0_9 xa)), .val (.int (own_v0_16 xa)), .val (.int (own_v0_23 xb)), .unset, .unset, .unset, .unset, .unset, .unset, .unset, .unset, .unset] [])) ?_ (fun _ k => XS.icmpYes X0.here hx rfl (pc0 := 28) (pc' := 34) rfl (hb hby at_28) rfl (flt hc28_2).2.2.2 (by decide) (by decide) k)
      have em4 : (own_v0_28_8 xb) = (own_v0_23 xb) := (if_neg hc28_2)
      exact ⟨_, ⟨s₁, _, (by rw [em4]), X0, e0, N0⟩, fun _ k => k⟩
  refine own_go (T' := T1) (f' := (mkF m 34 #[.val (.int xa), .val (.int xb), .val (.int xc), .val (.long xd), .second, .val (.int (xa.toInt8.toInt32)), .val (.int (own_v0_9 xa)), .val (.int (own_v0_16 xa)), .val (.int (own_v0_28_8 xb)), .unset, .unset, .unset, .unset, .unset, .unset, .unset, .unset, .unset] [])) ?_ (mg1)
  refine own_go (T' := T1) (f' := (mkF m 35 #[.val (.int xa), .val (.int xb), .val (.int xc), .val (.long xd), .second, .val (.int (xa.toInt8.toInt32)), .val (.int (own_v0_9 xa)), .val (.int (own_v0_16 xa)), .val (.int (own_v0_28_8 xb)), .unset, .unset, .unset, .unset, .unset, .unset, .unset, .unset, .unset] [(.int xb)])) ?_ (fun _ k => XS.iloadN X1.here hx rfl (hb hby at_34) rfl  k)
  refine own_go (T' := T1) (f' := (mkF m 37 #[.val (.int xa), .val (.int xb), .val (.int xc), .val (.long xd), .second, .val (.int (xa.toInt8.toInt32)), .val (.int (own_v0_9 xa)), .val (.int (own_v0_16 xa)), .val (.int (own_v0_28_8 xb)), .unset, .unset, .unset, .unset, .unset, .unset, .unset, .unset, .unset] [(.int (8 : Int32)), (.int xb)])) ?_ (fun _ k => XS.bipush X1.here hx rfl (hb hby at_35) k)
  refine own_go (T' := T1) (f' := (mkF m 38 #[.val (.int xa), .val (.int xb), .val (.int xc), .val (.long xd), .second, .val (.int (xa.toInt8.toInt32)), .val (.int (own_v0_9 xa)), .val (.int (own_v0_16 xa)), .val (.int (own_v0_28_8 xb)), .unset, .unset, .unset, .unset, .unset, .unset, .unset, .unset, .unset] [(.int (xb &&& (8 : Int32)))])) ?_ (fun _ k => XS.iand X1.here hx rfl (hb hby at_37) rfl k)
  obtain ⟨_, ⟨T5, L5, rfl, X5, e5, N5⟩, mg5⟩ : own_Goes p.tables e below (fun uu => ∃ (T' : State) (L' : List Loc), uu = T'.setTop (mkF m 46 #[.val (.int xa), .val (.int xb), .val (.int xc), .val (.long xd), .second, .val (.int (xa.toInt8.toInt32)), .val (.int (own_v0_9 xa)), .val (.int (own_v0_16 xa)), .val (.int (own_v0_28_8 xb)), .unset, .unset, .unset, .unset, .unset, .unset, .unset, .unset, .unset] [(.int (own_v0_38_s0 xb))]) ∧ Stand p l e room_1 s m #[(.int xa), (.int xb), (.int xc), (.long xd)] below meth c T' L' 0 0 ∧ T'.heap = h0 ∧ Fr n0 L') T1 (mkF m 38 #[.val (.int xa), .val (.int xb), .val (.int xc), .val (.long xd), .second, .val (.int (xa.toInt8.toInt32)), .val (.int (own_v0_9 xa)), .val (.int (own_v0_16 xa)), .val (.int (own_v0_28_8 xb)), .unset, .unset, .unset, .unset, .unset, .unset, .unset, .unset, .unset] [(.int (xb &&& (8 : Int32)))]) := by
    by_cases hc38_6 : (xb &&& (8 : Int32)) = (0 : Int32)
    · refine own_go (T' := T1) (f' := (mkF m 45 #[.val (.int xa), .val (.int xb), .val (.int xc), .val (.long xd), .second, .val (.int (xa.toInt8.toInt32)), .val (.int (own_v0_9 xa)), .val (.int (own_v0_16 xa)), .val (.int (own_v0_28_8 xb)), .unset, .unset, .unset, .unset, .unset, .unset, .unset, .unset, .unset] [])) ?_ (fun _ k => XS.ifYes X1.here hx rfl (pc0 := 38) (pc' := 45) rfl (hb hby at_38) rfl ((if0 _ _).trans (teq hc38_6).1) (by decide) (by decide) k)
      refine own_go (T' := T1) (f' := (mkF m 46 #[.val (.int xa), .val (.int xb), .val (.int xc), .val (.long xd), .second, .val (.int (xa.toInt8.toInt32)), .val (.int (own_v0_9 xa)), .val (.int (own_v0_16 xa)), .val (.int (own_v0_28_8 xb)), .unset, .unset, .unset, .unset, .unset, .unset, .unset, .unset, .unset] [(.int (0 : Int32))])) ?_ (fun _ k => XS.iconst X1.here hx rfl (hb hby at_45) k)
      have em7 : (own_v0_38_s0 xb) = (0 : Int32) := (if_pos hc38_6)
      exact ⟨_, ⟨T1, _, (by rw [em7]), X1, e1, N1⟩, fun _ k => k⟩
    · refine own_go (T' := T1) (f' := (mkF m 41 #[.val (.int xa), .val (.int xb), .val (.int xc), .val (.long xd), .second, .val (.int (xa.toInt8.toInt32)), .val (.int (own_v0_9 xa)), .val (.int (own_v0_16 xa)), .val (.int (own_v0_28_8 xb)), .unset, .unset, .unset, .unset, .unset, .unset, .unset, .unset, .unset] [])) ?_ (fun _ k => XS.ifNo X1.here hx rfl (hb hby at_38) rfl ((if0 _ _).trans (feq hc38_6).1) k)
      refine own_go (T' := T1) (f' := (mkF m 42 #[.val (.int xa), .val (.int xb), .val (.int xc), .val (.long xd), .second, .val (.int (xa.toInt8.toInt32)), .val (.int (own_v0_9 xa)), .val (.int (own_v0_16 xa)), .val (.int (own_v0_28_8 xb)), .unset, .unset, .unset, .unset, .unset, .unset, .unset, .unset, .unset] [(.int (1 : Int32))])) ?_ (fun _ k => XS.iconst X1.here hx rfl (hb hby at_41) k)
      refine own_go (T' := T1) (f' := (mkF m 46 #[.val (.int xa), .val (.int xb), .val (.int xc), .val (.long xd), .second, .val (.int (xa.toInt8.toInt32)), .val (.int (own_v0_9 xa)), .val (.int (own_v0_16 xa)), .val (.int (own_v0_28_8 xb)), .unset, .unset, .unset, .unset, .unset, .unset, .unset, .unset, .unset] [(.int (1 : Int32))])) ?_ (fun _ k => XS.goto X1.here hx rfl (pc0 := 42) (pc' := 46) rfl (hb hby at_42) (by decide) (by decide) k)
      have em8 : (own_v0_38_s0 xb) = (1 : Int32) := (if_neg hc38_6)
      exact ⟨_, ⟨T1, _, (by rw [em8]), X1, e1, N1⟩, fun _ k => k⟩
  refine own_go (T' := T5) (f' := (mkF m 46 #[.val (.int xa), .val (.int xb), .val (.int xc), .val (.long xd), .second, .val (.int (xa.toInt8.toInt32)), .val (.int (own_v0_9 xa)), .val (.int (own_v0_16 xa)), .val (.int (own_v0_28_8 xb)), .unset, .unset, .unset, .unset, .unset, .unset, .unset, .unset, .unset] [(.int (own_v0_38_s0 xb))])) ?_ (mg5)
  refine own_go (T' := T5) (f' := (mkF m 48 #[.val (.int xa), .val (.int xb), .val (.int xc), .val (.long xd), .second, .val (.int (xa.toInt8.toInt32)), .val (.int (own_v0_9 xa)), .val (.int (own_v0_16 xa)), .val (.int (own_v0_28_8 xb)), .val (.int (own_v0_38_s0 xb)), .unset, .unset, .unset, .unset, .unset, .unset, .unset, .unset] [])) ?_ (fun _ k => XS.istore X5.here hx rfl (hb hby at_46) rfl (l' := #[.val (.int xa), .val (.int xb), .val (.int xc), .val (.long xd), .second, .val (.int (xa.toInt8.toInt32)), .val (.int (own_v0_9 xa)), .val (.int (own_v0_16 xa)), .val (.int (own_v0_28_8 xb)), .val (.int (own_v0_38_s0 xb)), .unset, .unset, .unset, .unset, .unset, .unset, .unset, .unset]) rfl k)
  refine own_go (T' := T5) (f' := (mkF m 49 #[.val (.int xa), .val (.int xb), .val (.int xc), .val (.long xd), .second, .val (.int (xa.toInt8.toInt32)), .val (.int (own_v0_9 xa)), .val (.int (own_v0_16 xa)), .val (.int (own_v0_28_8 xb)), .val (.int (own_v0_38_s0 xb)), .unset, .unset, .unset, .unset, .unset, .unset, .unset, .unset] [(.int xc)])) ?_ (fun _ k => XS.iloadN X5.here hx rfl (hb hby at_48) rfl  k)
  refine own_go (T' := T5) (f' := (mkF m 51 #[.val (.int xa), .val (.int xb), .val (.int xc), .val (.long xd), .second, .val (.int (xa.toInt8.toInt32)), .val (.int (own_v0_9 xa)), .val (.int (own_v0_16 xa)), .val (.int (own_v0_28_8 xb)), .val (.int (own_v0_38_s0 xb)), .unset, .unset, .unset, .unset, .unset, .unset, .unset, .unset] [(.int (2147483647 : Int32)), (.int xc)])) ?_ (X5.ldcInt hx hown (mvT hZ (hw _ (List.mem_of_getElem? (i := 0) rfl))) (g := (mkF m 49 #[.val (.int xa), .val (.int xb), .val (.int xc), .val (.long xd), .second, .val (.int (xa.toInt8.toInt32)), .val (.int (own_v0_9 xa)), .val (.int (own_v0_16 xa)), .val (.int (own_v0_28_8 xb)), .val (.int (own_v0_38_s0 xb)), .unset, .unset, .unset, .unset, .unset, .unset, .unset, .unset] [(.int xc)])) rfl (hb hby at_49))
  refine own_go (T' := T5) (f' := (mkF m 52 #[.val (.int xa), .val (.int xb), .val (.int xc), .val (.long xd), .second, .val (.int (xa.toInt8.toInt32)), .val (.int (own_v0_9 xa)), .val (.int (own_v0_16 xa)), .val (.int (own_v0_28_8 xb)), .val (.int (own_v0_38_s0 xb)), .unset, .unset, .unset, .unset, .unset, .unset, .unset, .unset] [(.int (xc &&& (2147483647 : Int32)))])) ?_ (fun _ k => XS.iand X5.here hx rfl (hb hby at_51) rfl k)
  refine own_go (T' := T5) (f' := (mkF m 54 #[.val (.int xa), .val (.int xb), .val (.int xc), .val (.long xd), .second, .val (.int (xa.toInt8.toInt32)), .val (.int (own_v0_9 xa)), .val (.int (own_v0_16 xa)), .val (.int (own_v0_28_8 xb)), .val (.int (own_v0_38_s0 xb)), .val (.int (xc &&& (2147483647 : Int32))), .unset, .unset, .unset, .unset, .unset, .unset, .unset] [])) ?_ (fun _ k => XS.istore X5.here hx rfl (hb hby at_52) rfl (l' := #[.val (.int xa), .val (.int xb), .val (.int xc), .val (.long xd), .second, .val (.int (xa.toInt8.toInt32)), .val (.int (own_v0_9 xa)), .val (.int (own_v0_16 xa)), .val (.int (own_v0_28_8 xb)), .val (.int (own_v0_38_s0 xb)), .val (.int (xc &&& (2147483647 : Int32))), .unset, .unset, .unset, .unset, .unset, .unset, .unset]) rfl k)
  refine own_go (T' := T5) (f' := (mkF m 55 #[.val (.int xa), .val (.int xb), .val (.int xc), .val (.long xd), .second, .val (.int (xa.toInt8.toInt32)), .val (.int (own_v0_9 xa)), .val (.int (own_v0_16 xa)), .val (.int (own_v0_28_8 xb)), .val (.int (own_v0_38_s0 xb)), .val (.int (xc &&& (2147483647 : Int32))), .unset, .unset, .unset, .unset, .unset, .unset, .unset] [(.int xb)])) ?_ (fun _ k => XS.iloadN X5.here hx rfl (hb hby at_54) rfl  k)
  refine own_go (T' := T5) (f' := (mkF m 56 #[.val (.int xa), .val (.int xb), .val (.int xc), .val (.long xd), .second, .val (.int (xa.toInt8.toInt32)), .val (.int (own_v0_9 xa)), .val (.int (own_v0_16 xa)), .val (.int (own_v0_28_8 xb)), .val (.int (own_v0_38_s0 xb)), .val (.int (xc &&& (2147483647 : Int32))), .unset, .unset, .unset, .unset, .unset, .unset, .unset] [(.int (1 : Int32)), (.int xb)])) ?_ (fun _ k => XS.iconst X5.here hx rfl (hb hby at_55) k)
  refine own_go (T' := T5) (f' := (mkF m 57 #[.val (.int xa), .val (.int xb), .val (.int xc), .val (.long xd), .second, .val (.int (xa.toInt8.toInt32)), .val (.int (own_v0_9 xa)), .val (.int (own_v0_16 xa)), .val (.int (own_v0_28_8 xb)), .val (.int (own_v0_38_s0 xb)), .val (.int (xc &&& (2147483647 : Int32))), .unset, .unset, .unset, .unset, .unset, .unset, .unset] [(.int (xb &&& (1 : Int32)))])) ?_ (fun _ k => XS.iand X5.here hx rfl (hb hby at_56) rfl k)
  obtain ⟨_, ⟨T9, L9, rfl, X9, e9, N9⟩, mg9⟩ : own_Goes p.tables e below (fun uu => ∃ (T' : State) (L' : List Loc), uu = T'.setTop (mkF m 67 #[.val (.int xa), .val (.int xb), .val (.int xc), .val (.long xd), .second, .val (.int (xa.toInt8.toInt32)), .val (.int (own_v0_9 xa)), .val (.int (own_v0_16 xa)), .val (.int (own_v0_28_8 xb)), .val (.int (own_v0_38_s0 xb)), .val (.int (own_v0_57_10 xb xc)), .unset, .unset, .unset, .unset, .unset, .unset, .unset] []) ∧ Stand p l e room_1 s m #[(.int xa), (.int xb), (.int xc), (.long xd)] below meth c T' L' 0 0 ∧ T'.heap = h0 ∧ Fr n0 L') T5 (mkF m 57 #[.val (.int xa), .val (.int xb), .val (.int xc), .val (.long xd), .second, .val (.int (xa.toInt8.toInt32)), .val (.int (own_v0_9 xa)), .val (.int (own_v0_16 xa)), .val (.int (own_v0_28_8 xb)), .val (.int (own_v0_38_s0 xb)), .val (.int (xc &&& (2147483647 : Int32))), .unset, .unset, .unset, .unset, .unset, .unset, .unset] [(.int (xb &&& (1 : Int32)))]) := by
    by_cases hc57_10 : (xb &&& (1 : Int32)) = (0 : Int32)
    · refine own_go (T' := T5) (f' := (mkF m 60 #[.val (.int xa), .val (.int xb), .val (.int xc), .val (.long xd), .second, .val (.int (xa.toInt8.toInt32)), .val (.int (own_v0_9 xa)), .val (.int (own_v0_16 xa)), .val (.int (own_v0_28_8 xb)), .val (.int (own_v0_38_s0 xb)), .val (.int (xc &&& (2147483647 : Int32))), .unset, .unset, .unset, .unset, .unset, .unset, .unset] [])) ?_ (fun _ k => XS.ifNo X5.here hx rfl (hb hby at_57) rfl ((if0 _ _).trans (teq hc57_10).2) k)
      refine own_go (T' := T5) (f' := (mkF m 62 #[.val (.int xa), .val (.int xb), .val (.int xc), .val (.long xd), .second, .val (.int (xa.toInt8.toInt32)), .val (.int (own_v0_9 xa)), .val (.int (own_v0_16 xa)), .val (.int (own_v0_28_8 xb)), .val (.int (own_v0_38_s0 xb)), .val (.int (xc &&& (2147483647 : Int32))), .unset, .unset, .unset, .unset, .unset, .unset, .unset] [(.int (xc &&& (2147483647 : Int32)))])) ?_ (fun _ k => XS.iload X5.here hx rfl (hb hby at_60) rfl  k)
      refine own_go (T' := T5) (f' := (mkF m 64 #[.val (.int xa), .val (.int xb), .val (.int xc), .val (.long xd), .second, .val (.int (xa.toInt8.toInt32)), .val (.int (own_v0_9 xa)), .val (.int (own_v0_16 xa)), .val (.int (own_v0_28_8 xb)), .val (.int (own_v0_38_s0 xb)), .val (.int (xc &&& (2147483647 : Int32))), .unset, .unset, .unset, .unset, .unset, .unset, .unset] [(.int (31 : Int32)), (.int (xc &&& (2147483647 : Int32)))])) ?_ (fun _ k => XS.bipush X5.here hx rfl (hb hby at_62) k)
      refine own_go (T' := T5) (f' := (mkF m 65 #[.val (.int xa), .val (.int xb), .val (.int xc), .val (.long xd), .second, .val (.int (xa.toInt8.toInt32)), .val (.int (own_v0_9 xa)), .val (.int (own_v0_16 xa)), .val (.int (own_v0_28_8 xb)), .val (.int (own_v0_38_s0 xb)), .val (.int (xc &&& (2147483647 : Int32))), .unset, .unset, .unset, .unset, .unset, .unset, .unset] [(.int ((xc &&& (2147483647 : Int32)) &&& (31 : Int32)))])) ?_ (fun _ k => XS.iand X5.here hx rfl (hb hby at_64) rfl k)
      refine own_go (T' := T5) (f' := (mkF m 67 #[.val (.int xa), .val (.int xb), .val (.int xc), .val (.long xd), .second, .val (.int (xa.toInt8.toInt32)), .val (.int (own_v0_9 xa)), .val (.int (own_v0_16 xa)), .val (.int (own_v0_28_8 xb)), .val (.int (own_v0_38_s0 xb)), .val (.int (own_v0_65 xc)), .unset, .unset, .unset, .unset, .unset, .unset, .unset] [])) ?_ (fun _ k => XS.istore X5.here hx rfl (hb hby at_65) rfl (l' := #[.val (.int xa), .val (.int xb), .val (.int xc), .val (.long xd), .second, .val (.int (xa.toInt8.toInt32)), .val (.int (own_v0_9 xa)), .val (.int (own_v0_16 xa)), .val (.int (own_v0_28_8 xb)), .val (.int (own_v0_38_s0 xb)), .val (.int (own_v0_65 xc)), .unset, .unset, .unset, .unset, .unset, .unset, .unset]) rfl k)
      have em11 : (own_v0_57_10 xb xc) = (own_v0_65 xc) := (if_pos hc57_10)
      exact ⟨_, ⟨T5, _, (by rw [em11]), X5, e5, N5⟩, fun _ k => k⟩
    · refine own_go (T' := T5) (f' := (mkF m 67 #[.val (.int xa), .val (.int xb), .val (.int xc), .val (.long xd), .second, .val (.int (xa.toInt8.toInt32)), .val (.int (own_v0_9 xa)), .val (.int (own_v0_16 xa)), .val (.int (own_v0_28_8 xb)), .val (.int (own_v0_38_s0 xb)), .val (.int (xc &&& (2147483647 : Int32))), .unset, .unset, .unset, .unset, .unset, .unset, .unset] [])) ?_ (fun _ k => XS.ifYes X5.here hx rfl (pc0 := 57) (pc' := 67) rfl (hb hby at_57) rfl ((if0 _ _).trans (feq hc57_10).2) (by decide) (by decide) k)
      have em12 : (own_v0_57_10 xb xc) = (xc &&& (2147483647 : Int32)) := (if_neg hc57_10)
      exact ⟨_, ⟨T5, _, (by rw [em12]), X5, e5, N5⟩, fun _ k => k⟩
  refine own_go (T' := T9) (f' := (mkF m 67 #[.val (.int xa), .val (.int xb), .val (.int xc), .val (.long xd), .second, .val (.int (xa.toInt8.toInt32)), .val (.int (own_v0_9 xa)), .val (.int (own_v0_16 xa)), .val (.int (own_v0_28_8 xb)), .val (.int (own_v0_38_s0 xb)), .val (.int (own_v0_57_10 xb xc)), .unset, .unset, .unset, .unset, .unset, .unset, .unset] [])) ?_ (mg9)
  refine own_go (T' := T9) (f' := (mkF m 69 #[.val (.int xa), .val (.int xb), .val (.int xc), .val (.long xd), .second, .val (.int (xa.toInt8.toInt32)), .val (.int (own_v0_9 xa)), .val (.int (own_v0_16 xa)), .val (.int (own_v0_28_8 xb)), .val (.int (own_v0_38_s0 xb)), .val (.int (own_v0_57_10 xb xc)), .unset, .unset, .unset, .unset, .unset, .unset, .unset] [(.int (own_v0_28_8 xb))])) ?_ (fun _ k => XS.iload X9.here hx rfl (hb hby at_67) rfl  k)
  refine own_go (T' := T9) (f' := (mkF m 71 #[.val (.int xa), .val (.int xb), .val (.int xc), .val (.long xd), .second, .val (.int (xa.toInt8.toInt32)), .val (.int (own_v0_9 xa)), .val (.int (own_v0_16 xa)), .val (.int (own_v0_28_8 xb)), .val (.int (own_v0_38_s0 xb)), .val (.int (own_v0_57_10 xb xc)), .unset, .unset, .unset, .unset, .unset, .unset, .unset] [(.int (xa.toInt8.toInt32)), (.int (own_v0_28_8 xb))])) ?_ (fun _ k => XS.iload X9.here hx rfl (hb hby at_69) rfl  k)
  refine own_go (T' := T9) (f' := (mkF m 73 #[.val (.int xa), .val (.int xb), .val (.int xc), .val (.long xd), .second, .val (.int (xa.toInt8.toInt32)), .val (.int (own_v0_9 xa)), .val (.int (own_v0_16 xa)), .val (.int (own_v0_28_8 xb)), .val (.int (own_v0_38_s0 xb)), .val (.int (own_v0_57_10 xb xc)), .unset, .unset, .unset, .unset, .unset, .unset, .unset] [(.int (own_v0_9 xa)), (.int (xa.toInt8.toInt32)), (.int (own_v0_28_8 xb))])) ?_ (fun _ k => XS.iload X9.here hx rfl (hb hby at_71) rfl  k)
  refine own_go (T' := T9) (f' := (mkF m 75 #[.val (.int xa), .val (.int xb), .val (.int xc), .val (.long xd), .second, .val (.int (xa.toInt8.toInt32)), .val (.int (own_v0_9 xa)), .val (.int (own_v0_16 xa)), .val (.int (own_v0_28_8 xb)), .val (.int (own_v0_38_s0 xb)), .val (.int (own_v0_57_10 xb xc)), .unset, .unset, .unset, .unset, .unset, .unset, .unset] [(.int (own_v0_16 xa)), (.int (own_v0_9 xa)), (.int (xa.toInt8.toInt32)), (.int (own_v0_28_8 xb))])) ?_ (fun _ k => XS.iload X9.here hx rfl (hb hby at_73) rfl  k)
  obtain ⟨_, _, ⟨T13, L13, k13, n13⟩, -, X13, ⟨Lc13, hQ13, l13, y13, z13⟩, st13⟩ := Jvm.LawKit.callS X9 hx (y := (⟨"com/example/halyard/halyard/protocol/EntriesHeldHoldsPinLaw", "make", "(IBBB)[B"⟩ : MethodName)) hown (mvT hZ (hw _ (List.mem_of_getElem? (i := 1) rfl))) (mvT hZ (hw _ (List.mem_of_getElem? (i := 2) rfl))) (mvT hZ (hw _ (List.mem_of_getElem? (i := 3) rfl))) (mvT hZ (hw _ (List.mem_of_getElem? (i := 4) rfl))) (by decide) (backOf (W := 0) (own_rm1 l Z a0 hw [] (own_v0_28_8 xb) (xa.toInt8.toInt32) (own_v0_9 xa) (own_v0_16 xa) h0 n0 Z0) hZ (hw _ (List.mem_of_getElem? (i := 4) rfl)) (hw _ (List.mem_of_getElem? (i := 3) rfl)) (by decide) (by decide)) (g := (mkF m 75 #[.val (.int xa), .val (.int xb), .val (.int xc), .val (.long xd), .second, .val (.int (xa.toInt8.toInt32)), .val (.int (own_v0_9 xa)), .val (.int (own_v0_16 xa)), .val (.int (own_v0_28_8 xb)), .val (.int (own_v0_38_s0 xb)), .val (.int (own_v0_57_10 xb xc)), .unset, .unset, .unset, .unset, .unset, .unset, .unset] [(.int (own_v0_16 xa)), (.int (own_v0_9 xa)), (.int (xa.toInt8.toInt32)), (.int (own_v0_28_8 xb))])) rfl (by rw [hml]; rfl) (argsL := [(.int (own_v0_28_8 xb)), (.int (xa.toInt8.toInt32)), (.int (own_v0_9 xa)), (.int (own_v0_16 xa))]) (rest := []) (lenOf own_pd1 rfl) rfl (by show 2 * 0 + _ ≤ _; exact Nat.le_of_eq rfl) (hb hby at_75) (fun _ _ => ⟨rfl, e9, (by decide : 0 + 1 ≤ _), (by decide : 0 + 3 ≤ _)⟩)
  dsimp only [Pt.U, Pt.locs, Pt.cells, Pt.slots] at X13 l13 y13 z13 st13 hQ13
  subst y13 z13
  obtain ⟨ob_13, rfl, N13q, K13, P13_0, P13_1⟩ := hQ13
  have KK13 : Keep h0 T13.heap [] := (Keep.refl h0 []).trans K13 all0
  have ZZ13 : n0 ≤ T13.heap.size := Nat.le_trans Z0 K13.1
  have g_ob_13 : n0 ≤ ob_13 := Nat.le_trans Z0 P13_0
  have sz_ob_13 : h0.size ≤ ob_13 := Nat.le_trans (Keep.refl h0 []).1 P13_0
  have N13 : Fr n0 L13 := l13 ▸ Fr.app N9 N13q
  refine own_go (T' := T13) (f' := (mkF m 78 #[.val (.int xa), .val (.int xb), .val (.int xc), .val (.long xd), .second, .val (.int (xa.toInt8.toInt32)), .val (.int (own_v0_9 xa)), .val (.int (own_v0_16 xa)), .val (.int (own_v0_28_8 xb)), .val (.int (own_v0_38_s0 xb)), .val (.int (own_v0_57_10 xb xc)), .unset, .unset, .unset, .unset, .unset, .unset, .unset] [(.ref ob_13)])) ?_ (st13)
  refine own_go (T' := T13) (f' := (mkF m 80 #[.val (.int xa), .val (.int xb), .val (.int xc), .val (.long xd), .second, .val (.int (xa.toInt8.toInt32)), .val (.int (own_v0_9 xa)), .val (.int (own_v0_16 xa)), .val (.int (own_v0_28_8 xb)), .val (.int (own_v0_38_s0 xb)), .val (.int (own_v0_57_10 xb xc)), .val (.ref ob_13), .unset, .unset, .unset, .unset, .unset, .unset] [])) ?_ (fun _ k => XS.astore X13.here hx rfl (hb hby at_78) rfl rfl (l' := #[.val (.int xa), .val (.int xb), .val (.int xc), .val (.long xd), .second, .val (.int (xa.toInt8.toInt32)), .val (.int (own_v0_9 xa)), .val (.int (own_v0_16 xa)), .val (.int (own_v0_28_8 xb)), .val (.int (own_v0_38_s0 xb)), .val (.int (own_v0_57_10 xb xc)), .val (.ref ob_13), .unset, .unset, .unset, .unset, .unset, .unset]) rfl k)
  obtain ⟨T14, h14, X14, e14, E14, A14, D14, -, st14⟩ := newO X13 hx hZ hown (hw _ (List.mem_of_getElem? (i := 6) rfl)) (hw _ (List.mem_of_getElem? (i := 7) rfl)) (hw _ (List.mem_of_getElem? (i := 8) rfl)) rfl (g := (mkF m 80 #[.val (.int xa), .val (.int xb), .val (.int xc), .val (.long xd), .second, .val (.int (xa.toInt8.toInt32)), .val (.int (own_v0_9 xa)), .val (.int (own_v0_16 xa)), .val (.int (own_v0_28_8 xb)), .val (.int (own_v0_38_s0 xb)), .val (.int (own_v0_57_10 xb xc)), .val (.ref ob_13), .unset, .unset, .unset, .unset, .unset, .unset] [])) rfl (hb hby at_80) (by decide) (by decide)
  obtain ⟨b14, g14⟩ : ∃ z, z = T13.heap.size := ⟨_, rfl⟩
  rw [← g14] at A14 D14 st14
  have KK14 : Keep h0 h14 [] := KK13.ext E14
  have g_b14 : n0 ≤ b14 := Nat.le_trans ZZ13 (Nat.le_of_eq g14.symm)
  have sz_b14 : h0.size ≤ b14 := Nat.le_trans KK13.1 (Nat.le_of_eq g14.symm)
  have ZZ14 : n0 ≤ h14.size := Nat.le_trans ZZ13 E14.1
  have ne_ob_13_b14 : ob_13 ≠ b14 := Nat.ne_of_lt (Nat.lt_of_lt_of_le P13_1.lt (Nat.le_of_eq g14.symm))
  have fa15 := P13_1.ext E14
  have F14_requestId : Fld Z h14 b14 "com/example/halyard/halyard/protocol/Frame$EntriesHeld" "requestId" "J" (.long (0 : Int64)) := D14 (Or.inr (hw _ (List.mem_of_getElem? (i := 21) rfl))) (ty := .long) (by decide)
  have F14_fenced : Fld Z h14 b14 "com/example/halyard/halyard/protocol/Frame$EntriesHeld" "fenced" "Z" (.int (0 : Int32)) := D14 (Or.inr (hw _ (List.mem_of_getElem? (i := 23) rfl))) (ty := .boolean) (by decide)
  have F14_held : Fld Z h14 b14 "com/example/halyard/halyard/protocol/Frame$EntriesHeld" "held" "[B" .null := D14 (Or.inr (hw _ (List.mem_of_getElem? (i := 25) rfl))) (ty := (.array .byte)) (by decide)
  refine own_go (T' := T14) (f' := (mkF m 83 #[.val (.int xa), .val (.int xb), .val (.int xc), .val (.long xd), .second, .val (.int (xa.toInt8.toInt32)), .val (.int (own_v0_9 xa)), .val (.int (own_v0_16 xa)), .val (.int (own_v0_28_8 xb)), .val (.int (own_v0_38_s0 xb)), .val (.int (own_v0_57_10 xb xc)), .val (.ref ob_13), .unset, .unset, .unset, .unset, .unset, .unset] [(.ref b14)])) ?_ (st14)
  refine own_go (T' := T14) (f' := (mkF m 84 #[.val (.int xa), .val (.int xb), .val (.int xc), .val (.long xd), .second, .val (.int (xa.toInt8.toInt32)), .val (.int (own_v0_9 xa)), .val (.int (own_v0_16 xa)), .val (.int (own_v0_28_8 xb)), .val (.int (own_v0_38_s0 xb)), .val (.int (own_v0_57_10 xb xc)), .val (.ref ob_13), .unset, .unset, .unset, .unset, .unset, .unset] [(.ref b14), (.ref b14)])) ?_ (fun _ k => XS.dup X14.here hx rfl (hb hby at_83) rfl rfl k)
  refine own_go (T' := T14) (f' := (mkF m 85 #[.val (.int xa), .val (.int xb), .val (.int xc), .val (.long xd), .second, .val (.int (xa.toInt8.toInt32)), .val (.int (own_v0_9 xa)), .val (.int (own_v0_16 xa)), .val (.int (own_v0_28_8 xb)), .val (.int (own_v0_38_s0 xb)), .val (.int (own_v0_57_10 xb xc)), .val (.ref ob_13), .unset, .unset, .unset, .unset, .unset, .unset] [(.long xd), (.ref b14), (.ref b14)])) ?_ (fun _ k => XS.lloadN X14.here hx rfl (hb hby at_84) rfl  k)
  refine own_go (T' := T14) (f' := (mkF m 87 #[.val (.int xa), .val (.int xb), .val (.int xc), .val (.long xd), .second, .val (.int (xa.toInt8.toInt32)), .val (.int (own_v0_9 xa)), .val (.int (own_v0_16 xa)), .val (.int (own_v0_28_8 xb)), .val (.int (own_v0_38_s0 xb)), .val (.int (own_v0_57_10 xb xc)), .val (.ref ob_13), .unset, .unset, .unset, .unset, .unset, .unset] [(.int (own_v0_38_s0 xb)), (.long xd), (.ref b14), (.ref b14)])) ?_ (fun _ k => XS.iload X14.here hx rfl (hb hby at_85) rfl  k)
  refine own_go (T' := T14) (f' := (mkF m 89 #[.val (.int xa), .val (.int xb), .val (.int xc), .val (.long xd), .second, .val (.int (xa.toInt8.toInt32)), .val (.int (own_v0_9 xa)), .val (.int (own_v0_16 xa)), .val (.int (own_v0_28_8 xb)), .val (.int (own_v0_38_s0 xb)), .val (.int (own_v0_57_10 xb xc)), .val (.ref ob_13), .unset, .unset, .unset, .unset, .unset, .unset] [(.ref ob_13), (.int (own_v0_38_s0 xb)), (.long xd), (.ref b14), (.ref b14)])) ?_ (fun _ k => XS.aload X14.here hx rfl (hb hby at_87) rfl rfl k)
  obtain ⟨_, _, ⟨T16, L16, k16, n16⟩, -, X16, ⟨Lc16, hQ16, l16, y16, z16⟩, st16⟩ := X14.specialBack hx (y := (⟨"com/example/halyard/halyard/protocol/Frame$EntriesHeld", "<init>", "(JZ[B)V"⟩ : MethodName)) rfl hown (mvT hZ (hw _ (List.mem_of_getElem? (i := 9) rfl))) (mvT hZ (hw _ (List.mem_of_getElem? (i := 10) rfl))) (mvT hZ (hw _ (List.mem_of_getElem? (i := 11) rfl))) (by decide) (backOf (W := 1) (own_rm2 l Z a0 hw [] b14 xd (own_v0_38_s0 xb) ob_13 h14 n0 ZZ14 A14 g_b14 F14_requestId F14_fenced F14_held) hZ (hw _ (List.mem_of_getElem? (i := 11) rfl)) (hw _ (List.mem_of_getElem? (i := 8) rfl)) (by decide) (by decide)) (g := (mkF m 89 #[.val (.int xa), .val (.int xb), .val (.int xc), .val (.long xd), .second, .val (.int (xa.toInt8.toInt32)), .val (.int (own_v0_9 xa)), .val (.int (own_v0_16 xa)), .val (.int (own_v0_28_8 xb)), .val (.int (own_v0_38_s0 xb)), .val (.int (own_v0_57_10 xb xc)), .val (.ref ob_13), .unset, .unset, .unset, .unset, .unset, .unset] [(.ref ob_13), (.int (own_v0_38_s0 xb)), (.long xd), (.ref b14), (.ref b14)])) rfl (by rw [hml]; rfl) (Steps.refl _) (a := b14) (argsL := [(.long xd), (.int (own_v0_38_s0 xb)), (.ref ob_13)]) (rest := [(.ref b14)]) (lenOf own_pd2 rfl) rfl (by show 2 * 0 + _ ≤ _; exact Nat.le_of_eq rfl) (hb hby at_89) (fun _ _ => ⟨rfl, e14, (by decide : 2 + 0 ≤ _), (by decide : 6 + 0 ≤ _)⟩)
  dsimp only [Pt.U, Pt.locs, Pt.cells, Pt.slots] at X16 l16 y16 z16 st16 hQ16
  subst y16 z16
  obtain ⟨rfl, N16q, K16, P16_0, P16_1, P16_2⟩ := hQ16
  have fa17 := fa15.keep K16 (ninS ne_ob_13_b14 nin0)
  have fa18 := A14.keep K16
  have KK16 : Keep h0 T16.heap [] := KK14.trans K16 (allS (Or.inr sz_b14) all0)
  have ZZ16 : n0 ≤ T16.heap.size := Nat.le_trans ZZ14 K16.1
  have N16 : Fr n0 L16 := l16 ▸ Fr.app N13 N16q
  refine own_go (T' := T16) (f' := (mkF m 92 #[.val (.int xa), .val (.int xb), .val (.int xc), .val (.long xd), .second, .val (.int (xa.toInt8.toInt32)), .val (.int (own_v0_9 xa)), .val (.int (own_v0_16 xa)), .val (.int (own_v0_28_8 xb)), .val (.int (own_v0_38_s0 xb)), .val (.int (own_v0_57_10 xb xc)), .val (.ref ob_13), .unset, .unset, .unset, .unset, .unset, .unset] [(.ref b14)])) ?_ (fun _ k => st16.trans k)
  refine own_go (T' := T16) (f' := (mkF m 94 #[.val (.int xa), .val (.int xb), .val (.int xc), .val (.long xd), .second, .val (.int (xa.toInt8.toInt32)), .val (.int (own_v0_9 xa)), .val (.int (own_v0_16 xa)), .val (.int (own_v0_28_8 xb)), .val (.int (own_v0_38_s0 xb)), .val (.int (own_v0_57_10 xb xc)), .val (.ref ob_13), .val (.ref b14), .unset, .unset, .unset, .unset, .unset] [])) ?_ (fun _ k => XS.astore X16.here hx rfl (hb hby at_92) rfl rfl (l' := #[.val (.int xa), .val (.int xb), .val (.int xc), .val (.long xd), .second, .val (.int (xa.toInt8.toInt32)), .val (.int (own_v0_9 xa)), .val (.int (own_v0_16 xa)), .val (.int (own_v0_28_8 xb)), .val (.int (own_v0_38_s0 xb)), .val (.int (own_v0_57_10 xb xc)), .val (.ref ob_13), .val (.ref b14), .unset, .unset, .unset, .unset, .unset]) rfl k)
  refine own_go (T' := T16) (f' := (mkF m 96 #[.val (.int xa), .val (.int xb), .val (.int xc), .val (.long xd), .second, .val (.int (xa.toInt8.toInt32)), .val (.int (own_v0_9 xa)), .val (.int (own_v0_16 xa)), .val (.int (own_v0_28_8 xb)), .val (.int (own_v0_38_s0 xb)), .val (.int (own_v0_57_10 xb xc)), .val (.ref ob_13), .val (.ref b14), .unset, .unset, .unset, .unset, .unset] [(.ref b14)])) ?_ (fun _ k => XS.aload X16.here hx rfl (hb hby at_94) rfl rfl k)
  refine own_go (T' := T16) (f' := (mkF m 98 #[.val (.int xa), .val (.int xb), .val (.int xc), .val (.long xd), .second, .val (.int (xa.toInt8.toInt32)), .val (.int (own_v0_9 xa)), .val (.int (own_v0_16 xa)), .val (.int (own_v0_28_8 xb)), .val (.int (own_v0_38_s0 xb)), .val (.int (own_v0_57_10 xb xc)), .val (.ref ob_13), .val (.ref b14), .unset, .unset, .unset, .unset, .unset] [(.int (own_v0_57_10 xb xc)), (.ref b14)])) ?_ (fun _ k => XS.iload X16.here hx rfl (hb hby at_96) rfl  k)
  obtain ⟨cq22, kq22, qa22, qb22, qc22⟩ := isOf hZ rfl fa18
  obtain ⟨_, _, ⟨T22, L22, k22, n22⟩, -, X22, ⟨Lc22, hQ22, l22, y22, z22⟩, st22⟩ := X16.virtualBack hx (y := (⟨"com/example/halyard/halyard/protocol/Frame$EntriesHeld", "holds", "(I)Z"⟩ : MethodName)) (z := (⟨"com/example/halyard/halyard/protocol/Frame$EntriesHeld", "holds", "(I)Z"⟩ : MethodName)) hown (mvT hZ (hw _ (List.mem_of_getElem? (i := 26) rfl))) (mvT hZ (hw _ (List.mem_of_getElem? (i := 27) rfl))) (notFace_of_selects (args := #[]) (mvT hZ (hw _ (List.mem_of_getElem? (i := 29) rfl)))) (mvT hZ (hw _ (List.mem_of_getElem? (i := 29) rfl))) (mvT hZ (hw _ (List.mem_of_getElem? (i := 28) rfl))) (by decide) (backOf (W := 0) (own_rm3 l Z a0 hw [] b14 (own_v0_57_10 xb xc) ob_13 (own_mkn (own_v0_28_8 xb)) (own_mk (own_v0_28_8 xb) (xa.toInt8.toInt32) (own_v0_9 xa) (own_v0_16 xa)) T16.heap n0 ZZ16 fa18 P16_2 fa17 (own_nn xb xc)) hZ (hw _ (List.mem_of_getElem? (i := 30) rfl)) (hw _ (List.mem_of_getElem? (i := 8) rfl)) (by decide) (by decide)) qa22 qc22 (g := (mkF m 98 #[.val (.int xa), .val (.int xb), .val (.int xc), .val (.long xd), .second, .val (.int (xa.toInt8.toInt32)), .val (.int (own_v0_9 xa)), .val (.int (own_v0_16 xa)), .val (.int (own_v0_28_8 xb)), .val (.int (own_v0_38_s0 xb)), .val (.int (own_v0_57_10 xb xc)), .val (.ref ob_13), .val (.ref b14), .unset, .unset, .unset, .unset, .unset] [(.int (own_v0_57_10 xb xc)), (.ref b14)])) rfl (by rw [hml]; rfl) (Steps.refl _) (argsL := [(.int (own_v0_57_10 xb xc))]) (rest := []) (lenOf own_pd3 rfl) rfl (by show 2 * 0 + _ ≤ _; exact Nat.le_of_eq rfl) (hb hby at_98) (fun _ _ => ⟨rfl, rfl, (by decide : 2 + 0 ≤ _), (by decide : 6 + 0 ≤ _)⟩)
  dsimp only [Pt.U, Pt.locs, Pt.cells, Pt.slots] at X22 l22 y22 z22 st22 hQ22
  subst y22 z22
  obtain ⟨rfl, N22q, e22⟩ := hQ22
  have N22 : Fr n0 L22 := l22 ▸ Fr.app N16 N22q
  refine own_go (T' := T22) (f' := (mkF m 101 #[.val (.int xa), .val (.int xb), .val (.int xc), .val (.long xd), .second, .val (.int (xa.toInt8.toInt32)), .val (.int (own_v0_9 xa)), .val (.int (own_v0_16 xa)), .val (.int (own_v0_28_8 xb)), .val (.int (own_v0_38_s0 xb)), .val (.int (own_v0_57_10 xb xc)), .val (.ref ob_13), .val (.ref b14), .unset, .unset, .unset, .unset, .unset] [(.int (own_f3 (own_v0_57_10 xb xc) (own_mkn (own_v0_28_8 xb)) (own_mk (own_v0_28_8 xb) (xa.toInt8.toInt32) (own_v0_9 xa) (own_v0_16 xa))))])) ?_ (fun _ k => st22.trans k)
  refine own_go (T' := T22) (f' := (mkF m 103 #[.val (.int xa), .val (.int xb), .val (.int xc), .val (.long xd), .second, .val (.int (xa.toInt8.toInt32)), .val (.int (own_v0_9 xa)), .val (.int (own_v0_16 xa)), .val (.int (own_v0_28_8 xb)), .val (.int (own_v0_38_s0 xb)), .val (.int (own_v0_57_10 xb xc)), .val (.ref ob_13), .val (.ref b14), .val (.int (own_v0_101 xa xb xc)), .unset, .unset, .unset, .unset] [])) ?_ (fun _ k => XS.istore X22.here hx rfl (hb hby at_101) rfl (l' := #[.val (.int xa), .val (.int xb), .val (.int xc), .val (.long xd), .second, .val (.int (xa.toInt8.toInt32)), .val (.int (own_v0_9 xa)), .val (.int (own_v0_16 xa)), .val (.int (own_v0_28_8 xb)), .val (.int (own_v0_38_s0 xb)), .val (.int (own_v0_57_10 xb xc)), .val (.ref ob_13), .val (.ref b14), .val (.int (own_v0_101 xa xb xc)), .unset, .unset, .unset, .unset]) rfl k)
  refine own_go (T' := T22) (f' := (mkF m 105 #[.val (.int xa), .val (.int xb), .val (.int xc), .val (.long xd), .second, .val (.int (xa.toInt8.toInt32)), .val (.int (own_v0_9 xa)), .val (.int (own_v0_16 xa)), .val (.int (own_v0_28_8 xb)), .val (.int (own_v0_38_s0 xb)), .val (.int (own_v0_57_10 xb xc)), .val (.ref ob_13), .val (.ref b14), .val (.int (own_v0_101 xa xb xc)), .unset, .unset, .unset, .unset] [(.int (own_v0_57_10 xb xc))])) ?_ (fun _ k => XS.iload X22.here hx rfl (hb hby at_103) rfl  k)
  refine own_go (T' := T22) (f' := (mkF m 106 #[.val (.int xa), .val (.int xb), .val (.int xc), .val (.long xd), .second, .val (.int (xa.toInt8.toInt32)), .val (.int (own_v0_9 xa)), .val (.int (own_v0_16 xa)), .val (.int (own_v0_28_8 xb)), .val (.int (own_v0_38_s0 xb)), .val (.int (own_v0_57_10 xb xc)), .val (.ref ob_13), .val (.ref b14), .val (.int (own_v0_101 xa xb xc)), .unset, .unset, .unset, .unset] [(.int (3 : Int32)), (.int (own_v0_57_10 xb xc))])) ?_ (fun _ k => XS.iconst X22.here hx rfl (hb hby at_105) k)
  refine own_go (T' := T22) (f' := (mkF m 107 #[.val (.int xa), .val (.int xb), .val (.int xc), .val (.long xd), .second, .val (.int (xa.toInt8.toInt32)), .val (.int (own_v0_9 xa)), .val (.int (own_v0_16 xa)), .val (.int (own_v0_28_8 xb)), .val (.int (own_v0_38_s0 xb)), .val (.int (own_v0_57_10 xb xc)), .val (.ref ob_13), .val (.ref b14), .val (.int (own_v0_101 xa xb xc)), .unset, .unset, .unset, .unset] [(.int (((own_v0_57_10 xb xc).toUInt32 >>> ((3 : Int32) &&& 31).toUInt32).toInt32))])) ?_ (fun _ k => XS.iushr X22.here hx rfl (hb hby at_106) rfl k)
  refine own_go (T' := T22) (f' := (mkF m 109 #[.val (.int xa), .val (.int xb), .val (.int xc), .val (.long xd), .second, .val (.int (xa.toInt8.toInt32)), .val (.int (own_v0_9 xa)), .val (.int (own_v0_16 xa)), .val (.int (own_v0_28_8 xb)), .val (.int (own_v0_38_s0 xb)), .val (.int (own_v0_57_10 xb xc)), .val (.ref ob_13), .val (.ref b14), .val (.int (own_v0_101 xa xb xc)), .val (.int (own_v0_107 xb xc)), .unset, .unset, .unset] [])) ?_ (fun _ k => XS.istore X22.here hx rfl (hb hby at_107) rfl (l' := #[.val (.int xa), .val (.int xb), .val (.int xc), .val (.long xd), .second, .val (.int (xa.toInt8.toInt32)), .val (.int (own_v0_9 xa)), .val (.int (own_v0_16 xa)), .val (.int (own_v0_28_8 xb)), .val (.int (own_v0_38_s0 xb)), .val (.int (own_v0_57_10 xb xc)), .val (.ref ob_13), .val (.ref b14), .val (.int (own_v0_101 xa xb xc)), .val (.int (own_v0_107 xb xc)), .unset, .unset, .unset]) rfl k)
  refine own_go (T' := T22) (f' := (mkF m 111 #[.val (.int xa), .val (.int xb), .val (.int xc), .val (.long xd), .second, .val (.int (xa.toInt8.toInt32)), .val (.int (own_v0_9 xa)), .val (.int (own_v0_16 xa)), .val (.int (own_v0_28_8 xb)), .val (.int (own_v0_38_s0 xb)), .val (.int (own_v0_57_10 xb xc)), .val (.ref ob_13), .val (.ref b14), .val (.int (own_v0_101 xa xb xc)), .val (.int (own_v0_107 xb xc)), .unset, .unset, .unset] [(.int (own_v0_57_10 xb xc))])) ?_ (fun _ k => XS.iload X22.here hx rfl (hb hby at_109) rfl  k)
  refine own_go (T' := T22) (f' := (mkF m 113 #[.val (.int xa), .val (.int xb), .val (.int xc), .val (.long xd), .second, .val (.int (xa.toInt8.toInt32)), .val (.int (own_v0_9 xa)), .val (.int (own_v0_16 xa)), .val (.int (own_v0_28_8 xb)), .val (.int (own_v0_38_s0 xb)), .val (.int (own_v0_57_10 xb xc)), .val (.ref ob_13), .val (.ref b14), .val (.int (own_v0_101 xa xb xc)), .val (.int (own_v0_107 xb xc)), .unset, .unset, .unset] [(.int (7 : Int32)), (.int (own_v0_57_10 xb xc))])) ?_ (fun _ k => XS.bipush X22.here hx rfl (hb hby at_111) k)
  refine own_go (T' := T22) (f' := (mkF m 114 #[.val (.int xa), .val (.int xb), .val (.int xc), .val (.long xd), .second, .val (.int (xa.toInt8.toInt32)), .val (.int (own_v0_9 xa)), .val (.int (own_v0_16 xa)), .val (.int (own_v0_28_8 xb)), .val (.int (own_v0_38_s0 xb)), .val (.int (own_v0_57_10 xb xc)), .val (.ref ob_13), .val (.ref b14), .val (.int (own_v0_101 xa xb xc)), .val (.int (own_v0_107 xb xc)), .unset, .unset, .unset] [(.int ((own_v0_57_10 xb xc) &&& (7 : Int32)))])) ?_ (fun _ k => XS.iand X22.here hx rfl (hb hby at_113) rfl k)
  refine own_go (T' := T22) (f' := (mkF m 116 #[.val (.int xa), .val (.int xb), .val (.int xc), .val (.long xd), .second, .val (.int (xa.toInt8.toInt32)), .val (.int (own_v0_9 xa)), .val (.int (own_v0_16 xa)), .val (.int (own_v0_28_8 xb)), .val (.int (own_v0_38_s0 xb)), .val (.int (own_v0_57_10 xb xc)), .val (.ref ob_13), .val (.ref b14), .val (.int (own_v0_101 xa xb xc)), .val (.int (own_v0_107 xb xc)), .val (.int ((own_v0_57_10 xb xc) &&& (7 : Int32))), .unset, .unset] [])) ?_ (fun _ k => XS.istore X22.here hx rfl (hb hby at_114) rfl (l' := #[.val (.int xa), .val (.int xb), .val (.int xc), .val (.long xd), .second, .val (.int (xa.toInt8.toInt32)), .val (.int (own_v0_9 xa)), .val (.int (own_v0_16 xa)), .val (.int (own_v0_28_8 xb)), .val (.int (own_v0_38_s0 xb)), .val (.int (own_v0_57_10 xb xc)), .val (.ref ob_13), .val (.ref b14), .val (.int (own_v0_101 xa xb xc)), .val (.int (own_v0_107 xb xc)), .val (.int ((own_v0_57_10 xb xc) &&& (7 : Int32))), .unset, .unset]) rfl k)
  refine own_go (T' := T22) (f' := (mkF m 118 #[.val (.int xa), .val (.int xb), .val (.int xc), .val (.long xd), .second, .val (.int (xa.toInt8.toInt32)), .val (.int (own_v0_9 xa)), .val (.int (own_v0_16 xa)), .val (.int (own_v0_28_8 xb)), .val (.int (own_v0_38_s0 xb)), .val (.int (own_v0_57_10 xb xc)), .val (.ref ob_13), .val (.ref b14), .val (.int (own_v0_101 xa xb xc)), .val (.int (own_v0_107 xb xc)), .val (.int ((own_v0_57_10 xb xc) &&& (7 : Int32))), .unset, .unset] [(.int (own_v0_107 xb xc))])) ?_ (fun _ k => XS.iload X22.here hx rfl (hb hby at_116) rfl  k)
  refine own_go (T' := T22) (f' := (mkF m 120 #[.val (.int xa), .val (.int xb), .val (.int xc), .val (.long xd), .second, .val (.int (xa.toInt8.toInt32)), .val (.int (own_v0_9 xa)), .val (.int (own_v0_16 xa)), .val (.int (own_v0_28_8 xb)), .val (.int (own_v0_38_s0 xb)), .val (.int (own_v0_57_10 xb xc)), .val (.ref ob_13), .val (.ref b14), .val (.int (own_v0_101 xa xb xc)), .val (.int (own_v0_107 xb xc)), .val (.int ((own_v0_57_10 xb xc) &&& (7 : Int32))), .unset, .unset] [(.int (own_v0_28_8 xb)), (.int (own_v0_107 xb xc))])) ?_ (fun _ k => XS.iload X22.here hx rfl (hb hby at_118) rfl  k)
  obtain ⟨_, ⟨T23, L23, rfl, X23, e23, N23⟩, mg23⟩ : own_Goes p.tables e below (fun uu => ∃ (T' : State) (L' : List Loc), uu = T'.setTop (mkF m 176 #[.val (.int xa), .val (.int xb), .val (.int xc), .val (.long xd), .second, .val (.int (xa.toInt8.toInt32)), .val (.int (own_v0_9 xa)), .val (.int (own_v0_16 xa)), .val (.int (own_v0_28_8 xb)), .val (.int (own_v0_38_s0 xb)), .val (.int (own_v0_57_10 xb xc)), .val (.ref ob_13), .val (.ref b14), .val (.int (own_v0_101 xa xb xc)), .val (.int (own_v0_107 xb xc)), .val (.int ((own_v0_57_10 xb xc) &&& (7 : Int32))), .val (.int (own_v0_120_16 xa xb xc)), (own_v0_120_17 xa xb xc)] []) ∧ Stand p l e room_1 s m #[(.int xa), (.int xb), (.int xc), (.long xd)] below meth c T' L' 2 6 ∧ T'.heap = T16.heap ∧ Fr n0 L') T22 (mkF m 120 #[.val (.int xa), .val (.int xb), .val (.int xc), .val (.long xd), .second, .val (.int (xa.toInt8.toInt32)), .val (.int (own_v0_9 xa)), .val (.int (own_v0_16 xa)), .val (.int (own_v0_28_8 xb)), .val (.int (own_v0_38_s0 xb)), .val (.int (own_v0_57_10 xb xc)), .val (.ref ob_13), .val (.ref b14), .val (.int (own_v0_101 xa xb xc)), .val (.int (own_v0_107 xb xc)), .val (.int ((own_v0_57_10 xb xc) &&& (7 : Int32))), .unset, .unset] [(.int (own_v0_28_8 xb)), (.int (own_v0_107 xb xc))]) := by
    by_cases hc120_24 : (own_v0_107 xb xc) < (own_v0_28_8 xb)
    · refine own_go (T' := T22) (f' := (mkF m 129 #[.val (.int xa), .val (.int xb), .val (.int xc), .val (.long xd), .second, .val (.int (xa.toInt8.toInt32)), .val (.int (own_v0_9 xa)), .val (.int (own_v0_16 xa)), .val (.int (own_v0_28_8 xb)), .val (.int (own_v0_38_s0 xb)), .val (.int (own_v0_57_10 xb xc)), .val (.ref ob_13), .val (.ref b14), .val (.int (own_v0_101 xa xb xc)), .val (.int (own_v0_107 xb xc)), .val (.int ((own_v0_57_10 xb xc) &&& (7 : Int32))), .unset, .unset] [])) ?_ (fun _ k => XS.icmpYes X22.here hx rfl (pc0 := 120) (pc' := 129) rfl (hb hby at_120) rfl (tlt hc120_24).1 (by decide) (by decide) k)
      refine own_go (T' := T22) (f' := (mkF m 131 #[.val (.int xa), .val (.int xb), .val (.int xc), .val (.long xd), .second, .val (.int (xa.toInt8.toInt32)), .val (.int (own_v0_9 xa)), .val (.int (own_v0_16 xa)), .val (.int (own_v0_28_8 xb)), .val (.int (own_v0_38_s0 xb)), .val (.int (own_v0_57_10 xb xc)), .val (.ref ob_13), .val (.ref b14), .val (.int (own_v0_101 xa xb xc)), .val (.int (own_v0_107 xb xc)), .val (.int ((own_v0_57_10 xb xc) &&& (7 : Int32))), .unset, .unset] [(.int (own_v0_107 xb xc))])) ?_ (fun _ k => XS.iload X22.here hx rfl (hb hby at_129) rfl  k)
      obtain ⟨_, ⟨T25, L25, rfl, X25, e25, N25⟩, mg25⟩ : own_Goes p.tables e below (fun uu => ∃ (T' : State) (L' : List Loc), uu = T'.setTop (mkF m 158 #[.val (.int xa), .val (.int xb), .val (.int xc), .val (.long xd), .second, .val (.int (xa.toInt8.toInt32)), .val (.int (own_v0_9 xa)), .val (.int (own_v0_16 xa)), .val (.int (own_v0_28_8 xb)), .val (.int (own_v0_38_s0 xb)), .val (.int (own_v0_57_10 xb xc)), .val (.ref ob_13), .val (.ref b14), .val (.int (own_v0_101 xa xb xc)), .val (.int (own_v0_107 xb xc)), .val (.int ((own_v0_57_10 xb xc) &&& (7 : Int32))), .unset, .val (.int (own_v0_131_17 xa xb xc))] []) ∧ Stand p l e room_1 s m #[(.int xa), (.int xb), (.int xc), (.long xd)] below meth c T' L' 2 6 ∧ T'.heap = T16.heap ∧ Fr n0 L') T22 (mkF m 131 #[.val (.int xa), .val (.int xb), .val (.int xc), .val (.long xd), .second, .val (.int (xa.toInt8.toInt32)), .val (.int (own_v0_9 xa)), .val (.int (own_v0_16 xa)), .val (.int (own_v0_28_8 xb)), .val (.int (own_v0_38_s0 xb)), .val (.int (own_v0_57_10 xb xc)), .val (.ref ob_13), .val (.ref b14), .val (.int (own_v0_101 xa xb xc)), .val (.int (own_v0_107 xb xc)), .val (.int ((own_v0_57_10 xb xc) &&& (7 : Int32))), .unset, .unset] [(.int (own_v0_107 xb xc))]) := by
        by_cases hc131_26 : (own_v0_107 xb xc) = (0 : Int32)
        · refine own_go (T' := T22) (f' := (mkF m 134 #[.val (.int xa), .val (.int xb), .val (.int xc), .val (.long xd), .second, .val (.int (xa.toInt8.toInt32)), .val (.int (own_v0_9 xa)), .val (.int (own_v0_16 xa)), .val (.int (own_v0_28_8 xb)), .val (.int (own_v0_38_s0 xb)), .val (.int (own_v0_57_10 xb xc)), .val (.ref ob_13), .val (.ref b14), .val (.int (own_v0_101 xa xb xc)), .val (.int (own_v0_107 xb xc)), .val (.int ((own_v0_57_10 xb xc) &&& (7 : Int32))), .unset, .unset] [])) ?_ (fun _ k => XS.ifNo X22.here hx rfl (hb hby at_131) rfl ((if0 _ _).trans (teq hc131_26).2) k)
          refine own_go (T' := T22) (f' := (mkF m 136 #[.val (.int xa), .val (.int xb), .val (.int xc), .val (.long xd), .second, .val (.int (xa.toInt8.toInt32)), .val (.int (own_v0_9 xa)), .val (.int (own_v0_16 xa)), .val (.int (own_v0_28_8 xb)), .val (.int (own_v0_38_s0 xb)), .val (.int (own_v0_57_10 xb xc)), .val (.ref ob_13), .val (.ref b14), .val (.int (own_v0_101 xa xb xc)), .val (.int (own_v0_107 xb xc)), .val (.int ((own_v0_57_10 xb xc) &&& (7 : Int32))), .unset, .unset] [(.int (xa.toInt8.toInt32))])) ?_ (fun _ k => XS.iload X22.here hx rfl (hb hby at_134) rfl  k)
          refine own_go (T' := T22) (f' := (mkF m 138 #[.val (.int xa), .val (.int xb), .val (.int xc), .val (.long xd), .second, .val (.int (xa.toInt8.toInt32)), .val (.int (own_v0_9 xa)), .val (.int (own_v0_16 xa)), .val (.int (own_v0_28_8 xb)), .val (.int (own_v0_38_s0 xb)), .val (.int (own_v0_57_10 xb xc)), .val (.ref ob_13), .val (.ref b14), .val (.int (own_v0_101 xa xb xc)), .val (.int (own_v0_107 xb xc)), .val (.int ((own_v0_57_10 xb xc) &&& (7 : Int32))), .unset, .val (.int (xa.toInt8.toInt32))] [])) ?_ (fun _ k => XS.istore X22.here hx rfl (hb hby at_136) rfl (l' := #[.val (.int xa), .val (.int xb), .val (.int xc), .val (.long xd), .second, .val (.int (xa.toInt8.toInt32)), .val (.int (own_v0_9 xa)), .val (.int (own_v0_16 xa)), .val (.int (own_v0_28_8 xb)), .val (.int (own_v0_38_s0 xb)), .val (.int (own_v0_57_10 xb xc)), .val (.ref ob_13), .val (.ref b14), .val (.int (own_v0_101 xa xb xc)), .val (.int (own_v0_107 xb xc)), .val (.int ((own_v0_57_10 xb xc) &&& (7 : Int32))), .unset, .val (.int (xa.toInt8.toInt32))]) rfl k)
          refine own_go (T' := T22) (f' := (mkF m 158 #[.val (.int xa), .val (.int xb), .val (.int xc), .val (.long xd), .second, .val (.int (xa.toInt8.toInt32)), .val (.int (own_v0_9 xa)), .val (.int (own_v0_16 xa)), .val (.int (own_v0_28_8 xb)), .val (.int (own_v0_38_s0 xb)), .val (.int (own_v0_57_10 xb xc)), .val (.ref ob_13), .val (.ref b14), .val (.int (own_v0_101 xa xb xc)), .val (.int (own_v0_107 xb xc)), .val (.int ((own_v0_57_10 xb xc) &&& (7 : Int32))), .unset, .val (.int (xa.toInt8.toInt32))] [])) ?_ (fun _ k => XS.goto X22.here hx rfl (pc0 := 138) (pc' := 158) rfl (hb hby at_138) (by decide) (by decide) k)
          have em27 : (own_v0_131_17 xa xb xc) = (xa.toInt8.toInt32) := (if_pos hc131_26)
          exact ⟨_, ⟨T22, _, (by rw [em27]), X22, e22, N22⟩, fun _ k => k⟩
        · refine own_go (T' := T22) (f' := (mkF m 141 #[.val (.int xa), .val (.int xb), .val (.int xc), .val (.long xd), .second, .val (.int (xa.toInt8.toInt32)), .val (.int (own_v0_9 xa)), .val (.int (own_v0_16 xa)), .val (.int (own_v0_28_8 xb)), .val (.int (own_v0_38_s0 xb)), .val (.int (own_v0_57_10 xb xc)), .val (.ref ob_13), .val (.ref b14), .val (.int (own_v0_101 xa xb xc)), .val (.int (own_v0_107 xb xc)), .val (.int ((own_v0_57_10 xb xc) &&& (7 : Int32))), .unset, .unset] [])) ?_ (fun _ k => XS.ifYes X22.here hx rfl (pc0 := 131) (pc' := 141) rfl (hb hby at_131) rfl ((if0 _ _).trans (feq hc131_26).2) (by decide) (by decide) k)
          refine own_go (T' := T22) (f' := (mkF m 143 #[.val (.int xa), .val (.int xb), .val (.int xc), .val (.long xd), .second, .val (.int (xa.toInt8.toInt32)), .val (.int (own_v0_9 xa)), .val (.int (own_v0_16 xa)), .val (.int (own_v0_28_8 xb)), .val (.int (own_v0_38_s0 xb)), .val (.int (own_v0_57_10 xb xc)), .val (.ref ob_13), .val (.ref b14), .val (.int (own_v0_101 xa xb xc)), .val (.int (own_v0_107 xb xc)), .val (.int ((own_v0_57_10 xb xc) &&& (7 : Int32))), .unset, .unset] [(.int (own_v0_107 xb xc))])) ?_ (fun _ k => XS.iload X22.here hx rfl (hb hby at_141) rfl  k)
          refine own_go (T' := T22) (f' := (mkF m 144 #[.val (.int xa), .val (.int xb), .val (.int xc), .val (.long xd), .second, .val (.int (xa.toInt8.toInt32)), .val (.int (own_v0_9 xa)), .val (.int (own_v0_16 xa)), .val (.int (own_v0_28_8 xb)), .val (.int (own_v0_38_s0 xb)), .val (.int (own_v0_57_10 xb xc)), .val (.ref ob_13), .val (.ref b14), .val (.int (own_v0_101 xa xb xc)), .val (.int (own_v0_107 xb xc)), .val (.int ((own_v0_57_10 xb xc) &&& (7 : Int32))), .unset, .unset] [(.int (1 : Int32)), (.int (own_v0_107 xb xc))])) ?_ (fun _ k => XS.iconst X22.here hx rfl (hb hby at_143) k)
          by_cases hc144_28 : (own_v0_107 xb xc) = (1 : Int32)
          · refine own_go (T' := T22) (f' := (mkF m 147 #[.val (.int xa), .val (.int xb), .val (.int xc), .val (.long xd), .second, .val (.int (xa.toInt8.toInt32)), .val (.int (own_v0_9 xa)), .val (.int (own_v0_16 xa)), .val (.int (own_v0_28_8 xb)), .val (.int (own_v0_38_s0 xb)), .val (.int (own_v0_57_10 xb xc)), .val (.ref ob_13), .val (.ref b14), .val (.int (own_v0_101 xa xb xc)), .val (.int (own_v0_107 xb xc)), .val (.int ((own_v0_57_10 xb xc) &&& (7 : Int32))), .unset, .unset] [])) ?_ (fun _ k => XS.icmpNo X22.here hx rfl (hb hby at_144) rfl (teq hc144_28).2 k)
            refine own_go (T' := T22) (f' := (mkF m 149 #[.val (.int xa), .val (.int xb), .val (.int xc), .val (.long xd), .second, .val (.int (xa.toInt8.toInt32)), .val (.int (own_v0_9 xa)), .val (.int (own_v0_16 xa)), .val (.int (own_v0_28_8 xb)), .val (.int (own_v0_38_s0 xb)), .val (.int (own_v0_57_10 xb xc)), .val (.ref ob_13), .val (.ref b14), .val (.int (own_v0_101 xa xb xc)), .val (.int (own_v0_107 xb xc)), .val (.int ((own_v0_57_10 xb xc) &&& (7 : Int32))), .unset, .unset] [(.int (own_v0_9 xa))])) ?_ (fun _ k => XS.iload X22.here hx rfl (hb hby at_147) rfl  k)
            refine own_go (T' := T22) (f' := (mkF m 151 #[.val (.int xa), .val (.int xb), .val (.int xc), .val (.long xd), .second, .val (.int (xa.toInt8.toInt32)), .val (.int (own_v0_9 xa)), .val (.int (own_v0_16 xa)), .val (.int (own_v0_28_8 xb)), .val (.int (own_v0_38_s0 xb)), .val (.int (own_v0_57_10 xb xc)), .val (.ref ob_13), .val (.ref b14), .val (.int (own_v0_101 xa xb xc)), .val (.int (own_v0_107 xb xc)), .val (.int ((own_v0_57_10 xb xc) &&& (7 : Int32))), .unset, .val (.int (own_v0_9 xa))] [])) ?_ (fun _ k => XS.istore X22.here hx rfl (hb hby at_149) rfl (l' := #[.val (.int xa), .val (.int xb), .val (.int xc), .val (.long xd), .second, .val (.int (xa.toInt8.toInt32)), .val (.int (own_v0_9 xa)), .val (.int (own_v0_16 xa)), .val (.int (own_v0_28_8 xb)), .val (.int (own_v0_38_s0 xb)), .val (.int (own_v0_57_10 xb xc)), .val (.ref ob_13), .val (.ref b14), .val (.int (own_v0_101 xa xb xc)), .val (.int (own_v0_107 xb xc)), .val (.int ((own_v0_57_10 xb xc) &&& (7 : Int32))), .unset, .val (.int (own_v0_9 xa))]) rfl k)
            refine own_go (T' := T22) (f' := (mkF m 158 #[.val (.int xa), .val (.int xb), .val (.int xc), .val (.long xd), .second, .val (.int (xa.toInt8.toInt32)), .val (.int (own_v0_9 xa)), .val (.int (own_v0_16 xa)), .val (.int (own_v0_28_8 xb)), .val (.int (own_v0_38_s0 xb)), .val (.int (own_v0_57_10 xb xc)), .val (.ref ob_13), .val (.ref b14), .val (.int (own_v0_101 xa xb xc)), .val (.int (own_v0_107 xb xc)), .val (.int ((own_v0_57_10 xb xc) &&& (7 : Int32))), .unset, .val (.int (own_v0_9 xa))] [])) ?_ (fun _ k => XS.goto X22.here hx rfl (pc0 := 151) (pc' := 158) rfl (hb hby at_151) (by decide) (by decide) k)
            have em29 : (own_v0_131_17 xa xb xc) = (own_v0_9 xa) := (Eq.trans (if_neg hc131_26) (if_pos hc144_28))
            exact ⟨_, ⟨T22, _, (by rw [em29]), X22, e22, N22⟩, fun _ k => k⟩
          · refine own_go (T' := T22) (f' := (mkF m 154 #[.val (.int xa), .val (.int xb), .val (.int xc), .val (.long xd), .second, .val (.int (xa.toInt8.toInt32)), .val (.int (own_v0_9 xa)), .val (.int (own_v0_16 xa)), .val (.int (own_v0_28_8 xb)), .val (.int (own_v0_38_s0 xb)), .val (.int (own_v0_57_10 xb xc)), .val (.ref ob_13), .val (.ref b14), .val (.int (own_v0_101 xa xb xc)), .val (.int (own_v0_107 xb xc)), .val (.int ((own_v0_57_10 xb xc) &&& (7 : Int32))), .unset, .unset] [])) ?_ (fun _ k => XS.icmpYes X22.here hx rfl (pc0 := 144) (pc' := 154) rfl (hb hby at_144) rfl (feq hc144_28).2 (by decide) (by decide) k)
            refine own_go (T' := T22) (f' := (mkF m 156 #[.val (.int xa), .val (.int xb), .val (.int xc), .val (.long xd), .second, .val (.int (xa.toInt8.toInt32)), .val (.int (own_v0_9 xa)), .val (.int (own_v0_16 xa)), .val (.int (own_v0_28_8 xb)), .val (.int (own_v0_38_s0 xb)), .val (.int (own_v0_57_10 xb xc)), .val (.ref ob_13), .val (.ref b14), .val (.int (own_v0_101 xa xb xc)), .val (.int (own_v0_107 xb xc)), .val (.int ((own_v0_57_10 xb xc) &&& (7 : Int32))), .unset, .unset] [(.int (own_v0_16 xa))])) ?_ (fun _ k => XS.iload X22.here hx rfl (hb hby at_154) rfl  k)
            refine own_go (T' := T22) (f' := (mkF m 158 #[.val (.int xa), .val (.int xb), .val (.int xc), .val (.long xd), .second, .val (.int (xa.toInt8.toInt32)), .val (.int (own_v0_9 xa)), .val (.int (own_v0_16 xa)), .val (.int (own_v0_28_8 xb)), .val (.int (own_v0_38_s0 xb)), .val (.int (own_v0_57_10 xb xc)), .val (.ref ob_13), .val (.ref b14), .val (.int (own_v0_101 xa xb xc)), .val (.int (own_v0_107 xb xc)), .val (.int ((own_v0_57_10 xb xc) &&& (7 : Int32))), .unset, .val (.int (own_v0_16 xa))] [])) ?_ (fun _ k => XS.istore X22.here hx rfl (hb hby at_156) rfl (l' := #[.val (.int xa), .val (.int xb), .val (.int xc), .val (.long xd), .second, .val (.int (xa.toInt8.toInt32)), .val (.int (own_v0_9 xa)), .val (.int (own_v0_16 xa)), .val (.int (own_v0_28_8 xb)), .val (.int (own_v0_38_s0 xb)), .val (.int (own_v0_57_10 xb xc)), .val (.ref ob_13), .val (.ref b14), .val (.int (own_v0_101 xa xb xc)), .val (.int (own_v0_107 xb xc)), .val (.int ((own_v0_57_10 xb xc) &&& (7 : Int32))), .unset, .val (.int (own_v0_16 xa))]) rfl k)
            have em30 : (own_v0_131_17 xa xb xc) = (own_v0_16 xa) := (Eq.trans (if_neg hc131_26) (if_neg hc144_28))
            exact ⟨_, ⟨T22, _, (by rw [em30]), X22, e22, N22⟩, fun _ k => k⟩
      refine own_go (T' := T25) (f' := (mkF m 158 #[.val (.int xa), .val (.int xb), .val (.int xc), .val (.long xd), .second, .val (.int (xa.toInt8.toInt32)), .val (.int (own_v0_9 xa)), .val (.int (own_v0_16 xa)), .val (.int (own_v0_28_8 xb)), .val (.int (own_v0_38_s0 xb)), .val (.int (own_v0_57_10 xb xc)), .val (.ref ob_13), .val (.ref b14), .val (.int (own_v0_101 xa xb xc)), .val (.int (own_v0_107 xb xc)), .val (.int ((own_v0_57_10 xb xc) &&& (7 : Int32))), .unset, .val (.int (own_v0_131_17 xa xb xc))] [])) ?_ (mg25)
      refine own_go (T' := T25) (f' := (mkF m 160 #[.val (.int xa), .val (.int xb), .val (.int xc), .val (.long xd), .second, .val (.int (xa.toInt8.toInt32)), .val (.int (own_v0_9 xa)), .val (.int (own_v0_16 xa)), .val (.int (own_v0_28_8 xb)), .val (.int (own_v0_38_s0 xb)), .val (.int (own_v0_57_10 xb xc)), .val (.ref ob_13), .val (.ref b14), .val (.int (own_v0_101 xa xb xc)), .val (.int (own_v0_107 xb xc)), .val (.int ((own_v0_57_10 xb xc) &&& (7 : Int32))), .unset, .val (.int (own_v0_131_17 xa xb xc))] [(.int (own_v0_131_17 xa xb xc))])) ?_ (fun _ k => XS.iload X25.here hx rfl (hb hby at_158) rfl  k)
      refine own_go (T' := T25) (f' := (mkF m 162 #[.val (.int xa), .val (.int xb), .val (.int xc), .val (.long xd), .second, .val (.int (xa.toInt8.toInt32)), .val (.int (own_v0_9 xa)), .val (.int (own_v0_16 xa)), .val (.int (own_v0_28_8 xb)), .val (.int (own_v0_38_s0 xb)), .val (.int (own_v0_57_10 xb xc)), .val (.ref ob_13), .val (.ref b14), .val (.int (own_v0_101 xa xb xc)), .val (.int (own_v0_107 xb xc)), .val (.int ((own_v0_57_10 xb xc) &&& (7 : Int32))), .unset, .val (.int (own_v0_131_17 xa xb xc))] [(.int ((own_v0_57_10 xb xc) &&& (7 : Int32))), (.int (own_v0_131_17 xa xb xc))])) ?_ (fun _ k => XS.iload X25.here hx rfl (hb hby at_160) rfl  k)
      refine own_go (T' := T25) (f' := (mkF m 163 #[.val (.int xa), .val (.int xb), .val (.int xc), .val (.long xd), .second, .val (.int (xa.toInt8.toInt32)), .val (.int (own_v0_9 xa)), .val (.int (own_v0_16 xa)), .val (.int (own_v0_28_8 xb)), .val (.int (own_v0_38_s0 xb)), .val (.int (own_v0_57_10 xb xc)), .val (.ref ob_13), .val (.ref b14), .val (.int (own_v0_101 xa xb xc)), .val (.int (own_v0_107 xb xc)), .val (.int ((own_v0_57_10 xb xc) &&& (7 : Int32))), .unset, .val (.int (own_v0_131_17 xa xb xc))] [(.int ((own_v0_131_17 xa xb xc) >>> (((own_v0_57_10 xb xc) &&& (7 : Int32)) &&& 31)))])) ?_ (fun _ k => XS.ishr X25.here hx rfl (hb hby at_162) rfl k)
      refine own_go (T' := T25) (f' := (mkF m 164 #[.val (.int xa), .val (.int xb), .val (.int xc), .val (.long xd), .second, .val (.int (xa.toInt8.toInt32)), .val (.int (own_v0_9 xa)), .val (.int (own_v0_16 xa)), .val (.int (own_v0_28_8 xb)), .val (.int (own_v0_38_s0 xb)), .val (.int (own_v0_57_10 xb xc)), .val (.ref ob_13), .val (.ref b14), .val (.int (own_v0_101 xa xb xc)), .val (.int (own_v0_107 xb xc)), .val (.int ((own_v0_57_10 xb xc) &&& (7 : Int32))), .unset, .val (.int (own_v0_131_17 xa xb xc))] [(.int (1 : Int32)), (.int ((own_v0_131_17 xa xb xc) >>> (((own_v0_57_10 xb xc) &&& (7 : Int32)) &&& 31)))])) ?_ (fun _ k => XS.iconst X25.here hx rfl (hb hby at_163) k)
      refine own_go (T' := T25) (f' := (mkF m 165 #[.val (.int xa), .val (.int xb), .val (.int xc), .val (.long xd), .second, .val (.int (xa.toInt8.toInt32)), .val (.int (own_v0_9 xa)), .val (.int (own_v0_16 xa)), .val (.int (own_v0_28_8 xb)), .val (.int (own_v0_38_s0 xb)), .val (.int (own_v0_57_10 xb xc)), .val (.ref ob_13), .val (.ref b14), .val (.int (own_v0_101 xa xb xc)), .val (.int (own_v0_107 xb xc)), .val (.int ((own_v0_57_10 xb xc) &&& (7 : Int32))), .unset, .val (.int (own_v0_131_17 xa xb xc))] [(.int (((own_v0_131_17 xa xb xc) >>> (((own_v0_57_10 xb xc) &&& (7 : Int32)) &&& 31)) &&& (1 : Int32)))])) ?_ (fun _ k => XS.iand X25.here hx rfl (hb hby at_164) rfl k)
      refine own_go (T' := T25) (f' := (mkF m 166 #[.val (.int xa), .val (.int xb), .val (.int xc), .val (.long xd), .second, .val (.int (xa.toInt8.toInt32)), .val (.int (own_v0_9 xa)), .val (.int (own_v0_16 xa)), .val (.int (own_v0_28_8 xb)), .val (.int (own_v0_38_s0 xb)), .val (.int (own_v0_57_10 xb xc)), .val (.ref ob_13), .val (.ref b14), .val (.int (own_v0_101 xa xb xc)), .val (.int (own_v0_107 xb xc)), .val (.int ((own_v0_57_10 xb xc) &&& (7 : Int32))), .unset, .val (.int (own_v0_131_17 xa xb xc))] [(.int (1 : Int32)), (.int (((own_v0_131_17 xa xb xc) >>> (((own_v0_57_10 xb xc) &&& (7 : Int32)) &&& 31)) &&& (1 : Int32)))])) ?_ (fun _ k => XS.iconst X25.here hx rfl (hb hby at_165) k)
      obtain ⟨_, ⟨T31, L31, rfl, X31, e31, N31⟩, mg31⟩ : own_Goes p.tables e below (fun uu => ∃ (T' : State) (L' : List Loc), uu = T'.setTop (mkF m 174 #[.val (.int xa), .val (.int xb), .val (.int xc), .val (.long xd), .second, .val (.int (xa.toInt8.toInt32)), .val (.int (own_v0_9 xa)), .val (.int (own_v0_16 xa)), .val (.int (own_v0_28_8 xb)), .val (.int (own_v0_38_s0 xb)), .val (.int (own_v0_57_10 xb xc)), .val (.ref ob_13), .val (.ref b14), .val (.int (own_v0_101 xa xb xc)), .val (.int (own_v0_107 xb xc)), .val (.int ((own_v0_57_10 xb xc) &&& (7 : Int32))), .unset, .val (.int (own_v0_131_17 xa xb xc))] [(.int (own_v0_166_s0 xa xb xc))]) ∧ Stand p l e room_1 s m #[(.int xa), (.int xb), (.int xc), (.long xd)] below meth c T' L' 2 6 ∧ T'.heap = T16.heap ∧ Fr n0 L') T25 (mkF m 166 #[.val (.int xa), .val (.int xb), .val (.int xc), .val (.long xd), .second, .val (.int (xa.toInt8.toInt32)), .val (.int (own_v0_9 xa)), .val (.int (own_v0_16 xa)), .val (.int (own_v0_28_8 xb)), .val (.int (own_v0_38_s0 xb)), .val (.int (own_v0_57_10 xb xc)), .val (.ref ob_13), .val (.ref b14), .val (.int (own_v0_101 xa xb xc)), .val (.int (own_v0_107 xb xc)), .val (.int ((own_v0_57_10 xb xc) &&& (7 : Int32))), .unset, .val (.int (own_v0_131_17 xa xb xc))] [(.int (1 : Int32)), (.int (((own_v0_131_17 xa xb xc) >>> (((own_v0_57_10 xb xc) &&& (7 : Int32)) &&& 31)) &&& (1 : Int32)))]) := by
        by_cases hc166_32 : (((own_v0_131_17 xa xb xc) >>> (((own_v0_57_10 xb xc) &&& (7 : Int32)) &&& 31)) &&& (1 : Int32)) = (1 : Int32)
        · refine own_go (T' := T25) (f' := (mkF m 169 #[.val (.int xa), .val (.int xb), .val (.int xc), .val (.long xd), .second, .val (.int (xa.toInt8.toInt32)), .val (.int (own_v0_9 xa)), .val (.int (own_v0_16 xa)), .val (.int (own_v0_28_8 xb)), .val (.int (own_v0_38_s0 xb)), .val (.int (own_v0_57_10 xb xc)), .val (.ref ob_13), .val (.ref b14), .val (.int (own_v0_101 xa xb xc)), .val (.int (own_v0_107 xb xc)), .val (.int ((own_v0_57_10 xb xc) &&& (7 : Int32))), .unset, .val (.int (own_v0_131_17 xa xb xc))] [])) ?_ (fun _ k => XS.icmpNo X25.here hx rfl (hb hby at_166) rfl (teq hc166_32).2 k)
          refine own_go (T' := T25) (f' := (mkF m 170 #[.val (.int xa), .val (.int xb), .val (.int xc), .val (.long xd), .second, .val (.int (xa.toInt8.toInt32)), .val (.int (own_v0_9 xa)), .val (.int (own_v0_16 xa)), .val (.int (own_v0_28_8 xb)), .val (.int (own_v0_38_s0 xb)), .val (.int (own_v0_57_10 xb xc)), .val (.ref ob_13), .val (.ref b14), .val (.int (own_v0_101 xa xb xc)), .val (.int (own_v0_107 xb xc)), .val (.int ((own_v0_57_10 xb xc) &&& (7 : Int32))), .unset, .val (.int (own_v0_131_17 xa xb xc))] [(.int (1 : Int32))])) ?_ (fun _ k => XS.iconst X25.here hx rfl (hb hby at_169) k)
          refine own_go (T' := T25) (f' := (mkF m 174 #[.val (.int xa), .val (.int xb), .val (.int xc), .val (.long xd), .second, .val (.int (xa.toInt8.toInt32)), .val (.int (own_v0_9 xa)), .val (.int (own_v0_16 xa)), .val (.int (own_v0_28_8 xb)), .val (.int (own_v0_38_s0 xb)), .val (.int (own_v0_57_10 xb xc)), .val (.ref ob_13), .val (.ref b14), .val (.int (own_v0_101 xa xb xc)), .val (.int (own_v0_107 xb xc)), .val (.int ((own_v0_57_10 xb xc) &&& (7 : Int32))), .unset, .val (.int (own_v0_131_17 xa xb xc))] [(.int (1 : Int32))])) ?_ (fun _ k => XS.goto X25.here hx rfl (pc0 := 170) (pc' := 174) rfl (hb hby at_170) (by decide) (by decide) k)
          have em33 : (own_v0_166_s0 xa xb xc) = (1 : Int32) := (if_pos hc166_32)
          exact ⟨_, ⟨T25, _, (by rw [em33]), X25, e25, N25⟩, fun _ k => k⟩
        · refine own_go (T' := T25) (f' := (mkF m 173 #[.val (.int xa), .val (.int xb), .val (.int xc), .val (.long xd), .second, .val (.int (xa.toInt8.toInt32)), .val (.int (own_v0_9 xa)), .val (.int (own_v0_16 xa)), .val (.int (own_v0_28_8 xb)), .val (.int (own_v0_38_s0 xb)), .val (.int (own_v0_57_10 xb xc)), .val (.ref ob_13), .val (.ref b14), .val (.int (own_v0_101 xa xb xc)), .val (.int (own_v0_107 xb xc)), .val (.int ((own_v0_57_10 xb xc) &&& (7 : Int32))), .unset, .val (.int (own_v0_131_17 xa xb xc))] [])) ?_ (fun _ k => XS.icmpYes X25.here hx rfl (pc0 := 166) (pc' := 173) rfl (hb hby at_166) rfl (feq hc166_32).2 (by decide) (by decide) k)
          refine own_go (T' := T25) (f' := (mkF m 174 #[.val (.int xa), .val (.int xb), .val (.int xc), .val (.long xd), .second, .val (.int (xa.toInt8.toInt32)), .val (.int (own_v0_9 xa)), .val (.int (own_v0_16 xa)), .val (.int (own_v0_28_8 xb)), .val (.int (own_v0_38_s0 xb)), .val (.int (own_v0_57_10 xb xc)), .val (.ref ob_13), .val (.ref b14), .val (.int (own_v0_101 xa xb xc)), .val (.int (own_v0_107 xb xc)), .val (.int ((own_v0_57_10 xb xc) &&& (7 : Int32))), .unset, .val (.int (own_v0_131_17 xa xb xc))] [(.int (0 : Int32))])) ?_ (fun _ k => XS.iconst X25.here hx rfl (hb hby at_173) k)
          have em34 : (own_v0_166_s0 xa xb xc) = (0 : Int32) := (if_neg hc166_32)
          exact ⟨_, ⟨T25, _, (by rw [em34]), X25, e25, N25⟩, fun _ k => k⟩
      refine own_go (T' := T31) (f' := (mkF m 174 #[.val (.int xa), .val (.int xb), .val (.int xc), .val (.long xd), .second, .val (.int (xa.toInt8.toInt32)), .val (.int (own_v0_9 xa)), .val (.int (own_v0_16 xa)), .val (.int (own_v0_28_8 xb)), .val (.int (own_v0_38_s0 xb)), .val (.int (own_v0_57_10 xb xc)), .val (.ref ob_13), .val (.ref b14), .val (.int (own_v0_101 xa xb xc)), .val (.int (own_v0_107 xb xc)), .val (.int ((own_v0_57_10 xb xc) &&& (7 : Int32))), .unset, .val (.int (own_v0_131_17 xa xb xc))] [(.int (own_v0_166_s0 xa xb xc))])) ?_ (mg31)
      refine own_go (T' := T31) (f' := (mkF m 176 #[.val (.int xa), .val (.int xb), .val (.int xc), .val (.long xd), .second, .val (.int (xa.toInt8.toInt32)), .val (.int (own_v0_9 xa)), .val (.int (own_v0_16 xa)), .val (.int (own_v0_28_8 xb)), .val (.int (own_v0_38_s0 xb)), .val (.int (own_v0_57_10 xb xc)), .val (.ref ob_13), .val (.ref b14), .val (.int (own_v0_101 xa xb xc)), .val (.int (own_v0_107 xb xc)), .val (.int ((own_v0_57_10 xb xc) &&& (7 : Int32))), .val (.int (own_v0_166_s0 xa xb xc)), .val (.int (own_v0_131_17 xa xb xc))] [])) ?_ (fun _ k => XS.istore X31.here hx rfl (hb hby at_174) rfl (l' := #[.val (.int xa), .val (.int xb), .val (.int xc), .val (.long xd), .second, .val (.int (xa.toInt8.toInt32)), .val (.int (own_v0_9 xa)), .val (.int (own_v0_16 xa)), .val (.int (own_v0_28_8 xb)), .val (.int (own_v0_38_s0 xb)), .val (.int (own_v0_57_10 xb xc)), .val (.ref ob_13), .val (.ref b14), .val (.int (own_v0_101 xa xb xc)), .val (.int (own_v0_107 xb xc)), .val (.int ((own_v0_57_10 xb xc) &&& (7 : Int32))), .val (.int (own_v0_166_s0 xa xb xc)), .val (.int (own_v0_131_17 xa xb xc))]) rfl k)
      have em35 : (own_v0_120_16 xa xb xc) = (own_v0_166_s0 xa xb xc) := (if_pos hc120_24)
      have em36 : (own_v0_120_17 xa xb xc) = (.val (.int (own_v0_131_17 xa xb xc))) := (if_pos hc120_24)
      exact ⟨_, ⟨T31, _, (by rw [em35, em36]), X31, e31, N31⟩, fun _ k => k⟩
    · refine own_go (T' := T22) (f' := (mkF m 123 #[.val (.int xa), .val (.int xb), .val (.int xc), .val (.long xd), .second, .val (.int (xa.toInt8.toInt32)), .val (.int (own_v0_9 xa)), .val (.int (own_v0_16 xa)), .val (.int (own_v0_28_8 xb)), .val (.int (own_v0_38_s0 xb)), .val (.int (own_v0_57_10 xb xc)), .val (.ref ob_13), .val (.ref b14), .val (.int (own_v0_101 xa xb xc)), .val (.int (own_v0_107 xb xc)), .val (.int ((own_v0_57_10 xb xc) &&& (7 : Int32))), .unset, .unset] [])) ?_ (fun _ k => XS.icmpNo X22.here hx rfl (hb hby at_120) rfl (flt hc120_24).1 k)
      refine own_go (T' := T22) (f' := (mkF m 124 #[.val (.int xa), .val (.int xb), .val (.int xc), .val (.long xd), .second, .val (.int (xa.toInt8.toInt32)), .val (.int (own_v0_9 xa)), .val (.int (own_v0_16 xa)), .val (.int (own_v0_28_8 xb)), .val (.int (own_v0_38_s0 xb)), .val (.int (own_v0_57_10 xb xc)), .val (.ref ob_13), .val (.ref b14), .val (.int (own_v0_101 xa xb xc)), .val (.int (own_v0_107 xb xc)), .val (.int ((own_v0_57_10 xb xc) &&& (7 : Int32))), .unset, .unset] [(.int (0 : Int32))])) ?_ (fun _ k => XS.iconst X22.here hx rfl (hb hby at_123) k)
      refine own_go (T' := T22) (f' := (mkF m 126 #[.val (.int xa), .val (.int xb), .val (.int xc), .val (.long xd), .second, .val (.int (xa.toInt8.toInt32)), .val (.int (own_v0_9 xa)), .val (.int (own_v0_16 xa)), .val (.int (own_v0_28_8 xb)), .val (.int (own_v0_38_s0 xb)), .val (.int (own_v0_57_10 xb xc)), .val (.ref ob_13), .val (.ref b14), .val (.int (own_v0_101 xa xb xc)), .val (.int (own_v0_107 xb xc)), .val (.int ((own_v0_57_10 xb xc) &&& (7 : Int32))), .val (.int (0 : Int32)), .unset] [])) ?_ (fun _ k => XS.istore X22.here hx rfl (hb hby at_124) rfl (l' := #[.val (.int xa), .val (.int xb), .val (.int xc), .val (.long xd), .second, .val (.int (xa.toInt8.toInt32)), .val (.int (own_v0_9 xa)), .val (.int (own_v0_16 xa)), .val (.int (own_v0_28_8 xb)), .val (.int (own_v0_38_s0 xb)), .val (.int (own_v0_57_10 xb xc)), .val (.ref ob_13), .val (.ref b14), .val (.int (own_v0_101 xa xb xc)), .val (.int (own_v0_107 xb xc)), .val (.int ((own_v0_57_10 xb xc) &&& (7 : Int32))), .val (.int (0 : Int32)), .unset]) rfl k)
      refine own_go (T' := T22) (f' := (mkF m 176 #[.val (.int xa), .val (.int xb), .val (.int xc), .val (.long xd), .second, .val (.int (xa.toInt8.toInt32)), .val (.int (own_v0_9 xa)), .val (.int (own_v0_16 xa)), .val (.int (own_v0_28_8 xb)), .val (.int (own_v0_38_s0 xb)), .val (.int (own_v0_57_10 xb xc)), .val (.ref ob_13), .val (.ref b14), .val (.int (own_v0_101 xa xb xc)), .val (.int (own_v0_107 xb xc)), .val (.int ((own_v0_57_10 xb xc) &&& (7 : Int32))), .val (.int (0 : Int32)), .unset] [])) ?_ (fun _ k => XS.goto X22.here hx rfl (pc0 := 126) (pc' := 176) rfl (hb hby at_126) (by decide) (by decide) k)
      have em37 : (own_v0_120_16 xa xb xc) = (0 : Int32) := (if_neg hc120_24)
      have em38 : (own_v0_120_17 xa xb xc) = (.unset) := (if_neg hc120_24)
      exact ⟨_, ⟨T22, _, (by rw [em37, em38]), X22, e22, N22⟩, fun _ k => k⟩
  refine own_go (T' := T23) (f' := (mkF m 176 #[.val (.int xa), .val (.int xb), .val (.int xc), .val (.long xd), .second, .val (.int (xa.toInt8.toInt32)), .val (.int (own_v0_9 xa)), .val (.int (own_v0_16 xa)), .val (.int (own_v0_28_8 xb)), .val (.int (own_v0_38_s0 xb)), .val (.int (own_v0_57_10 xb xc)), .val (.ref ob_13), .val (.ref b14), .val (.int (own_v0_101 xa xb xc)), .val (.int (own_v0_107 xb xc)), .val (.int ((own_v0_57_10 xb xc) &&& (7 : Int32))), .val (.int (own_v0_120_16 xa xb xc)), (own_v0_120_17 xa xb xc)] [])) ?_ (mg23)
  refine own_go (T' := T23) (f' := (mkF m 178 #[.val (.int xa), .val (.int xb), .val (.int xc), .val (.long xd), .second, .val (.int (xa.toInt8.toInt32)), .val (.int (own_v0_9 xa)), .val (.int (own_v0_16 xa)), .val (.int (own_v0_28_8 xb)), .val (.int (own_v0_38_s0 xb)), .val (.int (own_v0_57_10 xb xc)), .val (.ref ob_13), .val (.ref b14), .val (.int (own_v0_101 xa xb xc)), .val (.int (own_v0_107 xb xc)), .val (.int ((own_v0_57_10 xb xc) &&& (7 : Int32))), .val (.int (own_v0_120_16 xa xb xc)), (own_v0_120_17 xa xb xc)] [(.int (own_v0_101 xa xb xc))])) ?_ (fun _ k => XS.iload X23.here hx rfl (hb hby at_176) rfl  k)
  refine own_go (T' := T23) (f' := (mkF m 180 #[.val (.int xa), .val (.int xb), .val (.int xc), .val (.long xd), .second, .val (.int (xa.toInt8.toInt32)), .val (.int (own_v0_9 xa)), .val (.int (own_v0_16 xa)), .val (.int (own_v0_28_8 xb)), .val (.int (own_v0_38_s0 xb)), .val (.int (own_v0_57_10 xb xc)), .val (.ref ob_13), .val (.ref b14), .val (.int (own_v0_101 xa xb xc)), .val (.int (own_v0_107 xb xc)), .val (.int ((own_v0_57_10 xb xc) &&& (7 : Int32))), .val (.int (own_v0_120_16 xa xb xc)), (own_v0_120_17 xa xb xc)] [(.int (own_v0_120_16 xa xb xc)), (.int (own_v0_101 xa xb xc))])) ?_ (fun _ k => XS.iload X23.here hx rfl (hb hby at_178) rfl  k)
  obtain ⟨_, ⟨T39, L39, rfl, X39, e39, N39⟩, mg39⟩ : own_Goes p.tables e below (fun uu => ∃ (T' : State) (L' : List Loc), uu = T'.setTop (mkF m 188 #[.val (.int xa), .val (.int xb), .val (.int xc), .val (.long xd), .second, .val (.int (xa.toInt8.toInt32)), .val (.int (own_v0_9 xa)), .val (.int (own_v0_16 xa)), .val (.int (own_v0_28_8 xb)), .val (.int (own_v0_38_s0 xb)), .val (.int (own_v0_57_10 xb xc)), .val (.ref ob_13), .val (.ref b14), .val (.int (own_v0_101 xa xb xc)), .val (.int (own_v0_107 xb xc)), .val (.int ((own_v0_57_10 xb xc) &&& (7 : Int32))), .val (.int (own_v0_120_16 xa xb xc)), (own_v0_120_17 xa xb xc)] [(.int (own_v0_180_s0 xa xb xc))]) ∧ Stand p l e room_1 s m #[(.int xa), (.int xb), (.int xc), (.long xd)] below meth c T' L' 2 6 ∧ T'.heap = T16.heap ∧ Fr n0 L') T23 (mkF m 180 #[.val (.int xa), .val (.int xb), .val (.int xc), .val (.long xd), .second, .val (.int (xa.toInt8.toInt32)), .val (.int (own_v0_9 xa)), .val (.int (own_v0_16 xa)), .val (.int (own_v0_28_8 xb)), .val (.int (own_v0_38_s0 xb)), .val (.int (own_v0_57_10 xb xc)), .val (.ref ob_13), .val (.ref b14), .val (.int (own_v0_101 xa xb xc)), .val (.int (own_v0_107 xb xc)), .val (.int ((own_v0_57_10 xb xc) &&& (7 : Int32))), .val (.int (own_v0_120_16 xa xb xc)), (own_v0_120_17 xa xb xc)] [(.int (own_v0_120_16 xa xb xc)), (.int (own_v0_101 xa xb xc))]) := by
    by_cases hc180_40 : (own_v0_101 xa xb xc) = (own_v0_120_16 xa xb xc)
    · refine own_go (T' := T23) (f' := (mkF m 183 #[.val (.int xa), .val (.int xb), .val (.int xc), .val (.long xd), .second, .val (.int (xa.toInt8.toInt32)), .val (.int (own_v0_9 xa)), .val (.int (own_v0_16 xa)), .val (.int (own_v0_28_8 xb)), .val (.int (own_v0_38_s0 xb)), .val (.int (own_v0_57_10 xb xc)), .val (.ref ob_13), .val (.ref b14), .val (.int (own_v0_101 xa xb xc)), .val (.int (own_v0_107 xb xc)), .val (.int ((own_v0_57_10 xb xc) &&& (7 : Int32))), .val (.int (own_v0_120_16 xa xb xc)), (own_v0_120_17 xa xb xc)] [])) ?_ (fun _ k => XS.icmpNo X23.here hx rfl (hb hby at_180) rfl (teq hc180_40).2 k)
      refine own_go (T' := T23) (f' := (mkF m 184 #[.val (.int xa), .val (.int xb), .val (.int xc), .val (.long xd), .second, .val (.int (xa.toInt8.toInt32)), .val (.int (own_v0_9 xa)), .val (.int (own_v0_16 xa)), .val (.int (own_v0_28_8 xb)), .val (.int (own_v0_38_s0 xb)), .val (.int (own_v0_57_10 xb xc)), .val (.ref ob_13), .val (.ref b14), .val (.int (own_v0_101 xa xb xc)), .val (.int (own_v0_107 xb xc)), .val (.int ((own_v0_57_10 xb xc) &&& (7 : Int32))), .val (.int (own_v0_120_16 xa xb xc)), (own_v0_120_17 xa xb xc)] [(.int (1 : Int32))])) ?_ (fun _ k => XS.iconst X23.here hx rfl (hb hby at_183) k)
      refine own_go (T' := T23) (f' := (mkF m 188 #[.val (.int xa), .val (.int xb), .val (.int xc), .val (.long xd), .second, .val (.int (xa.toInt8.toInt32)), .val (.int (own_v0_9 xa)), .val (.int (own_v0_16 xa)), .val (.int (own_v0_28_8 xb)), .val (.int (own_v0_38_s0 xb)), .val (.int (own_v0_57_10 xb xc)), .val (.ref ob_13), .val (.ref b14), .val (.int (own_v0_101 xa xb xc)), .val (.int (own_v0_107 xb xc)), .val (.int ((own_v0_57_10 xb xc) &&& (7 : Int32))), .val (.int (own_v0_120_16 xa xb xc)), (own_v0_120_17 xa xb xc)] [(.int (1 : Int32))])) ?_ (fun _ k => XS.goto X23.here hx rfl (pc0 := 184) (pc' := 188) rfl (hb hby at_184) (by decide) (by decide) k)
      have em41 : (own_v0_180_s0 xa xb xc) = (1 : Int32) := (if_pos hc180_40)
      exact ⟨_, ⟨T23, _, (by rw [em41]), X23, e23, N23⟩, fun _ k => k⟩
    · refine own_go (T' := T23) (f' := (mkF m 187 #[.val (.int xa), .val (.int xb), .val (.int xc), .val (.long xd), .second, .val (.int (xa.toInt8.toInt32)), .val (.int (own_v0_9 xa)), .val (.int (own_v0_16 xa)), .val (.int (own_v0_28_8 xb)), .val (.int (own_v0_38_s0 xb)), .val (.int (own_v0_57_10 xb xc)), .val (.ref ob_13), .val (.ref b14), .val (.int (own_v0_101 xa xb xc)), .val (.int (own_v0_107 xb xc)), .val (.int ((own_v0_57_10 xb xc) &&& (7 : Int32))), .val (.int (own_v0_120_16 xa xb xc)), (own_v0_120_17 xa xb xc)] [])) ?_ (fun _ k => XS.icmpYes X23.here hx rfl (pc0 := 180) (pc' := 187) rfl (hb hby at_180) rfl (feq hc180_40).2 (by decide) (by decide) k)
      refine own_go (T' := T23) (f' := (mkF m 188 #[.val (.int xa), .val (.int xb), .val (.int xc), .val (.long xd), .second, .val (.int (xa.toInt8.toInt32)), .val (.int (own_v0_9 xa)), .val (.int (own_v0_16 xa)), .val (.int (own_v0_28_8 xb)), .val (.int (own_v0_38_s0 xb)), .val (.int (own_v0_57_10 xb xc)), .val (.ref ob_13), .val (.ref b14), .val (.int (own_v0_101 xa xb xc)), .val (.int (own_v0_107 xb xc)), .val (.int ((own_v0_57_10 xb xc) &&& (7 : Int32))), .val (.int (own_v0_120_16 xa xb xc)), (own_v0_120_17 xa xb xc)] [(.int (0 : Int32))])) ?_ (fun _ k => XS.iconst X23.here hx rfl (hb hby at_187) k)
      have em42 : (own_v0_180_s0 xa xb xc) = (0 : Int32) := (if_neg hc180_40)
      exact ⟨_, ⟨T23, _, (by rw [em42]), X23, e23, N23⟩, fun _ k => k⟩
  refine own_go (T' := T39) (f' := (mkF m 188 #[.val (.int xa), .val (.int xb), .val (.int xc), .val (.long xd), .second, .val (.int (xa.toInt8.toInt32)), .val (.int (own_v0_9 xa)), .val (.int (own_v0_16 xa)), .val (.int (own_v0_28_8 xb)), .val (.int (own_v0_38_s0 xb)), .val (.int (own_v0_57_10 xb xc)), .val (.ref ob_13), .val (.ref b14), .val (.int (own_v0_101 xa xb xc)), .val (.int (own_v0_107 xb xc)), .val (.int ((own_v0_57_10 xb xc) &&& (7 : Int32))), .val (.int (own_v0_120_16 xa xb xc)), (own_v0_120_17 xa xb xc)] [(.int (own_v0_180_s0 xa xb xc))])) ?_ (mg39)
  obtain ⟨fs43, hr43, hrun43, hended43, hW43, hsame43⟩ := X39.leave (v := some (.int (own_v0_180_s0 xa xb xc))) (fun h => by rw [Bd.returns] at h; cases h)
  refine ⟨_, ⟨_, hrun43, hended43, _, _, rfl, ?_, ⟨_, rfl⟩, hW43, hsame43.mono (by decide) (by decide)⟩, fun _ k => (own_retZ X39 hx Bd.returns (own_b0_180_s0 xa xb xc) (hb hby at_188) hr43).trans k⟩
  show own_Q0 Z xa xb xc xd h0 n0 _ T39.heap _
  rw [e39]
  exact ⟨rfl, N39⟩
theorem own_bits : ∀ n : Fin 256, ∀ s : Fin 8, (if ((Int8.ofNat n.val).toInt32 &&& ((1 : Int32) <<< (Int32.ofNat s.val &&& 31))) = (0 : Int32) then (0 : Int32) else (1 : Int32)) = (if (((Int8.ofNat n.val).toInt32 >>> (Int32.ofNat s.val &&& 31)) &&& (1 : Int32)) = (1 : Int32) then (1 : Int32) else (0 : Int32)) := by decide +kernel
theorem own_bit (y : Int8) (s : Int32) (h : 0 ≤ s.toInt ∧ s.toInt < 8) : (if (y.toInt32 &&& ((1 : Int32) <<< (s &&& 31))) = (0 : Int32) then (0 : Int32) else (1 : Int32)) = (if ((y.toInt32 >>> (s &&& 31)) &&& (1 : Int32)) = (1 : Int32) then (1 : Int32) else (0 : Int32)) := by
  have hy : y = Int8.ofNat y.toBitVec.toNat := by
    apply Int8.toBitVec_inj.mp
    apply BitVec.eq_of_toNat_eq
    show _ = (BitVec.ofNat 8 y.toBitVec.toNat).toNat
    have := y.toBitVec.isLt
    rw [BitVec.toNat_ofNat]; omega
  have hs : s = Int32.ofNat s.toInt.toNat := by rw [own_eq32, own_ofNat_toInt (by omega)]; omega
  rw [hy, hs]
  exact own_bits ⟨_, y.toBitVec.isLt⟩ ⟨s.toInt.toNat, by omega⟩
theorem own_len4 (y : Int32) : (y &&& (3 : Int32)) = 0 ∨ (y &&& (3 : Int32)) = 1 ∨ (y &&& (3 : Int32)) = 2 ∨ (y &&& (3 : Int32)) = 3 := by
  have e := own_and3 y
  have q : y.toInt % 4 = 0 ∨ y.toInt % 4 = 1 ∨ y.toInt % 4 = 2 ∨ y.toInt % 4 = 3 := by omega
  rcases q with q | q | q | q <;> rw [q] at e
  · exact Or.inl (own_eq32.mpr e)
  · exact Or.inr (Or.inl (own_eq32.mpr e))
  · exact Or.inr (Or.inr (Or.inl (own_eq32.mpr e)))
  · exact Or.inr (Or.inr (Or.inr (own_eq32.mpr e)))
theorem own_lenv (xb : Int32) : own_v0_28_8 xb = 0 ∨ own_v0_28_8 xb = 1 ∨ own_v0_28_8 xb = 2 ∨ own_v0_28_8 xb = 3 := by
  unfold own_v0_28_8 own_v0_23
  rcases own_len4 ((xb.toUInt32 >>> ((1 : Int32) &&& 31).toUInt32).toInt32) with h | h | h | h <;> rw [h] <;> decide
theorem own_nar (y : Int8) : y.toInt32.toInt8.toInt32 = y.toInt32 := by simp
theorem own_core (i ln : Int32) (y0 y1 y2 : Int8) (hi : ¬ i < (0 : Int32)) (hl : ln = 0 ∨ ln = 1 ∨ ln = 2 ∨ ln = 3) :
    own_f3 i (own_mkn ln) (own_mk ln y0.toInt32 y1.toInt32 y2.toInt32) = (if ((i.toUInt32 >>> ((3 : Int32) &&& 31).toUInt32).toInt32) < ln then (if (((if ((i.toUInt32 >>> ((3 : Int32) &&& 31).toUInt32).toInt32) = (0 : Int32) then y0.toInt32 else (if ((i.toUInt32 >>> ((3 : Int32) &&& 31).toUInt32).toInt32) = (1 : Int32) then y1.toInt32 else y2.toInt32)) >>> ((i &&& (7 : Int32)) &&& 31)) &&& (1 : Int32)) = (1 : Int32) then (1 : Int32) else (0 : Int32)) else (0 : Int32)) := by
  have d := own_div8i hi
  have hi2 := hi
  rw [own_lt32, show (0 : Int32).toInt = 0 from rfl] at hi2
  have u : ((i.toUInt32 >>> ((3 : Int32) &&& 31).toUInt32).toInt32).toInt = i.toInt / 8 := Jvm.Kit.i32_iushr (by rw [Int32.le_iff_toInt_le]; show 0 ≤ i.toInt; omega) (k := 3) (by decide) (by decide)
  have eu : ((i.toUInt32 >>> ((3 : Int32) &&& 31).toUInt32).toInt32) = i / (8 : Int32) := by rw [own_eq32, u, d]
  have em : own_irem i (8 : Int32) = i &&& (7 : Int32) := by rw [own_eq32, own_mod32, own_and7, show (8 : Int32).toInt = 8 from rfl, Int.tmod_eq_emod_of_nonneg (by omega)]
  have hb := own_and7 i
  have bit := fun y => own_bit y (i &&& (7 : Int32)) (by omega)
  have bit' : ∀ y : Int8, (if (y.toInt32.toInt8.toInt32 &&& ((1 : Int32) <<< ((i &&& (7 : Int32)) &&& 31))) = (0 : Int32) then (0 : Int32) else (1 : Int32)) = (if ((y.toInt32 >>> ((i &&& (7 : Int32)) &&& 31)) &&& (1 : Int32)) = (1 : Int32) then (1 : Int32) else (0 : Int32)) := fun y => by rw [own_nar]; exact bit y
  rw [eu]
  unfold own_f3 own_v3_9_s0
  rw [em]
  generalize hj : i / (8 : Int32) = j at *
  have hj0 : 0 ≤ j.toInt := by omega
  clear eu u d em hb
  by_cases q0 : j.toInt = 0
  · obtain rfl : j = 0 := own_eq32.mpr q0
    rcases hl with rfl | rfl | rfl | rfl
    · rfl
    all_goals exact bit' y0
  · by_cases q1 : j.toInt = 1
    · obtain rfl : j = 1 := own_eq32.mpr q1
      rcases hl with rfl | rfl | rfl | rfl
      · rfl
      · rfl
      all_goals exact bit' y1
    · by_cases q2 : j.toInt = 2
      · obtain rfl : j = 2 := own_eq32.mpr q2
        rcases hl with rfl | rfl | rfl | rfl
        · rfl
        · rfl
        · rfl
        all_goals exact bit' y2
      · have big : ∀ n : Int32, n.toInt ≤ 3 → ¬ j < n := fun n hn z => by rw [own_lt32] at z; omega
        rw [if_neg (big _ (by rcases hl with rfl | rfl | rfl | rfl <;> decide)), if_neg (big _ (by rcases hl with rfl | rfl | rfl | rfl <;> decide))]
theorem own_plain (xa xb xc : Int32) : (own_f0 xa xb xc) = 1 :=
  if_pos (own_core (own_v0_57_10 xb xc) (own_v0_28_8 xb) xa.toInt8 (xa >>> ((8 : Int32) &&& 31)).toInt8 (xa >>> ((16 : Int32) &&& 31)).toInt8 (own_nn xb xc) (own_lenv xb))

set_option maxRecDepth 65536 in
set_option maxHeartbeats 40000000 in
theorem comes_1 {Post : Tables → Env → Array Value → State → Outcome → State → Prop} (hpost : ∀ tb e args s v u, (limb_1_1.after args s (.returned v) u = true ∧ limb_1_2.after args s (.returned v) u = true ∧ True) → FrameEnd s (.returned v) u (Jvm.fieldLocs frame_1_writes args s ++ Jvm.arrayLocs frame_1_arrays args s ++ Jvm.staticLocs frame_1_statics s) 16 128 → Post tb e args s (.returned v) u) :
    ArmFor flags0 classFile x code maxLocals ret World_1 tables_1 room_1 Calls_1 rest_1 Pre_1 Post := by
  intro l hfl _ _ p e ha hc hk s m args below hf hA hF happ hP
  obtain ⟨hcalls, hrest, hpre⟩ := hP
  obtain ⟨-, -, -, hnamed, -, -, -, hat⟩ := (Spec.applies_iff hf).mp happ
  obtain ⟨hg, hn⟩ := and_e (Cond.before_iff.mp (show (Jvm.Cond.and given_1 narrow_1).before args s = true from hpre))
  obtain ⟨gg1, gg2⟩ := and_e hg
  obtain ⟨gg3, gg4⟩ := and_e gg2
  obtain ⟨gg5, gg6⟩ := and_e gg4
  obtain ⟨gg7, gg8⟩ := and_e gg6
  obtain ⟨w0, w1, w2, w3, rfl⟩ : ∃ w0 w1 w2 w3 : Value, args = #[w0, w1, w2, w3] := by
    have hs : args.size = 4 := by simpa [Cond.value, given_1] using gg1
    obtain ⟨L⟩ := args
    match L, hs with
    | [w0, w1, w2, w3], _ => exact ⟨w0, w1, w2, w3, rfl⟩
  have hw := fun d (hd : d ∈ tables_1) => atoms_spec (ws := Jvm.Cond.code x code maxLocals ret :: tables_1) hat d (List.mem_cons_of_mem _ hd)
  have hfit : Fit s := fun {y c} hc i hi => by
    obtain ⟨ha, rfl⟩ := Array.getElem?_eq_some_iff.mp hc
    have q := List.all_eq_true.mp ((Array.all_eq_true_iff_forall_mem.mp hF) _ (Array.getElem_mem ha)) i (List.mem_range.mpr hi)
    simpa [Array.getElem?_eq_getElem hi] using q
  obtain ⟨i0, ei0⟩ := is_v gg3
  obtain rfl : w0 = (.int i0) := Option.some.inj ei0
  obtain ⟨i1, ei1⟩ := is_v gg5
  obtain rfl : w1 = (.int i1) := Option.some.inj ei1
  obtain ⟨i2, ei2⟩ := is_v gg7
  obtain rfl : w2 = (.int i2) := Option.some.inj ei2
  obtain ⟨i3, ei3⟩ := isL_v gg8
  obtain rfl : w3 = (.long i3) := Option.some.inj ei3
  obtain ⟨n, o, h1, h2, h3, _, L, rfl, ⟨rv, N⟩, hq⟩ := own_rm0 l s _ hw tables_1 i0 i1 i2 i3 s.heap s.heap.size (Nat.le_refl _) p e ha hc hk s m _ below hf ((Spec.applies_iff_loose hf).mp happ).1 ⟨rfl, State.Warmed39.refl s, rfl⟩ trivial
  rw [own_plain] at rv
  subst rv
  refine ⟨n, _, h1, h2, h3, hpost _ _ _ _ _ _ ⟨Cond.after_iff.mpr rfl, Cond.after_iff.mpr (eq_i res_at (Term.int_eval (1)) rfl), trivial⟩ ⟨hq.1, hq.2.1, (hq.2.2.sift fun y hy => Or.inr (N y hy)).mono (by decide) (by decide)⟩⟩
theorem main_1_1 : Claimed_1_1 := comes_1 fun _ _ _ _ _ _ h hF => ⟨h.1, hF⟩
theorem main_1_2 : Claimed_1_2 := comes_1 fun _ _ _ _ _ _ h hF => ⟨h.2.1, hF⟩
end Jvm.Pilot.@@N@@
namespace Jvm.Pilot.@@N@@
open Jvm Jvm.ClassFile Sem Op Lib Jvm.Free Jvm.Stand Jvm.Pilot.@@N@@.Jvm.D
/-! MADE BY PROGRAM (witnessworld.py) out of the Statement's table words and the real class files: 12 classes; the members and pool entries that the words name. The judged class is class 1, her method 2. -/
namespace start1
open Jvm.ClassFile
def u (s : String) : CpInfo := .utf8 (stringToUtf16 s)
/-- a pool by its gaps: so many unusable entries, then the entry; so many at the end -/
def gap : Nat → List CpInfo → List CpInfo
  | 0, r => r
  | n + 1, r => .unusable :: gap n r
def poolList (es : List (Nat × CpInfo)) (last : Nat) : List CpInfo := es.foldr (fun e r => gap e.1 (e.2 :: r)) (gap last [])
def pool (es : List (Nat × CpInfo)) (last : Nat) : Array CpInfo := ⟨poolList es last⟩
def fileOf (pool : Array CpInfo) (this : Nat) (attrs : Array Attribute := #[]) (ms : Array MethodInfo := #[]) (fl : Nat := 33) (sup : Nat := 0) (ifs : Array Nat := #[]) (fds : Array FieldInfo := #[]) : ClassFile where
  minorVersion := 0
  majorVersion := 65
  constantPool := pool
  accessFlags := fl
  thisClass := this
  superClass := sup
  interfaces := ifs
  fields := fds
  methods := ms
  attributes := attrs
def plain (name : String) (sup : Option ClassId) : Class where
  name := name
  kind := .ordinary
  loader := none
  accessFlags := 33
  super := sup
  interfaces := #[]
  cf := none
  fields := #[]
  methods := #[]
  instanceTypes := #[]
  staticTypes := #[]
  resolved := #[]
  callSites := []
  init := .initialized
  statics := none
  mirror := none

def pool0 : Array CpInfo := pool [(5, u "<init>"), (0, u "()V"), (1, .class_ 10), (1, u "java/lang/Object")] 113

def k0c0 : Code := { maxStack := 0, maxLocals := 1, code := object_method_1_code, exceptionTable := #[], attributes := #[] }
def k0m0 : Method := { name := "<init>", desc := "()V", sig := { parameters := [], returnType := none }, accessFlags := 1, code := some k0c0 }
/-- java/lang/Object -/
def k0 : Class := { plain "java/lang/Object" none with
  accessFlags := 33
  interfaces := #[]
  cf := some (fileOf pool0 8 #[] #[{ accessFlags := 1, nameIndex := 5, descriptorIndex := 6, attributes := #[] }] 33 0 #[] #[])
  fields := #[]
  methods := #[k0m0]
  instanceTypes := #[]
  staticTypes := #[]
  resolved := Array.replicate 124 none
  statics := none }

def pool1 : Array CpInfo := pool [(2, .class_ 4), (1, u "java/lang/Object"), (0, u "<init>"), (0, u "()V"), (0, .integer 2147483647), (0, .methodref 9 10), (0, .class_ 11), (0, .nameAndType 12 13), (0, u "com/example/halyard/halyard/protocol/EntriesHeldHoldsPinLaw"), (0, u "make"), (0, u "(IBBB)[B"), (0, .class_ 15), (0, u "com/example/halyard/halyard/protocol/Frame$EntriesHeld"), (0, .methodref 14 17), (0, .nameAndType 5 18), (0, u "(JZ[B)V"), (0, .methodref 14 20), (0, .nameAndType 21 22), (0, u "holds"), (0, u "(I)Z"), (3, u "law"), (0, u "(IIIJ)Z")] 8

def k1m0 : Method := { name := "<init>", desc := "()V", sig := { parameters := [], returnType := none }, accessFlags := 2, code := none }
def k1c1 : Code := { maxStack := 4, maxLocals := 4, code := method_2_code, exceptionTable := #[], attributes := #[] }
def k1m1 : Method := { name := "make", desc := "(IBBB)[B", sig := { parameters := [.int, .byte, .byte, .byte], returnType := some (.array .byte) }, accessFlags := 10, code := some k1c1 }
def k1c2 : Code := { maxStack := 6, maxLocals := 18, code := code, exceptionTable := #[], attributes := #[] }
def k1m2 : Method := { name := "law", desc := "(IIIJ)Z", sig := { parameters := [.int, .int, .int, .long], returnType := some .boolean }, accessFlags := 9, code := some k1c2 }
/-- com/example/halyard/halyard/protocol/EntriesHeldHoldsPinLaw -/
def k1 : Class := { plain "com/example/halyard/halyard/protocol/EntriesHeldHoldsPinLaw" (some 0) with
  accessFlags := 49
  interfaces := #[]
  cf := some (fileOf pool1 9 #[] #[{ accessFlags := 2, nameIndex := 5, descriptorIndex := 6, attributes := #[] }, { accessFlags := 10, nameIndex := 12, descriptorIndex := 13, attributes := #[] }, { accessFlags := 9, nameIndex := 26, descriptorIndex := 27, attributes := #[] }] 49 2 #[] #[])
  fields := #[]
  methods := #[k1m0, k1m1, k1m2]
  instanceTypes := #[]
  staticTypes := #[]
  resolved := Array.replicate 36 none
  statics := none }

def pool2 : Array CpInfo := pool [(1, .methodref 2 3), (0, .class_ 4), (0, .nameAndType 5 6), (0, u "java/lang/Object"), (0, u "<init>"), (0, u "()V"), (0, .class_ 8), (0, u "java/lang/Record")] 13

def k2c0 : Code := { maxStack := 1, maxLocals := 1, code := jdk_30_method_1_code, exceptionTable := #[], attributes := #[] }
def k2m0 : Method := { name := "<init>", desc := "()V", sig := { parameters := [], returnType := none }, accessFlags := 4, code := some k2c0 }
/-- java/lang/Record -/
def k2 : Class := { plain "java/lang/Record" (some 0) with
  accessFlags := 1057
  interfaces := #[]
  cf := some (fileOf pool2 7 #[] #[{ accessFlags := 4, nameIndex := 5, descriptorIndex := 6, attributes := #[] }] 1057 2 #[] #[])
  fields := #[]
  methods := #[k2m0]
  instanceTypes := #[]
  staticTypes := #[]
  resolved := Array.replicate 22 none
  statics := none }

def pool3 : Array CpInfo := pool [(7, .class_ 8), (0, u "com/example/halyard/halyard/protocol/Frame"), (8, .class_ 18), (0, u "java/lang/Object"), (0, u "NO_RECOVERY"), (0, u "J"), (18, .class_ 40), (0, u "com/example/halyard/halyard/protocol/Frame$Info"), (0, .class_ 42), (0, u "com/example/halyard/halyard/protocol/Frame$Fenced"), (0, .class_ 44), (0, u "com/example/halyard/halyard/protocol/Frame$LedgerClosed"), (0, .class_ 46), (0, u "com/example/halyard/halyard/protocol/Frame$Entry"), (0, .class_ 48), (0, u "com/example/halyard/halyard/protocol/Frame$EntriesHeld"), (0, .class_ 50), (0, u "com/example/halyard/halyard/protocol/Frame$ListEntries"), (0, .class_ 52), (0, u "com/example/halyard/halyard/protocol/Frame$GetInfo"), (0, .class_ 54), (0, u "com/example/halyard/halyard/protocol/Frame$DeleteLedger"), (0, .class_ 56), (0, u "com/example/halyard/halyard/protocol/Frame$CloseLedger"), (0, .class_ 58), (0, u "com/example/halyard/halyard/protocol/Frame$ReadEntry"), (0, .class_ 60), (0, u "com/example/halyard/halyard/protocol/Frame$CopyEntry"), (0, .class_ 62), (0, u "com/example/halyard/halyard/protocol/Frame$AddEntries"), (0, .class_ 64), (0, u "com/example/halyard/halyard/protocol/Frame$AddEntry"), (0, .class_ 66), (0, u "com/example/halyard/halyard/protocol/Frame$Failure"), (0, .class_ 68), (0, u "com/example/halyard/halyard/protocol/Frame$Success"), (0, .class_ 70), (0, u "com/example/halyard/halyard/protocol/Frame$Stopping"), (0, .class_ 72), (0, u "com/example/halyard/halyard/protocol/Frame$ConsumerClosed"), (0, .class_ 74), (0, u "com/example/halyard/halyard/protocol/Frame$ProducerClosed"), (0, .class_ 76), (0, u "com/example/halyard/halyard/protocol/Frame$Owner"), (0, .class_ 78), (0, u "com/example/halyard/halyard/protocol/Frame$Lookup"), (0, .class_ 80), (0, u "com/example/halyard/halyard/protocol/Frame$CloseConsumer"), (0, .class_ 82), (0, u "com/example/halyard/halyard/protocol/Frame$Ack"), (0, .class_ 84), (0, u "com/example/halyard/halyard/protocol/Frame$Message"), (0, .class_ 86), (0, u "com/example/halyard/halyard/protocol/Frame$Flow"), (0, .class_ 88), (0, u "com/example/halyard/halyard/protocol/Frame$Subscribe"), (0, .class_ 90), (0, u "com/example/halyard/halyard/protocol/Frame$CloseProducer"), (0, .class_ 92), (0, u "com/example/halyard/halyard/protocol/Frame$SendReceipt"), (0, .class_ 94), (0, u "com/example/halyard/halyard/protocol/Frame$Send"), (0, .class_ 96), (0, u "com/example/halyard/halyard/protocol/Frame$CreateProducer"), (0, .class_ 98), (0, u "com/example/halyard/halyard/protocol/Frame$Welcome"), (0, .class_ 100), (0, u "com/example/halyard/halyard/protocol/Frame$Hello"), (0, .class_ 102), (0, u "com/example/halyard/halyard/protocol/Frame$Type"), (0, .class_ 104), (0, u "com/example/halyard/halyard/protocol/Frame$Reply"), (0, .class_ 106), (0, u "com/example/halyard/halyard/protocol/Frame$Request")] 35

/-- com/example/halyard/halyard/protocol/Frame -/
def k3 : Class := { plain "com/example/halyard/halyard/protocol/Frame" (some 0) with
  accessFlags := 1537
  interfaces := #[]
  cf := some (fileOf pool3 7 #[.nestMembers #[39, 41, 43, 45, 47, 49, 51, 53, 55, 57, 59, 61, 63, 65, 67, 69, 71, 73, 75, 77, 79, 81, 83, 85, 87, 89, 91, 93, 95, 97, 99, 101, 103, 105]] #[] 1537 17 #[] #[{ accessFlags := 25, nameIndex := 19, descriptorIndex := 20, attributes := #[] }])
  fields := #[{ name := "NO_RECOVERY", type := .long, accessFlags := 25, slot := 0, constantValue := 0 }]
  methods := #[]
  instanceTypes := #[]
  staticTypes := #[.long]
  resolved := Array.replicate 142 none
  statics := none }

def pool4 : Array CpInfo := pool [(1, .class_ 2), (0, u "com/example/halyard/halyard/protocol/Frame$Reply"), (0, .class_ 4), (0, u "java/lang/Object"), (0, .class_ 6), (0, u "com/example/halyard/halyard/protocol/Frame")] 7

/-- com/example/halyard/halyard/protocol/Frame$Reply -/
def k4 : Class := { plain "com/example/halyard/halyard/protocol/Frame$Reply" (some 0) with
  accessFlags := 1537
  interfaces := #[3]
  cf := some (fileOf pool4 1 #[.nestHost 5] #[] 1537 3 #[5] #[])
  fields := #[]
  methods := #[]
  instanceTypes := #[]
  staticTypes := #[]
  resolved := Array.replicate 14 none
  statics := none }

def pool5 : Array CpInfo := pool [(1, .methodref 2 3), (0, .class_ 4), (0, .nameAndType 5 6), (0, u "java/lang/Record"), (0, u "<init>"), (0, u "()V"), (0, .fieldref 8 9), (0, .class_ 10), (0, .nameAndType 11 12), (0, u "com/example/halyard/halyard/protocol/Frame$EntriesHeld"), (0, u "requestId"), (0, u "J"), (0, .fieldref 8 14), (0, .nameAndType 15 16), (0, u "fenced"), (0, u "Z"), (0, .fieldref 8 18), (0, .nameAndType 19 20), (0, u "held"), (0, u "[B"), (16, u "(JZ[B)V"), (57, .class_ 96), (0, u "com/example/halyard/halyard/protocol/Frame$Reply"), (4, u "holds"), (0, u "(I)Z"), (16, .class_ 120), (0, u "com/example/halyard/halyard/protocol/Frame")] 31

def k5c0 : Code := { maxStack := 3, maxLocals := 5, code := prog_139_method_2_code, exceptionTable := #[], attributes := #[] }
def k5m0 : Method := { name := "<init>", desc := "(JZ[B)V", sig := { parameters := [.long, .boolean, (.array .byte)], returnType := none }, accessFlags := 1, code := some k5c0 }
def k5c1 : Code := { maxStack := 4, maxLocals := 2, code := prog_139_method_3_code, exceptionTable := #[], attributes := #[] }
def k5m1 : Method := { name := "holds", desc := "(I)Z", sig := { parameters := [.int], returnType := some .boolean }, accessFlags := 1, code := some k5c1 }
/-- com/example/halyard/halyard/protocol/Frame$EntriesHeld -/
def k5 : Class := { plain "com/example/halyard/halyard/protocol/Frame$EntriesHeld" (some 2) with
  accessFlags := 49
  interfaces := #[4]
  cf := some (fileOf pool5 8 #[.nestHost 119] #[{ accessFlags := 1, nameIndex := 5, descriptorIndex := 37, attributes := #[] }, { accessFlags := 1, nameIndex := 101, descriptorIndex := 102, attributes := #[] }] 49 2 #[95] #[{ accessFlags := 18, nameIndex := 11, descriptorIndex := 12, attributes := #[] }, { accessFlags := 18, nameIndex := 15, descriptorIndex := 16, attributes := #[] }, { accessFlags := 18, nameIndex := 19, descriptorIndex := 20, attributes := #[] }])
  fields := #[{ name := "requestId", type := .long, accessFlags := 18, slot := 0, constantValue := 0 }, { name := "fenced", type := .boolean, accessFlags := 18, slot := 1, constantValue := 0 }, { name := "held", type := (.array .byte), accessFlags := 18, slot := 2, constantValue := 0 }]
  methods := #[k5m0, k5m1]
  instanceTypes := #[.long, .boolean, (.array .byte)]
  staticTypes := #[]
  resolved := Array.replicate 152 none
  statics := none }

def pool6 : Array CpInfo := pool [(1, u "java/lang/Cloneable"), (0, .class_ 1), (0, u "java/lang/Object"), (0, .class_ 3)] 3

/-- java/lang/Cloneable -/
def k6 : Class := { plain "java/lang/Cloneable" (some 0) with
  accessFlags := 1537
  interfaces := #[]
  cf := some (fileOf pool6 2 #[] #[] 1537 4 #[] #[])
  fields := #[]
  methods := #[]
  instanceTypes := #[]
  staticTypes := #[]
  resolved := Array.replicate 8 none
  statics := none }

def pool7 : Array CpInfo := pool [(1, u "java/io/Serializable"), (0, .class_ 1), (0, u "java/lang/Object"), (0, .class_ 3)] 3

/-- java/io/Serializable -/
def k7 : Class := { plain "java/io/Serializable" (some 0) with
  accessFlags := 1537
  interfaces := #[]
  cf := some (fileOf pool7 2 #[] #[] 1537 4 #[] #[])
  fields := #[]
  methods := #[]
  instanceTypes := #[]
  staticTypes := #[]
  resolved := Array.replicate 8 none
  statics := none }

/-- the primitive byte -/
def k8 : Class := { plain "byte" none with kind := .primitive 'B', accessFlags := 0x411 }
/-- [B -/
def k9 : Class := { plain "[B" (some 0) with kind := .array 8 .byte, interfaces := #[6, 7], accessFlags := 1041 }

/-- the primitive int -/
def k10 : Class := { plain "int" none with kind := .primitive 'I', accessFlags := 0x411 }
/-- [I -/
def k11 : Class := { plain "[I" (some 0) with kind := .array 10 .int, interfaces := #[6, 7], accessFlags := 1041 }

def heap : Heap := #[]
def classes : Array Class := #[k0, k1, k2, k3, k4, k5, k6, k7, k8, k9, k10, k11]
def interned : List (Array UInt16 × Addr) := []
def slotsUsed : Nat := 0
def theMethod : MethodId := ⟨1, 2⟩
def args0 : Array Value := #[.int 70000, .int 6, .int 9, .long 4]
def aboutOver (below : List Frame) : State where
  vm := { classes := classes, interned := interned.toArray }
  heap := heap
  slotsUsed := slotsUsed
  threads := #[{ frames := .invoking theMethod args0 :: below }]
def below0 : List Frame := [.native { method := ⟨0, 0⟩, args := #[] }]
def about1 : State := aboutOver below0
def p0 : Program := .bare "" "" ""
def e0 : Env := launch0.env 0 0 0
theorem w_frames : about1.frames = Frame.invoking theMethod args0 :: below0 := rfl
set_option maxRecDepth 65536 in
theorem w_args : argsFit about1.vm theMethod args0 = true := by decide +kernel
set_option maxRecDepth 65536 in
theorem w_heap : heapFits about1 = true := by decide +kernel
set_option maxRecDepth 65536 in
theorem w_runnable : about1.curStatus? = some .runnable := by decide +kernel
set_option maxRecDepth 65536 in
theorem w_alone : about1.alone = true := by decide +kernel
set_option maxRecDepth 65536 in
theorem w_named : about1.methodNamed? x = some theMethod := by decide +kernel
set_option maxRecDepth 65536 in
theorem w_hears : about1.hears theMethod below0 = true := by decide +kernel
set_option maxRecDepth 65536 in
theorem w_ripe : about1.ripe theMethod args0 below0 = true := by decide +kernel
theorem w_running : about1.status = .running := rfl
set_option maxRecDepth 65536 in
theorem w_room : about1.hasRoom e0.platform room_1 = true :=
  launch0.hasRoom_least _ room_1 (by decide +kernel) (by decide +kernel) (by decide +kernel) (by decide +kernel) (by decide +kernel) (by decide +kernel)
theorem allAtoms_all (ts : List Jvm.Cond) (a : Array Jvm.Value) (st : Jvm.State) : (allAtoms ts).before a st = ts.all (fun c => c.before a st) := by
  induction ts with
  | nil => rfl
  | cons c t ih =>
    show (Jvm.Cond.and c (allAtoms t)).before a st = _
    rw [Jvm.Cond.before_and, ih, List.all_cons]
def words1 : List Jvm.Cond := Jvm.Cond.code x code maxLocals ret :: tables_1
/-- a 'code' word, met by the world's own term for the bytes: nothing is compared byte by byte -/
theorem code_word {y : MethodName} {bytes : ByteArray} {mx : Nat} {rt : Option FieldType} {a : Array Value} {s : State} {m : MethodId} {meth : Method} {c : Code} (h1 : s.methodNamed? y = some m) (h2 : s.vm.method? m = some meth) (h3 : meth.code = some c) (h4 : c.code = bytes)
    (h5 : (c.maxLocals == mx && c.exceptionTable.isEmpty && decide (c.maxStack ≤ mostOperands) && decide (meth.sig.returnType = rt) && !meth.locks && decide (parseMethodDescriptor y.desc = some meth.sig)) = true) : (Jvm.Cond.code y bytes mx rt).before a s = true := by
  simp only [Bool.and_eq_true, beq_iff_eq, Bool.not_eq_true', decide_eq_true_eq] at h5
  obtain ⟨⟨⟨⟨⟨g1, g2⟩, g3⟩, g4⟩, g5⟩, g6⟩ := h5
  simp [Cond.before, Cond.holds, Cond.value, h1, h2, h3, h4, g1, g2, g3, g4, g5, g6]
def isCode : Jvm.Cond → Bool
  | .code _ _ _ _ => true
  | _ => false
theorem all_split {L : List Jvm.Cond} {P : Jvm.Cond → Bool} (h1 : L.all (fun c => isCode c || P c) = true) (h2 : ∀ c ∈ L.filter isCode, P c = true) : L.all P = true := by
  refine List.all_eq_true.mpr fun c hc => ?_
  have h := List.all_eq_true.mp h1 c hc
  rcases Bool.eq_false_or_eq_true (isCode c) with hi | hi
  · exact h2 c (List.mem_filter.mpr ⟨hc, hi⟩)
  · simpa [hi] using h
set_option maxRecDepth 65536 in
theorem w_c0 : (Jvm.Cond.code x code maxLocals ret).before args0 about1 = true := code_word (m := ⟨1, 2⟩) (meth := k1m2) (c := k1c2) (by decide +kernel) rfl rfl rfl (by decide +kernel)
set_option maxRecDepth 65536 in
theorem w_c1 : (Jvm.Cond.code ({ cls := "com/example/halyard/halyard/protocol/EntriesHeldHoldsPinLaw", name := "make", desc := "(IBBB)[B" } : Jvm.MethodName) method_2_code (4 : Nat) (Option.some (Jvm.ClassFile.FieldType.array Jvm.ClassFile.FieldType.byte))).before args0 about1 = true := code_word (m := ⟨1, 1⟩) (meth := k1m1) (c := k1c1) (by decide +kernel) rfl rfl rfl (by decide +kernel)
set_option maxRecDepth 65536 in
theorem w_c2 : (Jvm.Cond.code ({ cls := "com/example/halyard/halyard/protocol/Frame$EntriesHeld", name := "<init>", desc := "(JZ[B)V" } : Jvm.MethodName) prog_139_method_2_code (5 : Nat) (Option.none : Option Jvm.ClassFile.FieldType)).before args0 about1 = true := code_word (m := ⟨5, 0⟩) (meth := k5m0) (c := k5c0) (by decide +kernel) rfl rfl rfl (by decide +kernel)
set_option maxRecDepth 65536 in
theorem w_c3 : (Jvm.Cond.code ({ cls := "java/lang/Record", name := "<init>", desc := "()V" } : Jvm.MethodName) jdk_30_method_1_code (1 : Nat) (Option.none : Option Jvm.ClassFile.FieldType)).before args0 about1 = true := code_word (m := ⟨2, 0⟩) (meth := k2m0) (c := k2c0) (by decide +kernel) rfl rfl rfl (by decide +kernel)
set_option maxRecDepth 65536 in
theorem w_c4 : (Jvm.Cond.code ({ cls := "java/lang/Object", name := "<init>", desc := "()V" } : Jvm.MethodName) object_method_1_code (1 : Nat) (Option.none : Option Jvm.ClassFile.FieldType)).before args0 about1 = true := code_word (m := ⟨0, 0⟩) (meth := k0m0) (c := k0c0) (by decide +kernel) rfl rfl rfl (by decide +kernel)
set_option maxRecDepth 65536 in
theorem w_c5 : (Jvm.Cond.code ({ cls := "com/example/halyard/halyard/protocol/Frame$EntriesHeld", name := "holds", desc := "(I)Z" } : Jvm.MethodName) prog_139_method_3_code (2 : Nat) (Option.some Jvm.ClassFile.FieldType.boolean)).before args0 about1 = true := code_word (m := ⟨5, 1⟩) (meth := k5m1) (c := k5c1) (by decide +kernel) rfl rfl rfl (by decide +kernel)
def codes1 : List Jvm.Cond := [Jvm.Cond.code x code maxLocals ret, Jvm.Cond.code ({ cls := "com/example/halyard/halyard/protocol/EntriesHeldHoldsPinLaw", name := "make", desc := "(IBBB)[B" } : Jvm.MethodName) method_2_code (4 : Nat) (Option.some (Jvm.ClassFile.FieldType.array Jvm.ClassFile.FieldType.byte)), Jvm.Cond.code ({ cls := "com/example/halyard/halyard/protocol/Frame$EntriesHeld", name := "<init>", desc := "(JZ[B)V" } : Jvm.MethodName) prog_139_method_2_code (5 : Nat) (Option.none : Option Jvm.ClassFile.FieldType), Jvm.Cond.code ({ cls := "java/lang/Record", name := "<init>", desc := "()V" } : Jvm.MethodName) jdk_30_method_1_code (1 : Nat) (Option.none : Option Jvm.ClassFile.FieldType), Jvm.Cond.code ({ cls := "java/lang/Object", name := "<init>", desc := "()V" } : Jvm.MethodName) object_method_1_code (1 : Nat) (Option.none : Option Jvm.ClassFile.FieldType), Jvm.Cond.code ({ cls := "com/example/halyard/halyard/protocol/Frame$EntriesHeld", name := "holds", desc := "(I)Z" } : Jvm.MethodName) prog_139_method_3_code (2 : Nat) (Option.some Jvm.ClassFile.FieldType.boolean)]
set_option maxRecDepth 65536 in
theorem codes_eq : words1.filter isCode = codes1 := rfl
theorem w_codes : ∀ c ∈ words1.filter isCode, c.before args0 about1 = true := by
  rw [codes_eq]
  intro c hc
  simp only [codes1, List.mem_cons, List.not_mem_nil, or_false] at hc
  rcases hc with rfl | rfl | rfl | rfl | rfl | rfl
  · exact w_c0
  · exact w_c1
  · exact w_c2
  · exact w_c3
  · exact w_c4
  · exact w_c5
set_option maxRecDepth 65536 in
theorem w_t1 : (words1.take 24).all (fun c => isCode c || c.before args0 about1) = true := by decide +kernel
set_option maxRecDepth 65536 in
theorem w_t2 : (words1.drop 24).all (fun c => isCode c || c.before args0 about1) = true := by decide +kernel
theorem w_tables : (allAtoms (Jvm.Cond.code x code maxLocals ret :: tables_1)).before args0 about1 = true := by
  rw [allAtoms_all]
  show words1.all (fun c => c.before args0 about1) = true
  refine all_split ?_ w_codes
  rw [← List.take_append_drop 24 words1, List.all_append, w_t1, w_t2]
  rfl
set_option maxRecDepth 65536 in
theorem w_case : (Jvm.Cond.and given_1 narrow_1).before args0 about1 = true := by decide +kernel
theorem w_applies : (headSpec (Jvm.Cond.code x code maxLocals ret :: tables_1) room_1).applies x e0.platform about1 = true :=
  (Spec.applies_iff w_frames).mpr ⟨w_running, w_runnable, w_alone, w_named, w_hears, w_ripe, w_room, w_tables⟩
theorem atStart : AtStart classFile x code maxLocals ret World_1 tables_1 room_1 Calls_1 rest_1 Pre_1 launch0 p0 e0 about1 theMethod args0 below0 :=
  ⟨lists_1, trivial, launch0.admits_env _ _ _, launch0.least_env, fairChoices_fair.cas, fairChoices_fair.clock, w_frames, w_args, w_heap, w_applies, trivial, trivial, w_case⟩
end start1
theorem witness_1 : WitnessClaimed_1 := ⟨start1.p0, start1.e0, start1.about1, start1.theMethod, start1.args0, start1.below0, start1.atStart⟩
end Jvm.Pilot.@@N@@
